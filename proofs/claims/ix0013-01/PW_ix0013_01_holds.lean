import PyProof.Rows.All
import Wide.All
import OpenK.AllK
import Wide.FinOn
import PySem.Challenge.RW_ix0013_01
open PySem PySem.W PyProof.Rows PySem.Spec PySem.Calls
set_option linter.unusedVariables false
set_option linter.unusedSimpArgs false
namespace Mine
/-! plain facts of a kind of op -/
def numsIn : List Value → Option (List Int)
  | [] => some []
  | .int i _ :: r => (numsIn r).map (i :: ·)
  | _ => none
def tupHas (K : Frag) (a : Addr) (c : Int) : Option Bool := match K.lookup a with
  | some ⟨.type "tuple", _, .seq vs _, _⟩ => (numsIn vs.toList).map fun l => l.any (· == c)
  | _ => none
def itemAt (K : Frag) (a : Addr) (k : Int) : Option Value := match K.lookup a with
  | some ⟨.type "list", _, .seq vs _, _⟩ => vs.toList[k.toNat]?
  | _ => none
theorem ints_of_nums : ∀ {l : List Value} {ns : List Int}, numsIn l = some ns → IntsAre l ns
  | [], ns, h => by cases h; constructor
  | v :: r, ns, h => by
    cases v with
    | int i t =>
      unfold numsIn at h
      cases q : numsIn r with
      | none => rw [q] at h; cases h
      | some ms => rw [q] at h; cases h; exact .cons i t (ints_of_nums q)
    | _ => cases h
section
variable {prog : Program} {w : World} {A : Around} {E : Value → Shared → Prop} {s : Shared} {h₀ : Heap} {L a : Addr} {m : Str → Option Value} {K : Frag}
theorem in_abs {c : Int} {u : Tok} {b : Bool} {Q : Value → Shared → Prop} (F : Fr h₀ L s.heap m) (X₀ : K.In h₀) (e : tupHas K a c = some b) (h : Q (.bool b) s) :
    wpAny (model prog w) A (compareOp .In (.int c u) (.ref a)) Q E s := by
  unfold tupHas at e
  split at e
  · rename_i d vs n sl q
    obtain ⟨ns, e1, e2⟩ := Option.map_eq_some_iff.mp e
    subst e2
    exact in_tuple_ints ⟨_, X₀.keeps F.keep _ _ q, rfl, n, rfl⟩ (ints_of_nums e1) h
  · cases e
theorem item_abs0 {es : Array DictEntry} {n : Nat} {x : Str} {t : Tok} {v : Value} {value slice : PySem.Expr} {Q : Value → Shared → Prop} (F : Fr h₀ L s.heap m) (X₀ : K.In h₀) (hl : K.lookup a = some ⟨.type "dict", none, .dict es n, #[]⟩) (hk : KeysLit w.params es.toList) (e : nsIn K a x = some (some v))
    (h : Q v { s with toks := s.toks + 1 })
    (hs : subscripted slice false (.ref a) (.str x t) = operate [.ref a, .str x t] (getItem (.ref a) (.str x t)) := by with_unfolding_all rfl) :
    wpAny (model prog w) A (subscriptTail value slice (.ref a) (.str x t)) Q E s := topItem_K F X₀ hl hk e h hs
end
theorem fd (a : Int) : a.fdiv 256 = a / 256 := Int.fdiv_eq_ediv_of_nonneg a (by decide)
theorem fm (a : Int) : a.fmod 256 = a % 256 := Int.fmod_eq_emod_of_nonneg a (by decide)
theorem ifDec {p : Prop} [Decidable p] {T F : Prop} (hT : p → T) (hF : ¬ p → F) : WhlIf (decide p) T F := by
  by_cases h : p
  · exact WhlIf.yes (decide_eq_true h) (hT h)
  · exact WhlIf.no (decide_eq_false h) (hF h)
theorem ne_of_all {d : Addr} {l : List (Addr × Obj)} (h : AllLt d l) : ∀ p ∈ l, p.1 ≠ d := fun p hp => Nat.ne_of_lt (ktn_ltOf h p hp)
theorem unr2 {h₀ : Heap} {L I : Addr} {it : Obj} {rest : (Str → Option Value) → List (Addr × Obj) → Prop} {s₁ : Shared} {h' : Heap} {tk : Nat} {m' : Str → Option Value} {x y : Addr × Obj} {tl : List (Addr × Obj)} (F : Fr h₀ L h' m') (N : News h₀ L h' (x :: y :: (I, it) :: tl))
    (off : ∀ p ∈ x :: y :: tl, p.1 ≠ I) (r : rest m' (x :: y :: tl)) : UnrEnd h₀ L s₁ I it rest { s₁ with heap := h', toks := tk } := UnrEnd.intro F N (x :: y :: tl) (fun p h => by
      rcases List.mem_cons.mp h with rfl | h
      · exact .tail _ (.tail _ (.head _))
      · rcases List.mem_cons.mp h with rfl | h
        · exact .head _
        · rcases List.mem_cons.mp h with rfl | h
          · exact .tail _ (.head _)
          · exact .tail _ (.tail _ (.tail _ h))) off r
theorem atMethodKW {M : Model} {A : Around} {c : Code} {E : Value → Shared → Prop} {s : Shared} {env : Env} {o : PySem.Expr} {name : Str} {apos pos : Pos} {args : List PySem.Expr} {kws : List PySem.Keyword} {pl : Sem Bool} {Q : Value → Shared → Prop}
    (h : _root_.PySem.wpAt M A c (attributeBase o name env (eval o env)) (fun ov s₁ => wpAny M A (getMethod ov name pl) (fun fx s₂ => wpAny M A (callWith pos fx.1 fx.2 (backTo pos (starEach args env)) (backToKw pos (keywordEach kws env))) Q E s₂) E s₁) E s)
    (he : eval (.Call (.Attribute o name apos) args kws pos) env = (do
      let ov ← attributeBase o name env (eval o env)
      standAt apos.atName
      let (f, first) ← holding [ov] (getMethod ov name pl)
      callWith pos f first (backTo pos (starEach args env)) (backToKw pos (keywordEach kws env))) := by rfl) :
    _root_.PySem.wpAt M A c (eval (.Call (.Attribute o name apos) args kws pos) env) Q E s := by
  rw [he]
  refine PySem.wpAt_bind (PySem.wpAt_mono h (fun ov s₁ h₁ => PySem.wpAt_of_wpAny (wpAny_bind (wpAny_standAt (wpAny_bind (wpAny_holding (wpAny_mono h₁ (fun fx s₂ h₂ => ?_) fun _ _ x => x)))))) fun _ _ x => x)
  exact h₂
theorem callKWM {K : Frag} {M : Model} {A : Around} {E : Value → Shared → Prop} {s : Shared} {env : Env} {pos : Pos} {q g : Addr} {self : Value} {first : List Value} {Q : Value → Shared → Prop} {e : PySem.Expr} {rest : List PySem.Expr} {kws : List PySem.Keyword} {h₀ : Heap} {L : Addr} {news : List (Addr × Obj)}
    (_X : K.In h₀) (_N : News h₀ L s.heap news) (_q : (q, methodObj (.ref g) self) ∈ news) (hf : fnIn K g = true) (hall : (backToKw pos (keywordEach kws env)).all (·.1.isSome) = true)
    (h : wpAny M A (spliced (backTo pos (starEach (e :: rest) env))) (fun vs s₁ => wpAny M A (evalAll ((backToKw pos (keywordEach kws env)).map (·.2)))
      (fun ks s₂ => MethP K q g self s₂.heap ∧ wpAny M A (call (.ref q) (first ++ vs) (((backToKw pos (keywordEach kws env)).filterMap (·.1)).zip ks)) Q E s₂) E s₁) E s)
    (hplain : ((backTo pos (starEach (e :: rest) env)).any (·.1) || (backToKw pos (keywordEach kws env)).any (·.1.isNone)) = false := by rfl) (he : starEach (e :: rest) env = (false, eval e env) :: starEach rest env := by rfl) :
    wpAny M A (callWith pos (.ref q) first (backTo pos (starEach (e :: rest) env)) (backToKw pos (keywordEach kws env))) Q E s :=
  callWith_of hplain (keeps_M hf) (evalArgs_kw2 hall h he)
theorem ldnX {M : Model} {A : Around} {E : Value → Shared → Prop} {s : Shared} {h₀ : Heap} {L a : Addr} {m : Str → Option Value} {cn : Str} {cs : Scope} {ccd : Value} {cl : List (Str × Addr)} {x : Str} {v : Value} {Q : Value → Shared → Prop} (F : Fr h₀ L s.heap m) (hv : m x = some v) (h : Q v s)
    (hk : cs.kind = .function := by rfl) (hx : (envX cn cs L a ccd cl).kindOf x = some .local := by rfl) :
    wpAny M A (loadName (envX cn cs L a ccd cl) x) Q E s := wpAny_loadName_local hk hx F.ns hv h
theorem fs (a : Int) : a.fdiv (2 ^ (8 : Int).toNat) = a / 256 := Int.fdiv_eq_ediv_of_nonneg a (by decide)
section
variable {prog : Program} {w : World} {A : Around} {E : Value → Shared → Prop} {s : Shared} {a b : Int} {t u : Tok} {Q : Value → Shared → Prop}
theorem add_g (h : ∀ z, z = a + b → Q (.int z s.toks) { s with toks := s.toks + 1 }) : wpAny (model prog w) A (binaryOp .Add (.int a t) (.int b u)) Q E s := add_int (h _ rfl)
theorem mod_g (hb : 0 < b) (h : ∀ z, z = a % b → Q (.int z s.toks) { s with toks := s.toks + 1 }) : wpAny (model prog w) A (binaryOp .Mod (.int a t) (.int b u)) Q E s :=
  mod_int' (by omega) (h _ (Int.fmod_eq_emod_of_nonneg a (by omega)))
theorem fdiv_g (hb : 0 < b) (hl : b.natAbs.log2 < 9000) (h : ∀ z, z = a / b → Q (.int z s.toks) { s with toks := s.toks + 1 }) : wpAny (model prog w) A (binaryOp .FloorDiv (.int a t) (.int b u)) Q E s :=
  floordiv_int (by omega) (h _ (Int.fdiv_eq_ediv_of_nonneg a (by omega))) (Or.inl (PyProof.noPylong_of_log2 hl))
theorem irsh_g (h : ∀ z, z = a / 256 → Q (.int z s.toks) { s with toks := s.toks + 1 }) : wpAny (model prog w) A (inplaceOp .RShift (.int a t) (.int 8 u)) Q E s :=
  irshift_int (by decide) (h _ (Int.fdiv_eq_ediv_of_nonneg a (by decide)))
theorem and_g (h : ∀ z, z = a % 256 → Q (.int z s.toks) { s with toks := s.toks + 1 }) : wpAny (model prog w) A (binaryOp .BitAnd (.int a t) (.int 255 u)) Q E s :=
  and_int (h _ (bitAnd_m8 a))
theorem iadd_g (h : ∀ z, z = a + b → Q (.int z s.toks) { s with toks := s.toks + 1 }) : wpAny (model prog w) A (inplaceOp .Add (.int a t) (.int b u)) Q E s := iadd_int (h _ rfl)
theorem sub_g (h : ∀ z, z = a - b → Q (.int z s.toks) { s with toks := s.toks + 1 }) : wpAny (model prog w) A (binaryOp .Sub (.int a t) (.int b u)) Q E s := sub_int (h _ rfl)
theorem mul_g (h : ∀ z, z = a * b → Q (.int z s.toks) { s with toks := s.toks + 1 }) (hm : IntMulOk a b := by mul_fits) : wpAny (model prog w) A (binaryOp .Mult (.int a t) (.int b u)) Q E s := mul_int (h _ rfl) hm
end
theorem gen_toks {M : Model} {A : Around} {E : Value → Shared → Prop} {α : Type} {t : Sem α} {Q : α → Shared → Prop} {h : Heap} {g : Array GenState} {d : Drawn} {x : Nat} {o : OsState} (k : ∀ tk, wpAny M A t Q E ⟨h, g, d, tk, o⟩) : wpAny M A t Q E ⟨h, g, d, x, o⟩ := k x
theorem bindsF {s : Shared} {K : Frag} {h₀ : Heap} {L : Addr} {m : Str → Option Value} {fd : FuncData} {args : Args} {binds : List (Str × Value)} {T : Addr} {o : Obj} {items : Array Value} {n : Nat} {k : Option (Array Value) → Sem (List (Str × Value))}
    (X₀ : K.In h₀) (F : Fr h₀ L s.heap m) (hd : fd.defaults = .ref T) (ho : K.lookup T = some o) (hs : o.data = .seq items n) (h₁ : bindArgs fd args = seqItems? fd.defaults >>= k) (h₂ : k (some items) = pure binds) : BindsTo s fd args binds :=
  binds_K (X₀.keeps F.keep) hd ho hs h₁ h₂
theorem ite_t {a b : Prop} (h : a) : if (true = true) then a else b := h
theorem ite_f {a b : Prop} (h : b) : if (false = true) then a else b := h
theorem ite_nt {a b : Prop} (h : b) : if ((!true) = true) then a else b := h
theorem ite_nf {a b : Prop} (h : a) : if ((!false) = true) then a else b := h
/-- what the top's tables are -/
structure Tops (K : Frag) (P : Params) : Prop where
  d23 : ∃ es n, K.lookup 23 = some ⟨.type "dict", none, .dict es n, #[]⟩ ∧ KeysLit P es.toList
  d28 : ∃ es n, K.lookup 28 = some ⟨.type "dict", none, .dict es n, #[]⟩ ∧ KeysLit P es.toList
  ext : ∃ t, nsIn K 23 (Str.ofString "EXTENDED_ARG") = some (some (.int 2 t))
theorem item23 {prog : Program} {w : World} {A : Around} {E : Value → Shared → Prop} {s : Shared} {h₀ : Heap} {L : Addr} {m : Str → Option Value} {K : Frag} {x : Str} {t : Tok} {v : Value} {value slice : PySem.Expr} {Q : Value → Shared → Prop} (D : Tops K w.params) (F : Fr h₀ L s.heap m) (X₀ : K.In h₀) (e : nsIn K 23 x = some (some v))
    (h : Q v { s with toks := s.toks + 1 })
    (hs : subscripted slice false (.ref 23) (.str x t) = operate [.ref 23, .str x t] (getItem (.ref 23) (.str x t)) := by with_unfolding_all rfl) :
    wpAny (model prog w) A (subscriptTail value slice (.ref 23) (.str x t)) Q E s := by
  obtain ⟨es, n, hl, hk⟩ := D.d23
  exact topItem_K F X₀ hl hk e h hs
theorem item28 {prog : Program} {w : World} {A : Around} {E : Value → Shared → Prop} {s : Shared} {h₀ : Heap} {L : Addr} {m : Str → Option Value} {K : Frag} {x : Str} {t : Tok} {v : Value} {value slice : PySem.Expr} {Q : Value → Shared → Prop} (D : Tops K w.params) (F : Fr h₀ L s.heap m) (X₀ : K.In h₀) (e : nsIn K 28 x = some (some v))
    (h : Q v { s with toks := s.toks + 1 })
    (hs : subscripted slice false (.ref 28) (.str x t) = operate [.ref 28, .str x t] (getItem (.ref 28) (.str x t)) := by with_unfolding_all rfl) :
    wpAny (model prog w) A (subscriptTail value slice (.ref 28) (.str x t)) Q E s := by
  obtain ⟨es, n, hl, hk⟩ := D.d28
  exact topItem_K F X₀ hl hk e h hs
theorem in28 {prog : Program} {w : World} {A : Around} {E : Value → Shared → Prop} {s : Shared} {h₀ : Heap} {L : Addr} {m : Str → Option Value} {K : Frag} {x : Str} {t : Tok} {r : Option Value} {Q : Value → Shared → Prop} (D : Tops K w.params) (F : Fr h₀ L s.heap m) (X₀ : K.In h₀) (e : nsIn K 28 x = some r)
    (h : Q (.bool r.isSome) { s with toks := s.toks + 1 }) : wpAny (model prog w) A (compareOp .In (.str x t) (.ref 28)) Q E s := by
  obtain ⟨es, n, hl, hk⟩ := D.d28
  exact topIn_K F X₀ hl hk e (by decide) h
section
variable {M : Model} {A : Around} {E : Value → Shared → Prop} {s : Shared} {K : Frag} {h₀ : Heap} {L a : Addr} {m mg mb : Str → Option Value} {cn : Str} {cs : Scope} {ccd : Value} {cl : List (Str × Addr)} {x : Str} {pos : Pos} {v : Value} {p : Program} {loose : List Str} {mean : ExcName → Option Value} {Q : Value → Shared → Prop}
theorem nmL (hx : (envX cn cs L a ccd cl).kindOf x = some .local) (hk : cs.kind = .function) (F : Fr h₀ L s.heap m) (hv : m x = some v) (h : Q v s) (hd : (x == ("__debug__" : Str)) = false := by decide) :
    wpAny M A (eval (.Name x pos) (envX cn cs L a ccd cl)) Q E s := nameX_L F hv h hk hx hd
theorem nmK (hx : (envX cn cs L a ccd cl).kindOf x = some .globalImplicit) (hk : cs.kind = .function) (F : Fr h₀ L s.heap m) (X : K.In h₀) (T : TopRead p loose mg mb h₀) (e : nsIn K mainGlobals x = some (some v)) (h : Q v s) (hd : (x == ("__debug__" : Str)) = false := by decide) :
    wpAny M A (eval (.Name x pos) (envX cn cs L a ccd cl)) Q E s := nameX_K F X T e h hk hx hd
theorem nmLn (hx : (envX cn cs L a ccd cl).kindOf x = some .local) (hk : cs.kind = .function) (F : Fr h₀ L s.heap m) (hv : m x = some v) (h : Q v s) : wpAny M A (loadName (envX cn cs L a ccd cl) x) Q E s := ldnX F hv h hk hx
end
theorem unitsKw (A : Around) (C : Addr) (vals : List Value) (kw : List (Str × Value)) : (A.under (.builtin "type.__call__" ⟨.ref C :: vals, kw⟩)).units = A.units + 1 := rfl
theorem unitsTop (dp un : Nat) (gd : Option (List Code)) (cn : Str) (cs : Scope) (L a : Addr) (ccd : Value) (cl : List (Str × Addr)) (outer : List Env) : (ktrTop dp un gd cn cs L a ccd cl outer).units = un := rfl
theorem depthTop (dp un : Nat) (gd : Option (List Code)) (cn : Str) (cs : Scope) (L a : Addr) (ccd : Value) (cl : List (Str × Addr)) (outer : List Env) : (ktrTop dp un gd cn cs L a ccd cl outer).depth = dp := rfl
theorem memOf {α : Type} {p : α} {l : List α} (h : p ∈ l) : List.Mem p l := h
/-- the words that a number takes -/
def W (n : Int) : Int := if n < 256 then 1 else if n < 65536 then 2 else if n < 16777216 then 3 else 4
/-- the octets of an op: the extended arguments, highest first, then the op -/
def octs0 (c n : Int) : List Int :=
  if n < 256 then [c, n % 256] else if n < 65536 then [2, n / 256 % 256, c, n % 256]
  else if n < 16777216 then [2, n / 256 / 256 % 256, 2, n / 256 % 256, c, n % 256]
  else [2, n / 256 / 256 / 256 % 256, 2, n / 256 / 256 % 256, 2, n / 256 % 256, c, n % 256]
def octs (c n more : Int) : List Int := if more = 0 then octs0 c n else if more = 1 then 2 :: 0 :: octs0 c n else 2 :: 0 :: 2 :: 0 :: octs0 c n
theorem W1 {n : Int} (h : n < 256) : W n = 1 := if_pos h
theorem W2 {n : Int} (h : ¬ n < 256) (h2 : n < 65536) : W n = 2 := by unfold W; rw [if_neg h, if_pos h2]
theorem W3 {n : Int} (h : ¬ n < 65536) (h2 : n < 16777216) : W n = 3 := by unfold W; rw [if_neg (by omega), if_neg h, if_pos h2]
theorem W4 {n : Int} (h : ¬ n < 16777216) : W n = 4 := by unfold W; rw [if_neg (by omega), if_neg (by omega), if_neg h]
theorem W_eq {n k : Int} (h : (n < 256 ∧ k = 1) ∨ (256 ≤ n ∧ n < 65536 ∧ k = 2) ∨ (65536 ≤ n ∧ n < 16777216 ∧ k = 3) ∨ (16777216 ≤ n ∧ k = 4)) : k = W n := by
  unfold W
  split
  · omega
  · split
    · omega
    · split <;> omega
theorem W_s {n s : Int} (h : (n < 256 ∧ s = 2) ∨ (256 ≤ n ∧ n < 65536 ∧ s = 4) ∨ (65536 ≤ n ∧ n < 16777216 ∧ s = 6) ∨ (16777216 ≤ n ∧ s = 8)) : s = 2 * W n := by
  unfold W
  split
  · omega
  · split
    · omega
    · split <;> omega
theorem wd_of {n z more : Int} (h : (n < 256 ∧ z = 1 + more) ∨ (256 ≤ n ∧ n < 65536 ∧ z = 2 + more) ∨ (65536 ≤ n ∧ n < 16777216 ∧ z = 3 + more) ∨ (16777216 ≤ n ∧ z = 4 + more)) : z = W n + more := by
  unfold W
  split
  · omega
  · split
    · omega
    · split <;> omega
theorem W_lo (n : Int) : 1 ≤ W n := by unfold W; repeat' split <;> omega
theorem W_hi (n : Int) : W n ≤ 4 := by unfold W; repeat' split <;> omega
theorem octs0_1 {c n : Int} (h : n < 256) : octs0 c n = [c, n % 256] := if_pos h
theorem octs0_2 {c n : Int} (h : 256 ≤ n) (h2 : n < 65536) : octs0 c n = [2, n / 256 % 256, c, n % 256] := by unfold octs0; rw [if_neg (by omega), if_pos h2]
theorem octs0_3 {c n : Int} (h : 65536 ≤ n) (h2 : n < 16777216) : octs0 c n = [2, n / 256 / 256 % 256, 2, n / 256 % 256, c, n % 256] := by unfold octs0; rw [if_neg (by omega), if_neg (by omega), if_pos h2]
theorem octs0_4 {c n : Int} (h : 16777216 ≤ n) : octs0 c n = [2, n / 256 / 256 / 256 % 256, 2, n / 256 / 256 % 256, 2, n / 256 % 256, c, n % 256] := by unfold octs0; rw [if_neg (by omega), if_neg (by omega), if_neg (by omega)]
theorem octs_0 {c n : Int} : octs c n 0 = octs0 c n := rfl
theorem octs_1 {c n : Int} : octs c n 1 = 2 :: 0 :: octs0 c n := rfl
theorem octs_2 {c n : Int} : octs c n 2 = 2 :: 0 :: 2 :: 0 :: octs0 c n := rfl
/-- an op's fields -/
abbrev opDict (P : Params) (k1 k2 k3 k4 k5 k6 k7 : Tok) (ext nm op ij ar sz lo : Value) : Obj := dictOf [⟨PyData.keyHash P (Str.ofString "_extended_args"), .str (Str.ofString "_extended_args") k1, ext⟩,
  ⟨PyData.keyHash P (Str.ofString "_name"), .str (Str.ofString "_name") k2, nm⟩, ⟨PyData.keyHash P (Str.ofString "_opcode"), .str (Str.ofString "_opcode") k3, op⟩,
  ⟨PyData.keyHash P (Str.ofString "_is_jump"), .str (Str.ofString "_is_jump") k4, ij⟩, ⟨PyData.keyHash P (Str.ofString "_arg"), .str (Str.ofString "_arg") k5, ar⟩,
  ⟨PyData.keyHash P (Str.ofString "_size"), .str (Str.ofString "_size") k6, sz⟩, ⟨PyData.keyHash P (Str.ofString "_location"), .str (Str.ofString "_location") k7, lo⟩] 7
theorem sub_tl {a l : List (Addr × Obj)} {x : Addr × Obj} (h : ∀ p ∈ a, p ∈ l) : ∀ p ∈ a, p ∈ x :: l := fun p hp => .tail _ (h p hp)
theorem sub_eq {l : List (Addr × Obj)} : ∀ p ∈ l, p ∈ l := fun _ h => h
/-- a call's claim: the common part -/
abbrev At (kd : Nat) (prog : Program) (w : World) (K : Frag) (p : Program) (loose : List Str) (mean : ExcName → Option Value) (mg mb : Str → Option Value)
    (C : (h₀ : Heap) → (L : Addr) → (m : Str → Option Value) → (news : List (Addr × Obj)) → (s : Shared) → (Q E : Value → Shared → Prop) → (A : Around) → Prop) : Prop :=
  ∀ (dp un : Nat) (gd : Option (List Code)) (cn : Str) (sn : List (Str × NameKind)) (sg so : Bool) (sm : List (Str × Const)) (a : Addr) (ccd : Value) (cl : List (Str × Addr)) (outer : List Env) (A₀ : Around) (base h₀ : Heap) (L : Addr) (m : Str → Option Value) (news : List (Addr × Obj)) (s : Shared) (Q E : Value → Shared → Prop),
    Below A₀ base outer h₀ → Fr h₀ L s.heap m → K.In h₀ → News h₀ L s.heap news → Top p loose mean mg mb h₀ → dp + kd < recursionLimit → un + 20 * kd < cLine →
      C h₀ L m news s Q E (ktrTop dp un gd cn ⟨.function, sn, sg, so, sm⟩ L a ccd cl outer)
/-- ConcreteInstr(x, n), ConcreteInstr(x, n, extended_args=e) -/
def CtorC (prog : Program) (w : World) (K : Frag) (p : Program) (loose : List Str) (mean : ExcName → Option Value) (mg mb : Str → Option Value) : Prop :=
  At 40 prog w K p loose mean mg mb fun h₀ L m news s Q E A => Tops K w.params → ∀ (x : Str) (t0 t1 t2 : Tok) (c n : Int) (bj : Bool) (kw : List (Str × Value)) (ext : Value) (sz : Int), nsIn K 23 x = some (some (.int c t0)) → tupHas K 27 c = some true → tupHas K 33 c = some bj → 0 < c → c < 256 → 0 ≤ n → n ≤ 2147483647 →
    ((kw = [] ∧ ext = .none ∧ sz = 2 * W n) ∨ (∃ e te, kw = [(Str.ofString "extended_args", .int e te)] ∧ ext = .int e te ∧ sz = 2 + 2 * e)) →
    (∀ (X D : Addr) (k1 k2 k3 k4 k5 k6 k7 ts : Tok) (h' : Heap) (tk' : Nat), Fr h₀ L h' m → AllLt D news → D < X →
      News h₀ L h' ((X, instObj 412 D) :: (D, opDict w.params k1 k2 k3 k4 k5 k6 k7 ext (.str x t1) (.int c t0) (.bool bj) (.int n t2) (.int sz ts) .none) :: news) → Q (.ref X) { s with heap := h', toks := tk' }) →
    wpAny (model prog w) A (call (.ref 412) [.str x t1, .int n t2] kw) Q E s
theorem ctor_end {P : Params} {h₀ h' : Heap} {L X D : Addr} {m : Str → Option Value} {news led : List (Addr × Obj)} {s : Shared} {Q : Value → Shared → Prop} {tk' : Nat} {ext nm op ij ar : Value} {sz sz' : Int} {k1 k2 k3 k4 k5 k6 k7 ts : Tok}
    (hret : ∀ (X D : Addr) (k1 k2 k3 k4 k5 k6 k7 ts : Tok) (h' : Heap) (tk' : Nat), Fr h₀ L h' m → AllLt D news → D < X →
      News h₀ L h' ((X, instObj 412 D) :: (D, opDict P k1 k2 k3 k4 k5 k6 k7 ext nm op ij ar (.int sz ts) .none) :: news) → Q (.ref X) { s with heap := h', toks := tk' })
    (F : Fr h₀ L h' m) (N : News h₀ L h' led) (m1 : (X, instObj 412 D) ∈ led) (m2 : (D, opDict P k1 k2 k3 k4 k5 k6 k7 ext nm op ij ar (.int sz' ts) .none) ∈ led) (sub : ∀ p ∈ news, p ∈ led) (a : AllLt D news) (l : D < X) (e : sz' = sz) :
    Q (.ref X) { s with heap := h', toks := tk' } := by
  subst e
  exact hret X D k1 k2 k3 k4 k5 k6 k7 ts h' tk' F a l fun p hp => N p (by
    rcases List.mem_cons.mp hp with rfl | hp
    · exact m1
    · rcases List.mem_cons.mp hp with rfl | hp
      · exact m2
      · exact sub p hp)
theorem boot_super : bootBuiltins (Str.ofString "super") = some (.type "super") := by first | boot_by_name | rfl | kernel_rfl
theorem top_super : (PySem.Challenge.rw_ix0013_01.row.prog.main.scope.names.lookup (Str.ofString "super")).isSome = false := by decide +kernel
theorem file_is : ((PySem.Challenge.rw_ix0013_01.row.prog.main.file : Str) == Str.ofString "/claim/cut.py") = true := by first | rfl | decide +kernel
abbrev tupObj (vs : List Value) : Obj := { cls := .type "tuple", data := .seq vs.toArray }
/-- _law_octets(x, n, more) -/
def OctC (prog : Program) (w : World) (K : Frag) (p : Program) (loose : List Str) (mean : ExcName → Option Value) (mg mb : Str → Option Value) : Prop :=
  At 20 prog w K p loose mean mg mb fun h₀ L m news s Q E A => Tops K w.params → ∀ (x : Str) (t0 t1 t2 t3 : Tok) (c n more : Int), nsIn K 23 x = some (some (.int c t0)) → 0 < c → c < 256 → 0 ≤ n → n ≤ 2147483647 → (more = 0 ∨ more = 1 ∨ more = 2) →
    (∀ (T : Addr) (tb tw : Tok) (h' : Heap) (tk' : Nat), Fr h₀ L h' m → AllLt T news → News h₀ L h' ((T, tupObj [.bytes (byteArr (octs c n more)) tb, .int (W n + more) tw]) :: news) → Q (.ref T) { s with heap := h', toks := tk' }) →
    wpAny (model prog w) A (call (.ref 428) [.str x t1, .int n t2, .int more t3]) Q E s
theorem oct_end {h₀ h' : Heap} {L T : Addr} {m : Str → Option Value} {news led : List (Addr × Obj)} {s : Shared} {Q : Value → Shared → Prop} {tk' : Nat} {bs bs' : Array UInt8} {wd wd' : Int} {tb tw : Tok}
    (hret : ∀ (T : Addr) (tb tw : Tok) (h' : Heap) (tk' : Nat), Fr h₀ L h' m → AllLt T news → News h₀ L h' ((T, tupObj [.bytes bs tb, .int wd tw]) :: news) → Q (.ref T) { s with heap := h', toks := tk' })
    (F : Fr h₀ L h' m) (N : News h₀ L h' ((T, tupObj [.bytes bs' tb, .int wd' tw]) :: led)) (sub : ∀ p ∈ news, p ∈ led) (a : AllLt T news) (e1 : bs' = bs) (e2 : wd' = wd) :
    Q (.ref T) { s with heap := h', toks := tk' } := by
  subst e1 e2
  exact hret T tb tw h' tk' F a fun p hp => N p (by
    rcases List.mem_cons.mp hp with rfl | hp
    · exact .head _
    · exact .tail _ (sub p hp))
theorem byteArr_of {a b : List Int} (e : a = b) : byteArr a = byteArr b := by rw [e]
/-- the list that the loops build, in its ways -/
theorem octs_of {c n more : Int} {l : List Int} (h : (n < 256 ∧ l = [c, n % 256]) ∨ (256 ≤ n ∧ n < 65536 ∧ l = [2, n / 256 % 256, c, n % 256]) ∨ (65536 ≤ n ∧ n < 16777216 ∧ l = [2, n / 256 / 256 % 256, 2, n / 256 % 256, c, n % 256]) ∨
    (16777216 ≤ n ∧ l = [2, n / 256 / 256 / 256 % 256, 2, n / 256 / 256 % 256, 2, n / 256 % 256, c, n % 256])) : l = octs0 c n := by
  rcases h with ⟨a, rfl⟩ | ⟨a, b, rfl⟩ | ⟨a, b, rfl⟩ | ⟨a, rfl⟩
  · rw [octs0_1 a]
  · rw [octs0_2 a b]
  · rw [octs0_3 a b]
  · rw [octs0_4 a]
theorem frMap {g h : Heap} {L : Addr} {m m' : Str → Option Value} (F : Fr g L h m) (e : ∀ y, m' y = m y) : Fr g L h m' := (funext e : m' = m) ▸ F
theorem intsCast {vs : List Value} {ns ms : List Int} (h : IntsAre vs ns) (e : ns = ms) : IntsAre vs ms := e ▸ h
theorem octs0_len (c n : Int) : ((octs0 c n).length : Int) = 2 * W n := by
  unfold octs0 W
  split
  · simp
  · split
    · simp
    · split <;> simp
theorem octs_in {c n more : Int} (h0 : 0 < c) (h1 : c < 256) : KBa.In (octs c n more) := by
  have h : KBa.In (octs0 c n) := by
    unfold octs0 KBa.In
    intro k hk
    split at hk
    · simp only [List.mem_cons, List.not_mem_nil, or_false] at hk; omega
    · split at hk
      · simp only [List.mem_cons, List.not_mem_nil, or_false] at hk; omega
      · split at hk <;> (simp only [List.mem_cons, List.not_mem_nil, or_false] at hk; omega)
  unfold octs
  split
  · exact h
  · split
    · intro k hk
      rcases List.mem_cons.mp hk with rfl | hk
      · omega
      · rcases List.mem_cons.mp hk with rfl | hk
        · omega
        · exact h k hk
    · intro k hk
      rcases List.mem_cons.mp hk with rfl | hk
      · omega
      · rcases List.mem_cons.mp hk with rfl | hk
        · omega
        · rcases List.mem_cons.mp hk with rfl | hk
          · omega
          · rcases List.mem_cons.mp hk with rfl | hk
            · omega
            · exact h k hk
theorem octs_len {c n more : Int} (hm : more = 0 ∨ more = 1 ∨ more = 2) : ((octs c n more).length : Int) = 2 * (W n + more) := by
  have h := octs0_len c n
  rcases hm with rfl | rfl | rfl
  · rw [octs_0]; omega
  · rw [octs_1]; simp only [List.length_cons]; omega
  · rw [octs_2]; simp only [List.length_cons]; omega
theorem bytesOcts {prog : Program} {w : World} {A : Around} {E : Value → Shared → Prop} {s : Shared} {h₀ : Heap} {L D : Addr} {m : Str → Option Value} {news : List (Addr × Obj)} {vs : List Value} {ns : List Int} {c n more : Int} {Q : Value → Shared → Prop}
    (F : Fr h₀ L s.heap m) (N : News h₀ L s.heap news) (hh : A.handled = none) (hm : (D, listOf vs.toArray 0) ∈ news) (hi : IntsAre vs ns) (e : ns = octs c n more) (h0 : 0 < c) (h1 : c < 256) (hmo : more = 0 ∨ more = 1 ∨ more = 2)
    (h : ∀ h' t' k, Fr h₀ L h' m → News h₀ L h' news → Q (.bytes (byteArr (octs c n more)) t') { s with heap := h', toks := k }) : wpAny (model prog w) A (call (.type "bytes") [.ref D]) Q E s := by
  subst e
  refine KBa.make_K F N hh (News.isList N hm) hi (octs_in h0 h1) ?_ fun h' t' k F' N' _ => h h' t' k F' N'
  have h2 := octs_len (c := c) (n := n) hmo
  have h3 := W_hi n
  omega
/-- the frame behind the octets' while -/
abbrev octMap (m : Str → Option Value) (wd : Int) (tw : Tok) (r : Int) (tr : Tok) (D : Addr) : Str → Option Value := fun y => if y = Str.ofString "words" then some (.int wd tw) else if y = Str.ofString "rest" then some (.int r tr) else if y = Str.ofString "told" then some (.ref D) else m y
def OctI (g : Heap) (L : Addr) (m : Str → Option Value) (news : List (Addr × Obj)) (c n : Int) (s s' : Shared) : Prop :=
  ∃ h' tk D vs ns wd tw r tr, s' = { s with heap := h', toks := tk } ∧ Fr g L h' (octMap m wd tw r tr D) ∧ AllLt D news ∧ News g L h' ((D, listOf vs.toArray 0) :: news) ∧ IntsAre vs ns ∧ ns = octs0 c n ∧ wd = W n
theorem OctI.intro {g h' : Heap} {L D : Addr} {m m' : Str → Option Value} {news led : List (Addr × Obj)} {c n : Int} {s : Shared} {tk : Nat} {vs : List Value} {ns : List Int} {wd r : Int} {tw tr : Tok}
    (F : Fr g L h' (octMap m' wd tw r tr D)) (N : News g L h' led) (hm : (D, listOf vs.toArray 0) ∈ led) (hi : IntsAre vs ns) (em : ∀ y, y ≠ Str.ofString "words" → y ≠ Str.ofString "rest" → y ≠ Str.ofString "told" → m y = m' y) (a : AllLt D news) (sub : ∀ p ∈ news, p ∈ led) (e : ns = octs0 c n) (ew : wd = W n) :
    OctI g L m news c n s { s with heap := h', toks := tk } :=
  ⟨h', tk, D, vs, ns, wd, tw, r, tr, rfl, frMap F (fun y => by
    unfold octMap
    split
    · rfl
    · split
      · rfl
      · split
        · rfl
        · rename_i h1 h2 h3
          exact em y h1 h2 h3), a, fun p hp => N p ((List.mem_cons.mp hp).elim (fun q => q ▸ hm) (sub p)), hi, e, ew⟩
abbrev octMap0 (m : Str → Option Value) (wd : Int) (tw : Tok) (r : Int) (tr : Tok) (D : Addr) : Str → Option Value := fun y => if y = Str.ofString "told" then some (.ref D) else if y = Str.ofString "rest" then some (.int r tr) else if y = Str.ofString "words" then some (.int wd tw) else m y
theorem octMap0_eq {m : Str → Option Value} {wd : Int} {tw : Tok} {r : Int} {tr : Tok} {D : Addr} : ∀ y, octMap m wd tw r tr D y = octMap0 m wd tw r tr D y := by
  intro y
  unfold octMap octMap0
  by_cases h1 : y = Str.ofString "words"
  · subst h1
    rw [if_pos rfl, if_neg (by decide), if_neg (by decide), if_pos rfl]
  · by_cases h2 : y = Str.ofString "rest"
    · subst h2
      rw [if_neg (by decide), if_pos rfl, if_neg (by decide), if_pos rfl]
    · rw [if_neg h1, if_neg h2, if_neg h2, if_neg h1]
theorem OctI.intro0 {g h' : Heap} {L D : Addr} {m : Str → Option Value} {news led : List (Addr × Obj)} {c n : Int} {s : Shared} {tk : Nat} {vs : List Value} {ns : List Int} {wd r : Int} {tw tr : Tok}
    (F : Fr g L h' (octMap0 m wd tw r tr D)) (N : News g L h' led) (hm : (D, listOf vs.toArray 0) ∈ led) (hi : IntsAre vs ns) (a : AllLt D news) (sub : ∀ p ∈ news, p ∈ led) (e : ns = octs0 c n) (ew : wd = W n) :
    OctI g L m news c n s { s with heap := h', toks := tk } := OctI.intro (m' := m) (frMap F octMap0_eq) N hm hi (fun _ _ _ _ => rfl) a sub e ew
def NewsIs (_ : List (Addr × Obj)) : Prop := True
def CnIs (_ _ : Int) : Prop := True
theorem octJoin {M : Model} {A : Around} {E : Value → Shared → Prop} {s : Shared} {env : Env} {test : PySem.Expr} {body orelse : List Stmt} {pos : Pos} {Q : Flow → Shared → Prop} {g : Heap} {L D₀ : Addr} {m : Str → Option Value} {news : List (Addr × Obj)} {c n wd₀ r₀ : Int} {tw₀ tr₀ : Tok}
    (_hn : NewsIs news) (_hc : CnIs c n) (_F : Fr g L s.heap (octMap0 m wd₀ tw₀ r₀ tr₀ D₀))
    (h1 : wpAny M A (exec (.While test body orelse pos) env) (fun f s' => f = .next ∧ OctI g L m news c n s s') E s)
    (h2 : ∀ h' tk D vs ns wd tw r tr, Fr g L h' (octMap m wd tw r tr D) → AllLt D news → News g L h' ((D, listOf vs.toArray 0) :: news) → IntsAre vs ns → ns = octs0 c n → (ns.length : Int) = 2 * W n → W n ≤ 4 → wd = W n → Q .next { s with heap := h', toks := tk }) :
    wpAny M A (exec (.While test body orelse pos) env) Q E s :=
  wpAny_mono h1 (fun f s' q => by
    obtain ⟨rfl, h', tk, D, vs, ns, wd, tw, r, tr, rfl, F, a, N, hi, e, ew⟩ := q
    exact h2 h' tk D vs ns wd tw r tr F a N hi e (e ▸ octs0_len c n) (W_hi n) ew) fun _ _ x => x
/-- the frame behind the while of _set -/
abbrev setMap (m : Str → Option Value) (a : Int) (ta : Tok) (sz : Int) (ts : Tok) : Str → Option Value := fun y => if y = Str.ofString "arg" then some (.int a ta) else if y = Str.ofString "size" then some (.int sz ts) else m y
abbrev setMap0 (m : Str → Option Value) (sz : Int) (ts : Tok) : Str → Option Value := fun y => if y = Str.ofString "size" then some (.int sz ts) else m y
def SetI (g : Heap) (L : Addr) (m : Str → Option Value) (led : List (Addr × Obj)) (n : Int) (s s' : Shared) : Prop :=
  ∃ h' tk a ta sz ts, s' = { s with heap := h', toks := tk } ∧ Fr g L h' (setMap m a ta sz ts) ∧ News g L h' led ∧ sz = 2 * W n
theorem SetI.intro {g h' : Heap} {L : Addr} {m m' : Str → Option Value} {led : List (Addr × Obj)} {n : Int} {s : Shared} {tk : Nat} {a sz : Int} {ta ts : Tok}
    (F : Fr g L h' (setMap m' a ta sz ts)) (N : News g L h' led) (em : ∀ y, y ≠ Str.ofString "arg" → y ≠ Str.ofString "size" → m y = m' y) (e : sz = 2 * W n) : SetI g L m led n s { s with heap := h', toks := tk } :=
  ⟨h', tk, a, ta, sz, ts, rfl, frMap F (fun y => by
    unfold setMap
    split
    · rfl
    · split
      · rfl
      · rename_i h1 h2
        exact em y h1 h2), N, e⟩
theorem SetI.intro0 {g h' : Heap} {L : Addr} {m : Str → Option Value} {led : List (Addr × Obj)} {n : Int} {s : Shared} {tk : Nat} {a sz : Int} {ta ts : Tok}
    (F : Fr g L h' (setMap0 m sz ts)) (N : News g L h' led) (hm : m (Str.ofString "arg") = some (.int a ta)) (e : sz = 2 * W n) : SetI g L m led n s { s with heap := h', toks := tk } :=
  ⟨h', tk, a, ta, sz, ts, rfl, frMap F (fun y => by
    unfold setMap setMap0
    by_cases h1 : y = Str.ofString "arg"
    · subst h1
      rw [if_pos rfl, if_neg (by decide), hm]
    · rw [if_neg h1]), N, e⟩
theorem setJoin {M : Model} {A : Around} {E : Value → Shared → Prop} {s : Shared} {env : Env} {test : PySem.Expr} {body orelse : List Stmt} {pos : Pos} {Q : Flow → Shared → Prop} {g : Heap} {L : Addr} {m : Str → Option Value} {led : List (Addr × Obj)} {c n sz₀ : Int} {ts₀ : Tok}
    (_hc : CnIs c n) (_F : Fr g L s.heap (setMap0 m sz₀ ts₀)) (_N : News g L s.heap led)
    (h1 : wpAny M A (exec (.While test body orelse pos) env) (fun f s' => f = .next ∧ SetI g L m led n s s') E s)
    (h2 : ∀ h' tk a ta sz ts, Fr g L h' (setMap m a ta sz ts) → News g L h' led → sz = 2 * W n → Q .next { s with heap := h', toks := tk }) :
    wpAny M A (exec (.While test body orelse pos) env) Q E s :=
  wpAny_mono h1 (fun f s' q => by
    obtain ⟨rfl, h', tk, a, ta, sz, ts, rfl, F, N, e⟩ := q
    exact h2 h' tk a ta sz ts F N e) fun _ _ x => x
/-- the dict of an op that is being made -/
abbrev newDict (P : Params) (k1 : Tok) (ext : Value) : Obj := dictOf [⟨PyData.keyHash P (Str.ofString "_extended_args"), .str (Str.ofString "_extended_args") k1, ext⟩] 1
abbrev setDict (P : Params) (k1 k2 k3 k4 k5 k6 : Tok) (ext nm op ij ar sz : Value) : Obj := dictOf [⟨PyData.keyHash P (Str.ofString "_extended_args"), .str (Str.ofString "_extended_args") k1, ext⟩,
  ⟨PyData.keyHash P (Str.ofString "_name"), .str (Str.ofString "_name") k2, nm⟩, ⟨PyData.keyHash P (Str.ofString "_opcode"), .str (Str.ofString "_opcode") k3, op⟩,
  ⟨PyData.keyHash P (Str.ofString "_is_jump"), .str (Str.ofString "_is_jump") k4, ij⟩, ⟨PyData.keyHash P (Str.ofString "_arg"), .str (Str.ofString "_arg") k5, ar⟩,
  ⟨PyData.keyHash P (Str.ofString "_size"), .str (Str.ofString "_size") k6, sz⟩] 6
/-- self._set(x, n) in the op's making -/
def SetC (prog : Program) (w : World) (K : Frag) (p : Program) (loose : List Str) (mean : ExcName → Option Value) (mg mb : Str → Option Value) : Prop :=
  At 20 prog w K p loose mean mg mb fun h₀ L m news s Q E A => Tops K w.params → ∀ (X D : Addr) (rest : List (Addr × Obj)) (x : Str) (k1 t0 t1 t2 : Tok) (c n : Int) (bj : Bool) (ext : Value) (sz : Int), news = (X, instObj 412 D) :: (D, newDict w.params k1 ext) :: rest → AllLt D rest → D < X →
    nsIn K 23 x = some (some (.int c t0)) → tupHas K 27 c = some true → tupHas K 33 c = some bj → 0 < c → c < 256 → 0 ≤ n → n ≤ 2147483647 →
    ((ext = .none ∧ sz = 2 * W n) ∨ (∃ e te, ext = .int e te ∧ sz = 2 + 2 * e)) →
    (∀ (k2 k3 k4 k5 k6 ts : Tok) (h' : Heap) (tk' : Nat), Fr h₀ L h' m → News h₀ L h' ((X, instObj 412 D) :: (D, setDict w.params k1 k2 k3 k4 k5 k6 ext (.str x t1) (.int c t0) (.bool bj) (.int n t2) (.int sz ts)) :: rest) → Q .none { s with heap := h', toks := tk' }) →
    wpAny (model prog w) A (call (.ref 343) [.ref X, .str x t1, .int n t2]) Q E s
theorem set_end {P : Params} {h₀ h' : Heap} {L X D : Addr} {m : Str → Option Value} {rest led : List (Addr × Obj)} {s : Shared} {Q : Value → Shared → Prop} {tk' : Nat} {ext nm op ij ar : Value} {sz sz' : Int} {k1 k2 k3 k4 k5 k6 ts : Tok}
    (hret : ∀ (k2 k3 k4 k5 k6 ts : Tok) (h' : Heap) (tk' : Nat), Fr h₀ L h' m → News h₀ L h' ((X, instObj 412 D) :: (D, setDict P k1 k2 k3 k4 k5 k6 ext nm op ij ar (.int sz ts)) :: rest) → Q .none { s with heap := h', toks := tk' })
    (F : Fr h₀ L h' m) (N : News h₀ L h' led) (m1 : (X, instObj 412 D) ∈ led) (m2 : (D, setDict P k1 k2 k3 k4 k5 k6 ext nm op ij ar (.int sz' ts)) ∈ led) (sub : ∀ p ∈ rest, p ∈ led) (e : sz' = sz) :
    Q .none { s with heap := h', toks := tk' } := by
  subst e
  exact hret k2 k3 k4 k5 k6 ts h' tk' F fun p hp => N p (by
    rcases List.mem_cons.mp hp with rfl | hp
    · exact m1
    · rcases List.mem_cons.mp hp with rfl | hp
      · exact m2
      · exact sub p hp)
theorem SetC.use {prog : Program} {w : World} {K : Frag} {p : Program} {loose : List Str} {mean : ExcName → Option Value} {mg mb : Str → Option Value}
    {dp un : Nat} {gd : Option (List Code)} {cn : Str} {sn : List (Str × NameKind)} {sg so : Bool} {sm : List (Str × Const)} {a : Addr} {ccd : Value} {cl : List (Str × Addr)} {outer : List Env} {A₀ : Around} {base h₀ : Heap} {L : Addr} {m : Str → Option Value} {led rest : List (Addr × Obj)} {s : Shared} {Q E : Value → Shared → Prop}
    {X D : Addr} {x : Str} {k1 t0 t1 t2 : Tok} {c n : Int} {bj : Bool} {ext : Value} {sz : Int}
    (C : SetC prog w K p loose mean mg mb) (B : Below A₀ base outer h₀) (F : Fr h₀ L s.heap m) (X₀ : K.In h₀) (N : News h₀ L s.heap led) (T : Top p loose mean mg mb h₀) (hdp : dp + 20 < recursionLimit) (hun : un + 20 * 20 < cLine) (TD : Tops K w.params)
    (_hr : NewsIs rest) (m1 : (X, instObj 412 D) ∈ led) (m2 : (D, newDict w.params k1 ext) ∈ led) (sub : ∀ p ∈ rest, p ∈ led) (hlt : AllLt D rest) (hDX : D < X)
    (hop : nsIn K 23 x = some (some (.int c t0))) (hhas : tupHas K 27 c = some true) (hjmp : tupHas K 33 c = some bj) (hc0 : 0 < c) (hc1 : c < 256) (hn0 : 0 ≤ n) (hn1 : n ≤ 2147483647)
    (he : (ext = .none ∧ sz = 2 * W n) ∨ (∃ e te, ext = .int e te ∧ sz = 2 + 2 * e))
    (hret : ∀ (k2 k3 k4 k5 k6 ts : Tok) (h' : Heap) (tk' : Nat), Fr h₀ L h' m → News h₀ L h' ((X, instObj 412 D) :: (D, dictOf [⟨PyData.keyHash w.params (Str.ofString "_extended_args"), .str (Str.ofString "_extended_args") k1, ext⟩,
      ⟨PyData.keyHash w.params (Str.ofString "_name"), .str (Str.ofString "_name") k2, .str x t1⟩, ⟨PyData.keyHash w.params (Str.ofString "_opcode"), .str (Str.ofString "_opcode") k3, .int c t0⟩,
      ⟨PyData.keyHash w.params (Str.ofString "_is_jump"), .str (Str.ofString "_is_jump") k4, .bool bj⟩, ⟨PyData.keyHash w.params (Str.ofString "_arg"), .str (Str.ofString "_arg") k5, .int n t2⟩,
      ⟨PyData.keyHash w.params (Str.ofString "_size"), .str (Str.ofString "_size") k6, .int sz ts⟩] 6) :: rest) → Q .none { s with heap := h', toks := tk' }) :
    wpAny (model prog w) (ktrTop dp un gd cn ⟨.function, sn, sg, so, sm⟩ L a ccd cl outer) (call (.ref 343) [.ref X, .str x t1, .int n t2]) Q E s := by
  unfold SetC At at C
  exact C dp un gd cn sn sg so sm a ccd cl outer A₀ base h₀ L m ((X, instObj 412 D) :: (D, newDict w.params k1 ext) :: rest) s Q E B F X₀ (fun q hq => N q (by
    rcases List.mem_cons.mp hq with rfl | hq
    · exact m1
    · rcases List.mem_cons.mp hq with rfl | hq
      · exact m2
      · exact sub q hq)) T hdp hun TD X D rest x k1 t0 t1 t2 c n bj ext sz rfl hlt hDX hop hhas hjmp hc0 hc1 hn0 hn1 he hret
/-- the frame behind the first while of assemble -/
abbrev asmMap (m : Str → Option Value) (D : Addr) (a : Int) (ta : Tok) : Str → Option Value := fun y => if y = Str.ofString "b" then some (.ref D) else if y = Str.ofString "arg" then some (.int a ta) else m y
def AsmI (g : Heap) (L : Addr) (m : Str → Option Value) (news : List (Addr × Obj)) (c n : Int) (s s' : Shared) : Prop :=
  ∃ h' tk D vs ns a ta, s' = { s with heap := h', toks := tk } ∧ Fr g L h' (asmMap m D a ta) ∧ AllLt D news ∧ News g L h' ((D, listOf vs.toArray 0) :: news) ∧ IntsAre vs ns ∧ ns = octs0 c n
theorem AsmI.intro {g h' : Heap} {L D : Addr} {m m' : Str → Option Value} {news led : List (Addr × Obj)} {c n : Int} {s : Shared} {tk : Nat} {vs : List Value} {ns : List Int} {a : Int} {ta : Tok}
    (F : Fr g L h' (asmMap m' D a ta)) (N : News g L h' led) (hm : (D, listOf vs.toArray 0) ∈ led) (hi : IntsAre vs ns) (em : ∀ y, y ≠ Str.ofString "b" → y ≠ Str.ofString "arg" → m y = m' y) (al : AllLt D news) (sub : ∀ p ∈ news, p ∈ led) (e : ns = octs0 c n) :
    AsmI g L m news c n s { s with heap := h', toks := tk } :=
  ⟨h', tk, D, vs, ns, a, ta, rfl, frMap F (fun y => by
    unfold asmMap
    split
    · rfl
    · split
      · rfl
      · rename_i h1 h2
        exact em y h1 h2), al, fun p hp => N p ((List.mem_cons.mp hp).elim (fun q => q ▸ hm) (sub p)), hi, e⟩
theorem asmJoin {M : Model} {A : Around} {E : Value → Shared → Prop} {s : Shared} {env : Env} {test : PySem.Expr} {body orelse : List Stmt} {pos : Pos} {Q : Flow → Shared → Prop} {g : Heap} {L D₀ : Addr} {m : Str → Option Value} {news : List (Addr × Obj)} {c n a₀ : Int} {ta₀ : Tok}
    (_hn : NewsIs news) (_hc : CnIs c n) (_F : Fr g L s.heap (asmMap m D₀ a₀ ta₀))
    (h1 : wpAny M A (exec (.While test body orelse pos) env) (fun f s' => f = .next ∧ AsmI g L m news c n s s') E s)
    (h2 : ∀ h' tk D vs ns a ta, Fr g L h' (asmMap m D a ta) → AllLt D news → News g L h' ((D, listOf vs.toArray 0) :: news) → IntsAre vs ns → ns = octs0 c n → (ns.length : Int) = 2 * W n → W n ≤ 4 → 1 ≤ W n → Q .next { s with heap := h', toks := tk }) :
    wpAny M A (exec (.While test body orelse pos) env) Q E s :=
  wpAny_mono h1 (fun f s' q => by
    obtain ⟨rfl, h', tk, D, vs, ns, a, ta, rfl, F, al, N, hi, e⟩ := q
    exact h2 h' tk D vs ns a ta F al N hi e (e ▸ octs0_len c n) (W_hi n) (W_lo n)) fun _ _ x => x
/-- op.assemble() -/
def AsmC (prog : Program) (w : World) (K : Frag) (p : Program) (loose : List Str) (mean : ExcName → Option Value) (mg mb : Str → Option Value) : Prop :=
  At 20 prog w K p loose mean mg mb fun h₀ L m news s Q E A => ∀ (X D : Addr) (x : Str) (k1 k2 k3 k4 k5 k6 k7 t0 t1 t2 ts : Tok) (c n more sz : Int) (bj : Bool) (ext lo : Value),
    (X, instObj 412 D) ∈ news → (D, opDict w.params k1 k2 k3 k4 k5 k6 k7 ext (.str x t1) (.int c t0) (.bool bj) (.int n t2) (.int sz ts) lo) ∈ news → 0 < c → c < 256 → 0 ≤ n → n ≤ 2147483647 → sz = 2 * (W n + more) →
    ((ext = .none ∧ more = 0) ∨ (∃ e te, ext = .int e te ∧ e = W n - 1 + more ∧ (more = 0 ∨ more = 1 ∨ more = 2))) →
    (∀ (t : Tok) (h' : Heap) (tk' : Nat), Fr h₀ L h' m → News h₀ L h' news → Q (.bytes (byteArr (octs c n more)) t) { s with heap := h', toks := tk' }) →
    wpAny (model prog w) A (call (.ref 372) [.ref X]) Q E s
theorem asm_end {h₀ h' : Heap} {L : Addr} {m : Str → Option Value} {news led : List (Addr × Obj)} {s : Shared} {Q : Value → Shared → Prop} {tk' : Nat} {bs bs' : Array UInt8} {t : Tok}
    (hret : ∀ (t : Tok) (h' : Heap) (tk' : Nat), Fr h₀ L h' m → News h₀ L h' news → Q (.bytes bs t) { s with heap := h', toks := tk' })
    (F : Fr h₀ L h' m) (N : News h₀ L h' led) (sub : ∀ p ∈ news, p ∈ led) (e : bs' = bs) : Q (.bytes bs' t) { s with heap := h', toks := tk' } := by
  subst e
  exact hret t h' tk' F fun p hp => N p (sub p hp)
theorem kts_memX {name : Str} {scope : Scope} {L a b : Addr} {cd : Value} {cl : List (Str × Addr)} {outer : List Env} (hm : b ∈ (envX name scope L a cd cl :: outer).filterMap (·.frame)) : b = L ∨ b ∈ outer.filterMap (·.frame) := by
  obtain ⟨env, he, hf⟩ := List.mem_filterMap.mp hm
  rcases List.mem_cons.mp he with rfl | he
  · exact .inl (Option.some.inj hf).symm
  · exact .inr (List.mem_filterMap.mpr ⟨env, he, hf⟩)
/-- an exception goes on through a frame with cells -/
theorem leave_onSX {M : Model} {A : Around} {E : Value → Shared → Prop} {s' : Shared} {base g g₂ : Heap} {outer : List Env} {L a e : Addr} {m : Str → Option Value} {name : Str} {scope : Scope} {cd : Value} {cl : List (Str × Addr)} {Q : Unit → Shared → Prop} {news : List (Addr × Obj)} {cls : Value}
    (K : Below A base outer g) (F : Fr g L g₂ m) (R : RaisedSN base g₂ (envX name scope L a cd cl :: outer) e cls news s'.heap) (hsm : g₂.UpToSlots s'.heap)
    (hQ : ∀ h', RaisedSN base g outer e cls news h' → g.UpToSlots h' → Q () { s' with heap := h' }) :
    wpAny M (A.deeper (envX name scope L a cd cl)) (leaving (envX name scope L a cd cl) (.ref e)) Q E s' := by
  obtain ⟨B, a0, hB, hBG, hl, hfl⟩ := R
  exact wpAny_leaves_onW (Around.frames_deeper K.stack) rfl hfl fun h' x1 x2 =>
    hQ h' ⟨B, a0, hB, fun b o q nm => hBG b o (F.keep b o q) (fun hm => by
      rcases kts_memX hm with z | z
      · rw [z, kts_self F] at q
        cases q
      · exact nm z), fun q hq => ⟨(hl q hq).1, kts_none F.keep (hl q hq).2.1, (hl q hq).2.2⟩, x1⟩
      ((Heap.UpToSlots.of_keeps F.keep).trans (hsm.trans x2))
/-- what a caught exception leaves of the ground -/
structure Turned (A₀ : Around) (base : Heap) (outer : List Env) (K : Frag) (p : Program) (loose : List Str) (mean : ExcName → Option Value) (mg mb : Str → Option Value) (h₀ h₁ : Heap) : Prop where
  turn : KtsTurn (outer.filterMap (·.frame)) h₀ h₁
  below : Below A₀ base outer h₁
  kin : K.In h₁
  top : Top p loose mean mg mb h₁
  dicts : KtsDicts (outer.filterMap (·.frame)) h₁
/-- the claim of a call that catches: the common part -/
abbrev AtS (kd : Nat) (prog : Program) (w : World) (K : Frag) (p : Program) (loose : List Str) (mean : ExcName → Option Value) (mg mb : Str → Option Value)
    (C : (bk : Heap → Prop) → (L : Addr) → (m : Str → Option Value) → (news : List (Addr × Obj)) → (s : Shared) → (Q E : Value → Shared → Prop) → (A : Around) → Prop) : Prop :=
  ∀ (dp un : Nat) (gd : Option (List Code)) (cn : Str) (sn : List (Str × NameKind)) (sg so : Bool) (sm : List (Str × Const)) (a : Addr) (ccd : Value) (outer : List Env) (A₀ : Around) (base h₀ : Heap) (L : Addr) (m : Str → Option Value) (news : List (Addr × Obj)) (s : Shared) (Q E : Value → Shared → Prop),
    Below A₀ base outer h₀ → Fr h₀ L s.heap m → K.In h₀ → News h₀ L s.heap news → Top p loose mean mg mb h₀ → dp + kd < recursionLimit → un + 20 * kd < cLine → K.In base → Top p loose mean mg mb base → KtsDicts (outer.filterMap (·.frame)) h₀ →
      C (Turned A₀ base outer K p loose mean mg mb h₀) L m news s Q E (ktrTop dp un gd cn ⟨.function, sn, sg, so, sm⟩ L a ccd [] outer)
/-- an argument that is refused, and how -/
def BadArg (K : Frag) (c : Int) (v : Value) (r : Str) (X : String) : Prop :=
  (tupHas K 27 c = some true ∧ ((∃ n t, v = .int n t ∧ n < 0 ∧ r = Str.ofString "value" ∧ X = "ValueError") ∨ (∃ n t, v = .int n t ∧ 0 ≤ n ∧ 2147483647 < n ∧ r = Str.ofString "value" ∧ X = "ValueError") ∨ (∃ t, v = .str (Str.ofString "7") t ∧ r = Str.ofString "type" ∧ X = "TypeError") ∨ (v = .ref 49 ∧ r = Str.ofString "value" ∧ X = "ValueError"))) ∨
  (tupHas K 27 c = some false ∧ 0 < c ∧ ∃ n t, v = .int n t ∧ r = Str.ofString "value" ∧ X = "ValueError")
/-- an exception that comes out of a call -/
def Flies (base h₀ : Heap) (L : Addr) (m : Str → Option Value) (fs : List Env) (e : Addr) (X : String) (news : List (Addr × Obj)) (h' : Heap) : Prop :=
  ∃ g, Fr h₀ L g m ∧ RaisedSN base g fs e (.type X) news h' ∧ g.UpToSlots h'
theorem RaisedSN.sub {base G : Heap} {l : List Env} {e : Addr} {cls : Value} {news led : List (Addr × Obj)} {h : Heap} (R : RaisedSN base G l e cls led h) (sub : ∀ p ∈ news, p ∈ led) : RaisedSN base G l e cls news h := by
  obtain ⟨B, a0, hB, hBG, hl, hfl⟩ := R
  exact ⟨B, a0, hB, hBG, fun q hq => hl q (sub q hq), hfl⟩
theorem Flies.intro {base h₀ g : Heap} {L : Addr} {m : Str → Option Value} {fs : List Env} {e : Addr} {X : String} {news led : List (Addr × Obj)} {h' : Heap}
    (R : RaisedSN base g fs e (.type X) led h') (F : Fr h₀ L g m) (U : g.UpToSlots h') (sub : ∀ p ∈ news, p ∈ led) : Flies base h₀ L m fs e X news h' := ⟨g, F, RaisedSN.sub R sub, U⟩
/-- the claim of a call that raises: the common part -/
abbrev AtE (kd : Nat) (prog : Program) (w : World) (K : Frag) (p : Program) (loose : List Str) (mean : ExcName → Option Value) (mg mb : Str → Option Value)
    (C : (fl : Addr → String → Heap → Prop) → (news : List (Addr × Obj)) → (s : Shared) → (Q E : Value → Shared → Prop) → (A : Around) → Prop) : Prop :=
  ∀ (dp un : Nat) (gd : Option (List Code)) (cn : Str) (sn : List (Str × NameKind)) (sg so : Bool) (sm : List (Str × Const)) (a : Addr) (ccd : Value) (cl : List (Str × Addr)) (outer : List Env) (A₀ : Around) (base h₀ : Heap) (L : Addr) (m : Str → Option Value) (news : List (Addr × Obj)) (s : Shared) (Q E : Value → Shared → Prop),
    Below A₀ base outer h₀ → Fr h₀ L s.heap m → K.In h₀ → News h₀ L s.heap news → Top p loose mean mg mb h₀ → dp + kd < recursionLimit → un + 20 * kd < cLine →
      C (fun e ex h' => Flies base h₀ L m (envX cn ⟨.function, sn, sg, so, sm⟩ L a ccd cl :: outer) e ex news h') news s Q E (ktrTop dp un gd cn ⟨.function, sn, sg, so, sm⟩ L a ccd cl outer)
/-- self._check_arg(x, c, v), refused -/
def CheckErrC (prog : Program) (w : World) (K : Frag) (p : Program) (loose : List Str) (mean : ExcName → Option Value) (mg mb : Str → Option Value) : Prop :=
  AtE 10 prog w K p loose mean mg mb fun fl news s Q E A => ∀ (X : Addr) (x : Str) (t0 t1 : Tok) (c : Int) (v : Value) (r : Str) (ex : String),
    x.length ≤ 100 → BadArg K c v r ex → (∀ (e : Addr) (h' : Heap) (tk' : Nat), fl e ex h' → E (.ref e) { s with heap := h', toks := tk' }) →
    wpAny (model prog w) A (call (.ref 335) [.ref X, .str x t1, .int c t0, v]) Q E s
/-- the dict of an op, made or in its making -/
def SomeDict (P : Params) (o : Obj) : Prop := (∃ k1, o = newDict P k1 .none) ∨ (∃ k1 k2 k3 k4 k5 k6 k7 ext nm op ij ar sz lo, o = opDict P k1 k2 k3 k4 k5 k6 k7 ext nm op ij ar sz lo)
/-- self._set(x, v), refused -/
def SetErrC (prog : Program) (w : World) (K : Frag) (p : Program) (loose : List Str) (mean : ExcName → Option Value) (mg mb : Str → Option Value) : Prop :=
  AtE 20 prog w K p loose mean mg mb fun fl news s Q E A => Tops K w.params → ∀ (X D : Addr) (o : Obj) (x : Str) (t0 t1 : Tok) (c : Int) (v : Value) (r : Str) (ex : String), (X, instObj 412 D) ∈ news → (D, o) ∈ news → SomeDict w.params o →
    nsIn K 23 x = some (some (.int c t0)) → x.length ≤ 100 → BadArg K c v r ex →
    (∀ (e : Addr) (h' : Heap) (tk' : Nat), fl e ex h' → E (.ref e) { s with heap := h', toks := tk' }) →
    wpAny (model prog w) A (call (.ref 343) [.ref X, .str x t1, v]) Q E s
theorem CheckErrC.use {prog : Program} {w : World} {K : Frag} {p : Program} {loose : List Str} {mean : ExcName → Option Value} {mg mb : Str → Option Value}
    {dp un : Nat} {gd : Option (List Code)} {cn : Str} {sn : List (Str × NameKind)} {sg so : Bool} {sm : List (Str × Const)} {a : Addr} {ccd : Value} {cl : List (Str × Addr)} {outer : List Env} {A₀ : Around} {base h₀ : Heap} {L : Addr} {m : Str → Option Value} {news : List (Addr × Obj)} {s : Shared} {Q E : Value → Shared → Prop}
    {X : Addr} {x : Str} {t0 t1 : Tok} {c : Int} {v : Value} {r : Str} {ex : String}
    (C : CheckErrC prog w K p loose mean mg mb) (B : Below A₀ base outer h₀) (F : Fr h₀ L s.heap m) (X₀ : K.In h₀) (N : News h₀ L s.heap news) (T : Top p loose mean mg mb h₀) (hdp : dp + 10 < recursionLimit) (hun : un + 20 * 10 < cLine)
    (hx : x.length ≤ 100) (hb : BadArg K c v r ex)
    (h : ∀ (e : Addr) (h' : Heap) (tk' : Nat) (g : Heap), Fr h₀ L g m → RaisedSN base g (envX cn ⟨.function, sn, sg, so, sm⟩ L a ccd cl :: outer) e (.type ex) news h' → g.UpToSlots h' → E (.ref e) { s with heap := h', toks := tk' }) :
    wpAny (model prog w) (ktrTop dp un gd cn ⟨.function, sn, sg, so, sm⟩ L a ccd cl outer) (call (.ref 335) [.ref X, .str x t1, .int c t0, v]) Q E s := by
  unfold CheckErrC AtE at C
  exact C dp un gd cn sn sg so sm a ccd cl outer A₀ base h₀ L m news s Q E B F X₀ N T hdp hun X x t0 t1 c v r ex hx hb fun e h' tk' ⟨g, F', R, U⟩ => h e h' tk' g F' R U
theorem SetErrC.use {prog : Program} {w : World} {K : Frag} {p : Program} {loose : List Str} {mean : ExcName → Option Value} {mg mb : Str → Option Value}
    {dp un : Nat} {gd : Option (List Code)} {cn : Str} {sn : List (Str × NameKind)} {sg so : Bool} {sm : List (Str × Const)} {a : Addr} {ccd : Value} {cl : List (Str × Addr)} {outer : List Env} {A₀ : Around} {base h₀ : Heap} {L : Addr} {m : Str → Option Value} {news : List (Addr × Obj)} {s : Shared} {Q E : Value → Shared → Prop}
    {X D : Addr} {o : Obj} {x : Str} {t0 t1 : Tok} {c : Int} {v : Value} {r : Str} {ex : String}
    (C : SetErrC prog w K p loose mean mg mb) (B : Below A₀ base outer h₀) (F : Fr h₀ L s.heap m) (X₀ : K.In h₀) (N : News h₀ L s.heap news) (T : Top p loose mean mg mb h₀) (hdp : dp + 20 < recursionLimit) (hun : un + 20 * 20 < cLine) (TD : Tops K w.params)
    (m1 : (X, instObj 412 D) ∈ news) (m2 : (D, o) ∈ news) (hso : SomeDict w.params o) (hop : nsIn K 23 x = some (some (.int c t0))) (hx : x.length ≤ 100) (hb : BadArg K c v r ex)
    (h : ∀ (e : Addr) (h' : Heap) (tk' : Nat) (g : Heap), Fr h₀ L g m → RaisedSN base g (envX cn ⟨.function, sn, sg, so, sm⟩ L a ccd cl :: outer) e (.type ex) news h' → g.UpToSlots h' → E (.ref e) { s with heap := h', toks := tk' }) :
    wpAny (model prog w) (ktrTop dp un gd cn ⟨.function, sn, sg, so, sm⟩ L a ccd cl outer) (call (.ref 343) [.ref X, .str x t1, v]) Q E s := by
  unfold SetErrC AtE at C
  exact C dp un gd cn sn sg so sm a ccd cl outer A₀ base h₀ L m news s Q E B F X₀ N T hdp hun TD X D o x t0 t1 c v r ex m1 m2 hso hop hx hb fun e h' tk' ⟨g, F', R, U⟩ => h e h' tk' g F' R U
def ExKind (r : Str) (X : String) : Prop := (X = "ValueError" ∧ r = Str.ofString "value") ∨ (X = "TypeError" ∧ r = Str.ofString "type")
theorem BadArg.kind {K : Frag} {c : Int} {v : Value} {r : Str} {X : String} (h : BadArg K c v r X) : ExKind r X := by
  rcases h with ⟨_, ⟨_, _, _, _, e1, e2⟩ | ⟨_, _, _, _, _, e1, e2⟩ | ⟨_, _, e1, e2⟩ | ⟨_, e1, e2⟩⟩ | ⟨_, _, _, _, _, e1, e2⟩
  · exact .inl ⟨e2, e1⟩
  · exact .inl ⟨e2, e1⟩
  · exact .inr ⟨e2, e1⟩
  · exact .inl ⟨e2, e1⟩
  · exact .inl ⟨e2, e1⟩
theorem turned_end {A₀ : Around} {base : Heap} {outer : List Env} {K : Frag} {p : Program} {loose : List Str} {mean : ExcName → Option Value} {mg mb : Str → Option Value} {h₀ h₁ h' : Heap} {L : Addr} {m : Str → Option Value} {news led : List (Addr × Obj)} {s : Shared} {Q : Value → Shared → Prop} {tk' : Nat} {r : Str} {t : Tok}
    (hret : ∀ (t : Tok) (h₁ h' : Heap) (tk' : Nat), Turned A₀ base outer K p loose mean mg mb h₀ h₁ → Fr h₁ L h' m → News h₁ L h' news → Q (.str r t) { s with heap := h', toks := tk' })
    (F : Fr h₁ L h' m) (N : News h₁ L h' led) (T : KtsTurn (outer.filterMap (·.frame)) h₀ h₁) (B : Below A₀ base outer h₁) (X : K.In h₁) (P : Top p loose mean mg mb h₁) (D : KtsDicts (outer.filterMap (·.frame)) h₁) (sub : ∀ q ∈ news, q ∈ led) : Q (.str r t) { s with heap := h', toks := tk' } :=
  hret t h₁ h' tk' ⟨T, B, X, P, D⟩ F fun q hq => N q (sub q hq)
/-- _law_made(x, v) -/
def MadeC (prog : Program) (w : World) (K : Frag) (p : Program) (loose : List Str) (mean : ExcName → Option Value) (mg mb : Str → Option Value) : Prop :=
  AtS 60 prog w K p loose mean mg mb fun bk L m news s Q E A => Tops K w.params → ∀ (x : Str) (t0 t1 : Tok) (c : Int) (v : Value) (r : Str) (ex : String),
    nsIn K 23 x = some (some (.int c t0)) → x.length ≤ 100 → BadArg K c v r ex →
    (∀ (t : Tok) (h₁ h' : Heap) (tk' : Nat), bk h₁ → Fr h₁ L h' m → News h₁ L h' news → Q (.str r t) { s with heap := h', toks := tk' }) →
    wpAny (model prog w) A (call (.ref 442) [.str x t1, v]) Q E s
/-- _law_turned(op, v) -/
def TurnedC (prog : Program) (w : World) (K : Frag) (p : Program) (loose : List Str) (mean : ExcName → Option Value) (mg mb : Str → Option Value) : Prop :=
  AtS 60 prog w K p loose mean mg mb fun bk L m news s Q E A => Tops K w.params → ∀ (X D : Addr) (k1 k2 k3 k4 k5 k6 k7 : Tok) (ext op ij ar sz lo : Value) (x : Str) (t0 t1 : Tok) (c : Int) (v : Value) (r : Str) (ex : String),
    (X, instObj 412 D) ∈ news → (D, opDict w.params k1 k2 k3 k4 k5 k6 k7 ext (.str x t1) op ij ar sz lo) ∈ news →
    nsIn K 23 x = some (some (.int c t0)) → x.length ≤ 100 → BadArg K c v r ex →
    (∀ (t : Tok) (h₁ h' : Heap) (tk' : Nat), bk h₁ → Fr h₁ L h' m → News h₁ L h' news → Q (.str r t) { s with heap := h', toks := tk' }) →
    wpAny (model prog w) A (call (.ref 449) [.ref X, v]) Q E s
/-- self._set(x, UNSET) in the op's making -/
def SetUC (prog : Program) (w : World) (K : Frag) (p : Program) (loose : List Str) (mean : ExcName → Option Value) (mg mb : Str → Option Value) : Prop :=
  At 20 prog w K p loose mean mg mb fun h₀ L m news s Q E A => Tops K w.params → ∀ (X D : Addr) (rest : List (Addr × Obj)) (x : Str) (k1 t0 t1 : Tok) (c : Int) (bj : Bool), news = (X, instObj 412 D) :: (D, newDict w.params k1 .none) :: rest → AllLt D rest → D < X →
    nsIn K 23 x = some (some (.int c t0)) → tupHas K 27 c = some false → tupHas K 33 c = some bj → 0 < c →
    (∀ (k2 k3 k4 k5 k6 ts : Tok) (h' : Heap) (tk' : Nat), Fr h₀ L h' m → News h₀ L h' ((X, instObj 412 D) :: (D, setDict w.params k1 k2 k3 k4 k5 k6 .none (.str x t1) (.int c t0) (.bool bj) (.ref 49) (.int 2 ts)) :: rest) → Q .none { s with heap := h', toks := tk' }) →
    wpAny (model prog w) A (call (.ref 343) [.ref X, .str x t1, .ref 49]) Q E s
/-- self._set(x, n) in a made op -/
def Set2C (prog : Program) (w : World) (K : Frag) (p : Program) (loose : List Str) (mean : ExcName → Option Value) (mg mb : Str → Option Value) : Prop :=
  At 20 prog w K p loose mean mg mb fun h₀ L m news s Q E A => Tops K w.params → ∀ (X D : Addr) (rest : List (Addr × Obj)) (k1 k2 k3 k4 k5 k6 k7 : Tok) (nm op ij ar sz lo : Value) (x : Str) (t0 t1 t2 : Tok) (c n : Int) (bj : Bool), news = (X, instObj 412 D) :: (D, opDict w.params k1 k2 k3 k4 k5 k6 k7 .none nm op ij ar sz lo) :: rest → (∀ q ∈ rest, q.1 ≠ D) → D < X →
    nsIn K 23 x = some (some (.int c t0)) → tupHas K 27 c = some true → tupHas K 33 c = some bj → 0 < c → c < 256 → 0 ≤ n → n ≤ 2147483647 →
    (∀ (ts : Tok) (h' : Heap) (tk' : Nat), Fr h₀ L h' m → News h₀ L h' ((X, instObj 412 D) :: (D, opDict w.params k1 k2 k3 k4 k5 k6 k7 .none (.str x t1) (.int c t0) (.bool bj) (.int n t2) (.int (2 * W n) ts) lo) :: rest) → Q .none { s with heap := h', toks := tk' }) →
    wpAny (model prog w) A (call (.ref 343) [.ref X, .str x t1, .int n t2]) Q E s
theorem set2_end {P : Params} {h₀ h' : Heap} {L X D : Addr} {m : Str → Option Value} {rest led : List (Addr × Obj)} {s : Shared} {Q : Value → Shared → Prop} {tk' : Nat} {ext nm op ij ar lo : Value} {sz sz' : Int} {k1 k2 k3 k4 k5 k6 k7 ts : Tok}
    (hret : ∀ (ts : Tok) (h' : Heap) (tk' : Nat), Fr h₀ L h' m → News h₀ L h' ((X, instObj 412 D) :: (D, opDict P k1 k2 k3 k4 k5 k6 k7 ext nm op ij ar (.int sz ts) lo) :: rest) → Q .none { s with heap := h', toks := tk' })
    (F : Fr h₀ L h' m) (N : News h₀ L h' led) (m1 : (X, instObj 412 D) ∈ led) (m2 : (D, opDict P k1 k2 k3 k4 k5 k6 k7 ext nm op ij ar (.int sz' ts) lo) ∈ led) (sub : ∀ p ∈ rest, p ∈ led) (e : sz' = sz) :
    Q .none { s with heap := h', toks := tk' } := by
  subst e
  exact hret ts h' tk' F fun p hp => N p (by
    rcases List.mem_cons.mp hp with rfl | hp
    · exact m1
    · rcases List.mem_cons.mp hp with rfl | hp
      · exact m2
      · exact sub p hp)
/-- an argument that is taken, and the size -/
def GoodArg (K : Frag) (c : Int) (v : Value) (sz : Int) : Prop :=
  (tupHas K 27 c = some true ∧ ∃ n t, v = .int n t ∧ 0 ≤ n ∧ n ≤ 2147483647 ∧ sz = 2 * W n) ∨ (tupHas K 27 c = some false ∧ v = .ref 49 ∧ sz = 2)
theorem SetVC.use {prog : Program} {w : World} {K : Frag} {p : Program} {loose : List Str} {mean : ExcName → Option Value} {mg mb : Str → Option Value}
    {dp un : Nat} {gd : Option (List Code)} {cn : Str} {sn : List (Str × NameKind)} {sg so : Bool} {sm : List (Str × Const)} {a : Addr} {ccd : Value} {cl : List (Str × Addr)} {outer : List Env} {A₀ : Around} {base h₀ : Heap} {L : Addr} {m : Str → Option Value} {led rest : List (Addr × Obj)} {s : Shared} {Q E : Value → Shared → Prop}
    {X D : Addr} {x : Str} {k1 t0 t1 : Tok} {c : Int} {bj : Bool} {v : Value} {sz : Int}
    (C1 : SetC prog w K p loose mean mg mb) (C2 : SetUC prog w K p loose mean mg mb) (B : Below A₀ base outer h₀) (F : Fr h₀ L s.heap m) (X₀ : K.In h₀) (N : News h₀ L s.heap led) (T : Top p loose mean mg mb h₀) (hdp : dp + 20 < recursionLimit) (hun : un + 20 * 20 < cLine) (TD : Tops K w.params)
    (_hr : NewsIs rest) (m1 : (X, instObj 412 D) ∈ led) (m2 : (D, newDict w.params k1 .none) ∈ led) (sub : ∀ p ∈ rest, p ∈ led) (hlt : AllLt D rest) (hDX : D < X)
    (hop : nsIn K 23 x = some (some (.int c t0))) (hga : GoodArg K c v sz) (hjmp : tupHas K 33 c = some bj) (hc0 : 0 < c) (hc1 : c < 256)
    (hret : ∀ (k2 k3 k4 k5 k6 ts : Tok) (h' : Heap) (tk' : Nat), Fr h₀ L h' m → News h₀ L h' ((X, instObj 412 D) :: (D, dictOf [⟨PyData.keyHash w.params (Str.ofString "_extended_args"), .str (Str.ofString "_extended_args") k1, .none⟩,
      ⟨PyData.keyHash w.params (Str.ofString "_name"), .str (Str.ofString "_name") k2, .str x t1⟩, ⟨PyData.keyHash w.params (Str.ofString "_opcode"), .str (Str.ofString "_opcode") k3, .int c t0⟩,
      ⟨PyData.keyHash w.params (Str.ofString "_is_jump"), .str (Str.ofString "_is_jump") k4, .bool bj⟩, ⟨PyData.keyHash w.params (Str.ofString "_arg"), .str (Str.ofString "_arg") k5, v⟩,
      ⟨PyData.keyHash w.params (Str.ofString "_size"), .str (Str.ofString "_size") k6, .int sz ts⟩] 6) :: rest) → Q .none { s with heap := h', toks := tk' }) :
    wpAny (model prog w) (ktrTop dp un gd cn ⟨.function, sn, sg, so, sm⟩ L a ccd cl outer) (call (.ref 343) [.ref X, .str x t1, v]) Q E s := by
  have N₂ : News h₀ L s.heap ((X, instObj 412 D) :: (D, newDict w.params k1 .none) :: rest) := fun q hq => N q (by
    rcases List.mem_cons.mp hq with rfl | hq
    · exact m1
    · rcases List.mem_cons.mp hq with rfl | hq
      · exact m2
      · exact sub q hq)
  rcases hga with ⟨hhas, n, t2, rfl, hn0, hn1, rfl⟩ | ⟨hhas, rfl, rfl⟩
  · unfold SetC At at C1
    exact C1 dp un gd cn sn sg so sm a ccd cl outer A₀ base h₀ L m _ s Q E B F X₀ N₂ T hdp hun TD X D rest x k1 t0 t1 t2 c n bj .none (2 * W n) rfl hlt hDX hop hhas hjmp hc0 hc1 hn0 hn1 (.inl ⟨rfl, rfl⟩) hret
  · unfold SetUC At at C2
    exact C2 dp un gd cn sn sg so sm a ccd cl outer A₀ base h₀ L m _ s Q E B F X₀ N₂ T hdp hun TD X D rest x k1 t0 t1 c bj rfl hlt hDX hop hhas hjmp hc0 hret
abbrev locDict (P : Params) (j1 j2 j3 j4 : Tok) (v : Value) : Obj := dictOf [⟨PyData.keyHash P (Str.ofString "lineno"), .str (Str.ofString "lineno") j1, v⟩,
  ⟨PyData.keyHash P (Str.ofString "end_lineno"), .str (Str.ofString "end_lineno") j2, .none⟩, ⟨PyData.keyHash P (Str.ofString "col_offset"), .str (Str.ofString "col_offset") j3, .none⟩,
  ⟨PyData.keyHash P (Str.ofString "end_col_offset"), .str (Str.ofString "end_col_offset") j4, .none⟩] 4
/-- ConcreteInstr(x) -/
def CtorUC (prog : Program) (w : World) (K : Frag) (p : Program) (loose : List Str) (mean : ExcName → Option Value) (mg mb : Str → Option Value) : Prop :=
  At 40 prog w K p loose mean mg mb fun h₀ L m news s Q E A => Tops K w.params → ∀ (x : Str) (t0 t1 : Tok) (c : Int) (bj : Bool) (sz : Int), nsIn K 23 x = some (some (.int c t0)) → GoodArg K c (.ref 49) sz → tupHas K 33 c = some bj → 0 < c → c < 256 →
    (∀ (X D : Addr) (k1 k2 k3 k4 k5 k6 k7 ts : Tok) (h' : Heap) (tk' : Nat), Fr h₀ L h' m → AllLt D news → D < X →
      News h₀ L h' ((X, instObj 412 D) :: (D, opDict w.params k1 k2 k3 k4 k5 k6 k7 .none (.str x t1) (.int c t0) (.bool bj) (.ref 49) (.int sz ts) .none) :: news) → Q (.ref X) { s with heap := h', toks := tk' }) →
    wpAny (model prog w) A (call (.ref 412) [.str x t1]) Q E s
/-- ConcreteInstr(x, v, lineno=7) -/
def CtorLC (prog : Program) (w : World) (K : Frag) (p : Program) (loose : List Str) (mean : ExcName → Option Value) (mg mb : Str → Option Value) : Prop :=
  At 40 prog w K p loose mean mg mb fun h₀ L m news s Q E A => Tops K w.params → ∀ (x : Str) (t0 t1 tl : Tok) (c : Int) (bj : Bool) (v : Value) (sz : Int), nsIn K 23 x = some (some (.int c t0)) → GoodArg K c v sz → tupHas K 33 c = some bj → 0 < c → c < 256 →
    (∀ (X D Y E : Addr) (k1 k2 k3 k4 k5 k6 k7 ts j1 j2 j3 j4 : Tok) (h' : Heap) (tk' : Nat), Fr h₀ L h' m → 
      News h₀ L h' ((X, instObj 412 D) :: (D, opDict w.params k1 k2 k3 k4 k5 k6 k7 .none (.str x t1) (.int c t0) (.bool bj) v (.int sz ts) (.ref Y)) :: (Y, instObj 104 E) :: (E, locDict w.params j1 j2 j3 j4 (.int 7 tl)) :: news) → Q (.ref X) { s with heap := h', toks := tk' }) →
    wpAny (model prog w) A (call (.ref 412) [.str x t1, v] [(Str.ofString "lineno", .int 7 tl)]) Q E s
theorem ctorL_end {P : Params} {h₀ h' : Heap} {L X D Y E : Addr} {m : Str → Option Value} {news led : List (Addr × Obj)} {s : Shared} {Q : Value → Shared → Prop} {tk' : Nat} {ext nm op ij ar : Value} {sz : Int} {k1 k2 k3 k4 k5 k6 k7 ts j1 j2 j3 j4 tl : Tok}
    (hret : ∀ (X D Y E : Addr) (k1 k2 k3 k4 k5 k6 k7 ts j1 j2 j3 j4 : Tok) (h' : Heap) (tk' : Nat), Fr h₀ L h' m → 
      News h₀ L h' ((X, instObj 412 D) :: (D, opDict P k1 k2 k3 k4 k5 k6 k7 ext nm op ij ar (.int sz ts) (.ref Y)) :: (Y, instObj 104 E) :: (E, locDict P j1 j2 j3 j4 (.int 7 tl)) :: news) → Q (.ref X) { s with heap := h', toks := tk' })
    (F : Fr h₀ L h' m) (N : News h₀ L h' led) (m1 : (X, instObj 412 D) ∈ led) (m2 : (D, opDict P k1 k2 k3 k4 k5 k6 k7 ext nm op ij ar (.int sz ts) (.ref Y)) ∈ led) (m3 : (Y, instObj 104 E) ∈ led) (m4 : (E, locDict P j1 j2 j3 j4 (.int 7 tl)) ∈ led) (sub : ∀ p ∈ news, p ∈ led) :
    Q (.ref X) { s with heap := h', toks := tk' } :=
  hret X D Y E k1 k2 k3 k4 k5 k6 k7 ts j1 j2 j3 j4 h' tk' F fun p hp => N p (by
    rcases List.mem_cons.mp hp with rfl | hp
    · exact m1
    · rcases List.mem_cons.mp hp with rfl | hp
      · exact m2
      · rcases List.mem_cons.mp hp with rfl | hp
        · exact m3
        · rcases List.mem_cons.mp hp with rfl | hp
          · exact m4
          · exact sub p hp)
theorem item_listK {prog : Program} {w : World} {A : Around} {E : Value → Shared → Prop} {s : Shared} {h₀ : Heap} {L a : Addr} {m : Str → Option Value} {K : Frag} {c : Int} {u : Tok} {v : Value} {value slice : PySem.Expr} {Q : Value → Shared → Prop} (F : Fr h₀ L s.heap m) (X₀ : K.In h₀) (e : itemAt K a c = some v) (h0 : 0 ≤ c) (h1 : c < 2 ^ 63) (h : Q v s)
    (hs : subscripted slice false (.ref a) (.int c u) = operate [.ref a, .int c u] (getItem (.ref a) (.int c u)) := by with_unfolding_all rfl) :
    wpAny (model prog w) A (subscriptTail value slice (.ref a) (.int c u)) Q E s := by
  unfold itemAt at e
  split at e
  · rename_i d vs n sl q
    have hl : s.heap.IsList a vs := ⟨_, X₀.keeps F.keep _ _ q, rfl, n, rfl⟩
    exact tail_any hl.typeIs slot_list_getitem.lookup (wpAny_getItem_list hl h0 h1 (by rw [← e]; simp) h) hs
  · cases e
def DisV (has : Bool) (n : Int) (v : Value) : Prop := match has with
  | true => ∃ t, v = .int n t
  | false => v = .ref 49
/-- ConcreteInstr.disassemble(7, b, off) -/
def DisC (prog : Program) (w : World) (K : Frag) (p : Program) (loose : List Str) (mean : ExcName → Option Value) (mg mb : Str → Option Value) : Prop :=
  At 50 prog w K p loose mean mg mb fun h₀ L m news s Q E A => Tops K w.params → ∀ (b : Array UInt8) (ks : List Int) (off : Int) (x : Str) (t0 tl tb tf tx : Tok) (c n : Int) (bj has : Bool),
    nsIn K 23 x = some (some (.int c t0)) → itemAt K 22 c = some (.str x tx) → tupHas K 27 c = some has → tupHas K 33 c = some bj → 0 < c → c < 256 → KBw.bInts b = ks → 0 ≤ off → 2 * off + 1 < (ks.length : Int) → (ks.length : Int) ≤ 100 → ks.getD (2 * off).toNat 0 = c → ks.getD (2 * off + 1).toNat 0 = n →
    (∀ (X D Y E : Addr) (k1 k2 k3 k4 k5 k6 k7 ts j1 j2 j3 j4 : Tok) (v : Value) (sz : Int) (h' : Heap) (tk' : Nat), DisV has n v → Fr h₀ L h' m → 
      News h₀ L h' ((X, instObj 412 D) :: (D, opDict w.params k1 k2 k3 k4 k5 k6 k7 .none (.str x tx) (.int c t0) (.bool bj) v (.int sz ts) (.ref Y)) :: (Y, instObj 104 E) :: (E, locDict w.params j1 j2 j3 j4 (.int 7 tl)) :: news) → Q (.ref X) { s with heap := h', toks := tk' }) →
    wpAny (model prog w) A (call (.ref 399) [.int 7 tl, .bytes b tb, .int off tf]) Q E s
theorem itemB {prog : Program} {w : World} {A : Around} {E : Value → Shared → Prop} {s : Shared} {b : Array UInt8} {ks : List Int} {i v : Int} {t ui : Tok} {value slice : PySem.Expr} {Q : Value → Shared → Prop} (hk : KBw.bInts b = ks) (hl : (ks.length : Int) ≤ 100) (h0 : 0 ≤ i) (h1 : i < (ks.length : Int)) (e : ks.getD i.toNat 0 = v)
    (h : ∀ t' k, Q (.int v t') { s with toks := k })
    (hs : subscripted slice false (.bytes b t) (.int i ui) = operate [.bytes b t, .int i ui] (getItem (.bytes b t) (.int i ui)) := by with_unfolding_all rfl)
    (ht : ∀ r, letTemporaryGo value (.bytes b t) r = pure () := by intro _; with_unfolding_all rfl) : wpAny (model prog w) A (subscriptTail value slice (.bytes b t) (.int i ui)) Q E s :=
  KBw.item_K hk (by omega) h0 h1 (fun t' k _ _ => e ▸ h t' k) hs ht
theorem CtorLC.use {prog : Program} {w : World} {K : Frag} {p : Program} {loose : List Str} {mean : ExcName → Option Value} {mg mb : Str → Option Value}
    {dp un : Nat} {gd : Option (List Code)} {cn : Str} {sn : List (Str × NameKind)} {sg so : Bool} {sm : List (Str × Const)} {a : Addr} {ccd : Value} {cl : List (Str × Addr)} {outer : List Env} {A₀ : Around} {base h₀ : Heap} {L : Addr} {m : Str → Option Value} {led : List (Addr × Obj)} {s : Shared} {Q E : Value → Shared → Prop}
    {x : Str} {t0 t1 tl : Tok} {c : Int} {bj : Bool} {v : Value} {sz : Int}
    (C : CtorLC prog w K p loose mean mg mb) (B : Below A₀ base outer h₀) (F : Fr h₀ L s.heap m) (X₀ : K.In h₀) (N : News h₀ L s.heap led) (T : Top p loose mean mg mb h₀) (hdp : dp + 40 < recursionLimit) (hun : un + 20 * 40 < cLine) (TD : Tops K w.params)
    (hop : nsIn K 23 x = some (some (.int c t0))) (hga : GoodArg K c v sz) (hjmp : tupHas K 33 c = some bj) (hc0 : 0 < c) (hc1 : c < 256)
    (hret : ∀ (X D Y E : Addr) (k1 k2 k3 k4 k5 k6 k7 ts j1 j2 j3 j4 : Tok) (h' : Heap) (tk' : Nat), Fr h₀ L h' m → 
      News h₀ L h' ((X, instObj 412 D) :: (D, opDict w.params k1 k2 k3 k4 k5 k6 k7 .none (.str x t1) (.int c t0) (.bool bj) v (.int sz ts) (.ref Y)) :: (Y, instObj 104 E) :: (E, locDict w.params j1 j2 j3 j4 (.int 7 tl)) :: led) → Q (.ref X) { s with heap := h', toks := tk' }) :
    wpAny (model prog w) (ktrTop dp un gd cn ⟨.function, sn, sg, so, sm⟩ L a ccd cl outer) (call (.ref 412) [.str x t1, v] [(Str.ofString "lineno", .int 7 tl)]) Q E s := by
  unfold CtorLC At at C
  exact C dp un gd cn sn sg so sm a ccd cl outer A₀ base h₀ L m led s Q E B F X₀ N T hdp hun TD x t0 t1 tl c bj v sz hop hga hjmp hc0 hc1 hret
theorem GoodArg.one {K : Frag} {c n : Int} {t : Tok} (h : tupHas K 27 c = some true) (h0 : 0 ≤ n) (h1 : n < 256) : GoodArg K c (.int n t) 2 := .inl ⟨h, n, t, rfl, h0, by omega, by rw [W1 h1]; rfl⟩
theorem GoodArg.no {K : Frag} {c : Int} (h : tupHas K 27 c = some false) : GoodArg K c (.ref 49) 2 := .inr ⟨h, rfl, rfl⟩
theorem dis_end {P : Params} {h₀ h' : Heap} {L X D Y E : Addr} {m : Str → Option Value} {news : List (Addr × Obj)} {s : Shared} {Q : Value → Shared → Prop} {tk' : Nat} {ext nm op ij v : Value} {sz : Int} {k1 k2 k3 k4 k5 k6 k7 ts j1 j2 j3 j4 tl : Tok} {n : Int} {has : Bool}
    (hret : ∀ (X D Y E : Addr) (k1 k2 k3 k4 k5 k6 k7 ts j1 j2 j3 j4 : Tok) (v : Value) (sz : Int) (h' : Heap) (tk' : Nat), DisV has n v → Fr h₀ L h' m → 
      News h₀ L h' ((X, instObj 412 D) :: (D, opDict P k1 k2 k3 k4 k5 k6 k7 ext nm op ij v (.int sz ts) (.ref Y)) :: (Y, instObj 104 E) :: (E, locDict P j1 j2 j3 j4 (.int 7 tl)) :: news) → Q (.ref X) { s with heap := h', toks := tk' })
    (F : Fr h₀ L h' m) (N : News h₀ L h' ((X, instObj 412 D) :: (D, opDict P k1 k2 k3 k4 k5 k6 k7 ext nm op ij v (.int sz ts) (.ref Y)) :: (Y, instObj 104 E) :: (E, locDict P j1 j2 j3 j4 (.int 7 tl)) :: news)) (hv : DisV has n v) : Q (.ref X) { s with heap := h', toks := tk' } :=
  hret X D Y E k1 k2 k3 k4 k5 k6 k7 ts j1 j2 j3 j4 v sz h' tk' hv F N
theorem bInts_in {b : Array UInt8} {ks : List Int} (hk : KBw.bInts b = ks) (j : Nat) : 0 ≤ ks.getD j 0 ∧ ks.getD j 0 < 256 := KBw.getD_in fun k h => KBw.ints_in (hk ▸ h)
/-- what is told of a kind's caches, and of its jump -/
def CachesAre (K : Frag) (x : Str) (cch : Int) : Prop := (cch = 0 ∧ nsIn K 28 x = some none) ∨ (∃ t, nsIn K 28 x = some (some (.int cch t)))
def DirIs (K : Frag) (c dir : Int) : Prop := tupHas K 30 c = some false ∧ ((dir = 0 ∧ tupHas K 31 c = some false ∧ tupHas K 32 c = some false) ∨ (dir = 1 ∧ tupHas K 31 c = some true) ∨ (dir = -1 ∧ tupHas K 31 c = some false ∧ tupHas K 32 c = some true))
def JumpV (at_ wd cch dir n : Int) (v : Value) : Prop := (dir = 0 ∧ v = .none) ∨ (dir = 1 ∧ ∃ t, v = .int (at_ + wd + cch + n) t) ∨ (dir = -1 ∧ ∃ t, v = .int (at_ + wd + cch - n) t)
/-- op.use_cache_opcodes() -/
def UseC (prog : Program) (w : World) (K : Frag) (p : Program) (loose : List Str) (mean : ExcName → Option Value) (mg mb : Str → Option Value) : Prop :=
  At 10 prog w K p loose mean mg mb fun h₀ L m news s Q E A => Tops K w.params → ∀ (X D : Addr) (k1 k2 k3 k4 k5 k6 k7 t1 : Tok) (ext op ij ar sz lo : Value) (x : Str) (cch : Int),
    (X, instObj 412 D) ∈ news → (D, opDict w.params k1 k2 k3 k4 k5 k6 k7 ext (.str x t1) op ij ar sz lo) ∈ news → CachesAre K x cch →
    (∀ (t : Tok) (h' : Heap) (tk' : Nat), Fr h₀ L h' m → News h₀ L h' news → Q (.int cch t) { s with heap := h', toks := tk' }) →
    wpAny (model prog w) A (call (.ref 409) [.ref X]) Q E s
/-- op.get_jump_target(at) -/
def JumpC (prog : Program) (w : World) (K : Frag) (p : Program) (loose : List Str) (mean : ExcName → Option Value) (mg mb : Str → Option Value) : Prop :=
  At 20 prog w K p loose mean mg mb fun h₀ L m news s Q E A => Tops K w.params → ∀ (X D : Addr) (k1 k2 k3 k4 k5 k6 k7 t0 t1 ts ta : Tok) (ext ij ar lo : Value) (x : Str) (c cch dir at_ wd n : Int),
    (X, instObj 412 D) ∈ news → (D, opDict w.params k1 k2 k3 k4 k5 k6 k7 ext (.str x t1) (.int c t0) ij ar (.int (2 * wd) ts) lo) ∈ news → CachesAre K x cch → DirIs K c dir → (dir = 0 ∨ ∃ t, ar = .int n t) →
    (∀ (v : Value) (h' : Heap) (tk' : Nat), JumpV at_ wd cch dir n v → Fr h₀ L h' m → News h₀ L h' news → Q v { s with heap := h', toks := tk' }) →
    wpAny (model prog w) A (call (.ref 365) [.ref X, .int at_ ta]) Q E s
theorem end_sub {h₀ h' : Heap} {L : Addr} {m : Str → Option Value} {news led : List (Addr × Obj)} {s : Shared} {Q : Value → Shared → Prop} {tk' : Nat} {v : Value}
    (hret : ∀ (h' : Heap) (tk' : Nat), Fr h₀ L h' m → News h₀ L h' news → Q v { s with heap := h', toks := tk' })
    (F : Fr h₀ L h' m) (N : News h₀ L h' led) (sub : ∀ p ∈ news, p ∈ led) : Q v { s with heap := h', toks := tk' } := hret h' tk' F fun p hp => N p (sub p hp)
theorem UseC.use {prog : Program} {w : World} {K : Frag} {p : Program} {loose : List Str} {mean : ExcName → Option Value} {mg mb : Str → Option Value}
    {dp un : Nat} {gd : Option (List Code)} {cn : Str} {sn : List (Str × NameKind)} {sg so : Bool} {sm : List (Str × Const)} {a : Addr} {ccd : Value} {cl : List (Str × Addr)} {outer : List Env} {A₀ : Around} {base h₀ : Heap} {L : Addr} {m : Str → Option Value} {led : List (Addr × Obj)} {s : Shared} {Q E : Value → Shared → Prop}
    {X D : Addr} {k1 k2 k3 k4 k5 k6 k7 t1 : Tok} {ext op ij ar sz lo : Value} {x : Str} {cch : Int}
    (C : UseC prog w K p loose mean mg mb) (B : Below A₀ base outer h₀) (F : Fr h₀ L s.heap m) (X₀ : K.In h₀) (N : News h₀ L s.heap led) (T : Top p loose mean mg mb h₀) (hdp : dp + 10 < recursionLimit) (hun : un + 20 * 10 < cLine) (TD : Tops K w.params)
    (m1 : (X, instObj 412 D) ∈ led) (m2 : (D, opDict w.params k1 k2 k3 k4 k5 k6 k7 ext (.str x t1) op ij ar sz lo) ∈ led) (hca : CachesAre K x cch)
    (hret : ∀ (t : Tok) (h' : Heap) (tk' : Nat), Fr h₀ L h' m → News h₀ L h' led → Q (.int cch t) { s with heap := h', toks := tk' }) :
    wpAny (model prog w) (ktrTop dp un gd cn ⟨.function, sn, sg, so, sm⟩ L a ccd cl outer) (call (.ref 409) [.ref X]) Q E s := by
  unfold UseC At at C
  exact C dp un gd cn sn sg so sm a ccd cl outer A₀ base h₀ L m led s Q E B F X₀ N T hdp hun TD X D k1 k2 k3 k4 k5 k6 k7 t1 ext op ij ar sz lo x cch m1 m2 hca hret
theorem in28t {prog : Program} {w : World} {A : Around} {E : Value → Shared → Prop} {s : Shared} {h₀ : Heap} {L : Addr} {m : Str → Option Value} {K : Frag} {x : Str} {t : Tok} {r : Value} {Q : Value → Shared → Prop} (D : Tops K w.params) (F : Fr h₀ L s.heap m) (X₀ : K.In h₀) (e : nsIn K 28 x = some (some r))
    (h : Q (.bool true) { s with toks := s.toks + 1 }) : wpAny (model prog w) A (compareOp .In (.str x t) (.ref 28)) Q E s := in28 D F X₀ e h
theorem in28f {prog : Program} {w : World} {A : Around} {E : Value → Shared → Prop} {s : Shared} {h₀ : Heap} {L : Addr} {m : Str → Option Value} {K : Frag} {x : Str} {t : Tok} {Q : Value → Shared → Prop} (D : Tops K w.params) (F : Fr h₀ L s.heap m) (X₀ : K.In h₀) (e : nsIn K 28 x = some none)
    (h : Q (.bool false) { s with toks := s.toks + 1 }) : wpAny (model prog w) A (compareOp .In (.str x t) (.ref 28)) Q E s := in28 D F X₀ e h
theorem JumpV.f {at_ wd cch n z : Int} {t : Tok} (e : z = at_ + wd + cch + n) : JumpV at_ wd cch 1 n (.int z t) := .inr (.inl ⟨rfl, t, by rw [e]⟩)
theorem JumpV.b {at_ wd cch n z : Int} {t : Tok} (e : z = at_ + wd + cch - n) : JumpV at_ wd cch (-1) n (.int z t) := .inr (.inr ⟨rfl, t, by rw [e]⟩)
theorem JumpV.n {at_ wd cch n : Int} : JumpV at_ wd cch 0 n .none := .inl ⟨rfl, rfl⟩
theorem jump_end {h₀ h' : Heap} {L : Addr} {m : Str → Option Value} {news led : List (Addr × Obj)} {s : Shared} {Q : Value → Shared → Prop} {tk' : Nat} {v : Value} {P : Value → Prop}
    (hret : ∀ (v : Value) (h' : Heap) (tk' : Nat), P v → Fr h₀ L h' m → News h₀ L h' news → Q v { s with heap := h', toks := tk' })
    (F : Fr h₀ L h' m) (N : News h₀ L h' led) (sub : ∀ p ∈ news, p ∈ led) (hv : P v) : Q v { s with heap := h', toks := tk' } := hret v h' tk' hv F fun p hp => N p (sub p hp)
/-- what the tables tell of a kind of op -/
structure KindT (K : Frag) (x : Str) (c : Int) (t0 tx : Tok) (bj : Bool) (cch dir : Int) : Prop where
  op : nsIn K 23 x = some (some (.int c t0))
  nm : itemAt K 22 c = some (.str x tx)
  jmp : tupHas K 33 c = some bj
  ca : CachesAre K x cch
  di : DirIs K c dir
  c0 : 0 < c
  c1 : c < 256
  len : x.length ≤ 100
/-- _law_looks(op, kind, n, more, at) -/
def LooksC (prog : Program) (w : World) (K : Frag) (p : Program) (loose : List Str) (mean : ExcName → Option Value) (mg mb : Str → Option Value) : Prop :=
  At 80 prog w K p loose mean mg mb fun h₀ L m news s Q E A => Tops K w.params → ∀ (X D U : Addr) (k1 k2 k3 k4 k5 k6 k7 t0 t1 t2 ts tx ta tb td tn tm tat : Tok) (ext lo : Value) (x : Str) (c cch dir n more sz at_ : Int) (bj : Bool),
    (X, instObj 412 D) ∈ news → (D, opDict w.params k1 k2 k3 k4 k5 k6 k7 ext (.str x t1) (.int c t0) (.bool bj) (.int n t2) (.int sz ts) lo) ∈ news → (U, tupObj [.str x ta, .bool true, .int cch tb, .int dir td]) ∈ news →
    KindT K x c t0 tx bj cch dir → tupHas K 27 c = some true → 0 ≤ n → n ≤ 2147483647 → sz = 2 * (W n + more) → (more = 0 ∨ more = 1 ∨ more = 2) →
    ((ext = .none ∧ more = 0) ∨ (∃ e te, ext = .int e te ∧ e = W n - 1 + more ∧ (more = 0 ∨ more = 1 ∨ more = 2))) →
    (∀ (h' : Heap) (tk' : Nat), Fr h₀ L h' m → News h₀ L h' news → Q (.bool true) { s with heap := h', toks := tk' }) →
    wpAny (model prog w) A (call (.ref 435) [.ref X, .ref U, .int n tn, .int more tm, .int at_ tat]) Q E s
theorem octs_last {c n more off : Int} (hm : more = 0 ∨ more = 1 ∨ more = 2) (h : off = W n + more - 1) : (octs c n more).getD (2 * off).toNat 0 = c ∧ (octs c n more).getD (2 * off + 1).toNat 0 = n % 256 := by
  by_cases h1 : n < 256
  · rw [W1 h1] at h
    rcases hm with rfl | rfl | rfl
    · subst h; rw [octs_0, octs0_1 h1]; exact ⟨rfl, rfl⟩
    · subst h; rw [octs_1, octs0_1 h1]; exact ⟨rfl, rfl⟩
    · subst h; rw [octs_2, octs0_1 h1]; exact ⟨rfl, rfl⟩
  · by_cases h2 : n < 65536
    · rw [W2 h1 h2] at h
      rcases hm with rfl | rfl | rfl
      · subst h; rw [octs_0, octs0_2 (by omega) h2]; exact ⟨rfl, rfl⟩
      · subst h; rw [octs_1, octs0_2 (by omega) h2]; exact ⟨rfl, rfl⟩
      · subst h; rw [octs_2, octs0_2 (by omega) h2]; exact ⟨rfl, rfl⟩
    · by_cases h3 : n < 16777216
      · rw [W3 h2 h3] at h
        rcases hm with rfl | rfl | rfl
        · subst h; rw [octs_0, octs0_3 (by omega) h3]; exact ⟨rfl, rfl⟩
        · subst h; rw [octs_1, octs0_3 (by omega) h3]; exact ⟨rfl, rfl⟩
        · subst h; rw [octs_2, octs0_3 (by omega) h3]; exact ⟨rfl, rfl⟩
      · rw [W4 h3] at h
        rcases hm with rfl | rfl | rfl
        · subst h; rw [octs_0, octs0_4 (by omega)]; exact ⟨rfl, rfl⟩
        · subst h; rw [octs_1, octs0_4 (by omega)]; exact ⟨rfl, rfl⟩
        · subst h; rw [octs_2, octs0_4 (by omega)]; exact ⟨rfl, rfl⟩
theorem DisC.looks {prog : Program} {w : World} {K : Frag} {p : Program} {loose : List Str} {mean : ExcName → Option Value} {mg mb : Str → Option Value}
    {dp un : Nat} {gd : Option (List Code)} {cn : Str} {sn : List (Str × NameKind)} {sg so : Bool} {sm : List (Str × Const)} {a : Addr} {ccd : Value} {cl : List (Str × Addr)} {outer : List Env} {A₀ : Around} {base h₀ : Heap} {L : Addr} {m : Str → Option Value} {news : List (Addr × Obj)} {s : Shared} {Q E : Value → Shared → Prop}
    {off : Int} {x : Str} {t0 tl tb tf tx : Tok} {c n more : Int} {bj : Bool}
    (C : DisC prog w K p loose mean mg mb) (B : Below A₀ base outer h₀) (F : Fr h₀ L s.heap m) (X₀ : K.In h₀) (N : News h₀ L s.heap news) (T : Top p loose mean mg mb h₀) (hdp : dp + 50 < recursionLimit) (hun : un + 20 * 50 < cLine) (TD : Tops K w.params)
    (q0 : nsIn K 23 x = some (some (.int c t0))) (q1 : itemAt K 22 c = some (.str x tx)) (q2 : tupHas K 27 c = some true) (q3 : tupHas K 33 c = some bj) (q4 : 0 < c) (q5 : c < 256) (hm : more = 0 ∨ more = 1 ∨ more = 2) (ho : off = W n + more - 1)
    (hret : ∀ (X D Y E : Addr) (k1 k2 k3 k4 k5 k6 k7 ts j1 j2 j3 j4 t : Tok) (sz : Int) (h' : Heap) (tk' : Nat), Fr h₀ L h' m → 
      News h₀ L h' ((X, instObj 412 D) :: (D, opDict w.params k1 k2 k3 k4 k5 k6 k7 .none (.str x tx) (.int c t0) (.bool bj) (.int (n % 256) t) (.int sz ts) (.ref Y)) :: (Y, instObj 104 E) :: (E, locDict w.params j1 j2 j3 j4 (.int 7 tl)) :: news) → Q (.ref X) { s with heap := h', toks := tk' }) :
    wpAny (model prog w) (ktrTop dp un gd cn ⟨.function, sn, sg, so, sm⟩ L a ccd cl outer) (call (.ref 399) [.int 7 tl, .bytes (byteArr (octs c n more)) tb, .int off tf]) Q E s := by
  have hl := octs_len (c := c) (n := n) hm
  have h1 := W_lo n
  have h4 := W_hi n
  obtain ⟨e1, e2⟩ := octs_last (c := c) hm ho
  unfold DisC At at C
  refine C dp un gd cn sn sg so sm a ccd cl outer A₀ base h₀ L m news s Q E B F X₀ N T hdp hun TD _ (octs c n more) off x t0 tl tb tf tx c (n % 256) bj true q0 q1 q2 q3 q4 q5 (KBa.ints_make (octs_in q4 q5)) (by omega) (by omega) (by omega) e1 e2 ?_
  rintro X D Y E k1 k2 k3 k4 k5 k6 k7 ts j1 j2 j3 j4 v sz h' tk' ⟨t, rfl⟩ F' N'
  exact hret X D Y E k1 k2 k3 k4 k5 k6 k7 ts j1 j2 j3 j4 t sz h' tk' F' N'
theorem true_end {h₀ h' : Heap} {L : Addr} {m : Str → Option Value} {news led : List (Addr × Obj)} {s : Shared} {Q : Value → Shared → Prop} {tk' : Nat} {b : Bool}
    (hret : ∀ (h' : Heap) (tk' : Nat), Fr h₀ L h' m → News h₀ L h' news → Q (.bool true) { s with heap := h', toks := tk' })
    (F : Fr h₀ L h' m) (N : News h₀ L h' led) (sub : ∀ p ∈ news, p ∈ led) (hb : b = true) : Q (.bool b) { s with heap := h', toks := tk' } := hb ▸ hret h' tk' F fun p hp => N p (sub p hp)
/-- _law_alone(kind, n, at) -/
def AloneC (prog : Program) (w : World) (K : Frag) (p : Program) (loose : List Str) (mean : ExcName → Option Value) (mg mb : Str → Option Value) : Prop :=
  AtS 120 prog w K p loose mean mg mb fun bk L m news s Q E A => Tops K w.params → ∀ (U : Addr) (t0 tx ta tb td tn tat : Tok) (x : Str) (c n at_ u1 u2 : Int) (bj : Bool),
    (U, tupObj [.str x ta, .bool false, .int u1 tb, .int u2 td]) ∈ news → KindT K x c t0 tx bj 0 0 → tupHas K 27 c = some false →
    (∀ (h₁ h' : Heap) (tk' : Nat), bk h₁ → Fr h₁ L h' m → News h₁ L h' news → Q (.bool true) { s with heap := h', toks := tk' }) →
    wpAny (model prog w) A (call (.ref 456) [.ref U, .int n tn, .int at_ tat]) Q E s
theorem bytesIn {prog : Program} {w : World} {A : Around} {E : Value → Shared → Prop} {s : Shared} {h₀ : Heap} {L D : Addr} {m : Str → Option Value} {news : List (Addr × Obj)} {vs : List Value} {ns : List Int} {Q : Value → Shared → Prop}
    (F : Fr h₀ L s.heap m) (N : News h₀ L s.heap news) (hh : A.handled = none) (hm : (D, listOf vs.toArray 0) ∈ news) (hi : IntsAre vs ns) (hin : KBa.In ns) (hl : ns.length ≤ 100)
    (h : ∀ h' t' k, Fr h₀ L h' m → News h₀ L h' news → Q (.bytes (byteArr ns) t') { s with heap := h', toks := k }) : wpAny (model prog w) A (call (.type "bytes") [.ref D]) Q E s :=
  KBa.make_K F N hh (News.isList N hm) hi hin (by omega) fun h' t' k F' N' _ => h h' t' k F' N'
theorem in2 {a b : Int} (a0 : 0 ≤ a) (a1 : a < 256) (b0 : 0 ≤ b) (b1 : b < 256) : KBa.In [a, b] := by
  intro k hk
  simp only [List.mem_cons, List.not_mem_nil, or_false] at hk
  omega
theorem aloneEnd {A₀ : Around} {base : Heap} {outer : List Env} {K : Frag} {p : Program} {loose : List Str} {mean : ExcName → Option Value} {mg mb : Str → Option Value} {h₀ h₁ h' : Heap} {L : Addr} {m : Str → Option Value} {news led : List (Addr × Obj)} {s : Shared} {Q : Value → Shared → Prop} {tk' : Nat} {b : Bool}
    (hret : ∀ (h₁ h' : Heap) (tk' : Nat), Turned A₀ base outer K p loose mean mg mb h₀ h₁ → Fr h₁ L h' m → News h₁ L h' news → Q (.bool true) { s with heap := h', toks := tk' })
    (F : Fr h₁ L h' m) (N : News h₁ L h' led) (T : KtsTurn (outer.filterMap (·.frame)) h₀ h₁) (B : Below A₀ base outer h₁) (X : K.In h₁) (P : Top p loose mean mg mb h₁) (D : KtsDicts (outer.filterMap (·.frame)) h₁) (sub : ∀ q ∈ news, q ∈ led) (hb : b = true) : Q (.bool b) { s with heap := h', toks := tk' } :=
  hb ▸ hret h₁ h' tk' ⟨T, B, X, P, D⟩ F fun q hq => N q (sub q hq)
theorem DisC.alone {prog : Program} {w : World} {K : Frag} {p : Program} {loose : List Str} {mean : ExcName → Option Value} {mg mb : Str → Option Value}
    {dp un : Nat} {gd : Option (List Code)} {cn : Str} {sn : List (Str × NameKind)} {sg so : Bool} {sm : List (Str × Const)} {a : Addr} {ccd : Value} {cl : List (Str × Addr)} {outer : List Env} {A₀ : Around} {base h₀ : Heap} {L : Addr} {m : Str → Option Value} {news : List (Addr × Obj)} {s : Shared} {Q E : Value → Shared → Prop}
    {x : Str} {t0 tl tb tf tx : Tok} {c z : Int} {bj : Bool}
    (C : DisC prog w K p loose mean mg mb) (B : Below A₀ base outer h₀) (F : Fr h₀ L s.heap m) (X₀ : K.In h₀) (N : News h₀ L s.heap news) (T : Top p loose mean mg mb h₀) (hdp : dp + 50 < recursionLimit) (hun : un + 20 * 50 < cLine) (TD : Tops K w.params)
    (q0 : nsIn K 23 x = some (some (.int c t0))) (q1 : itemAt K 22 c = some (.str x tx)) (q2 : tupHas K 27 c = some false) (q3 : tupHas K 33 c = some bj) (q4 : 0 < c) (q5 : c < 256) (z0 : 0 ≤ z) (z1 : z < 256)
    (hret : ∀ (X D Y E : Addr) (k1 k2 k3 k4 k5 k6 k7 ts j1 j2 j3 j4 : Tok) (sz : Int) (h' : Heap) (tk' : Nat), Fr h₀ L h' m → 
      News h₀ L h' ((X, instObj 412 D) :: (D, opDict w.params k1 k2 k3 k4 k5 k6 k7 .none (.str x tx) (.int c t0) (.bool bj) (.ref 49) (.int sz ts) (.ref Y)) :: (Y, instObj 104 E) :: (E, locDict w.params j1 j2 j3 j4 (.int 7 tl)) :: news) → Q (.ref X) { s with heap := h', toks := tk' }) :
    wpAny (model prog w) (ktrTop dp un gd cn ⟨.function, sn, sg, so, sm⟩ L a ccd cl outer) (call (.ref 399) [.int 7 tl, .bytes (byteArr [c, z]) tb, .int 0 tf]) Q E s := by
  unfold DisC At at C
  refine C dp un gd cn sn sg so sm a ccd cl outer A₀ base h₀ L m news s Q E B F X₀ N T hdp hun TD _ [c, z] 0 x t0 tl tb tf tx c z bj false q0 q1 q2 q3 q4 q5 (KBa.ints_make (in2 (by omega) q5 z0 z1)) (by omega) (by simp) (by simp) rfl rfl ?_
  rintro X D Y E k1 k2 k3 k4 k5 k6 k7 ts j1 j2 j3 j4 v sz h' tk' hv F' N'
  unfold DisV at hv
  subst hv
  exact hret X D Y E k1 k2 k3 k4 k5 k6 k7 ts j1 j2 j3 j4 sz h' tk' F' N'
theorem JumpC.alone {prog : Program} {w : World} {K : Frag} {p : Program} {loose : List Str} {mean : ExcName → Option Value} {mg mb : Str → Option Value}
    {dp un : Nat} {gd : Option (List Code)} {cn : Str} {sn : List (Str × NameKind)} {sg so : Bool} {sm : List (Str × Const)} {a : Addr} {ccd : Value} {cl : List (Str × Addr)} {outer : List Env} {A₀ : Around} {base h₀ : Heap} {L : Addr} {m : Str → Option Value} {news : List (Addr × Obj)} {s : Shared} {Q E : Value → Shared → Prop}
    {X D : Addr} {k1 k2 k3 k4 k5 k6 k7 t0 t1 ts ta : Tok} {ext ij ar lo : Value} {x : Str} {c at_ : Int}
    (C : JumpC prog w K p loose mean mg mb) (B : Below A₀ base outer h₀) (F : Fr h₀ L s.heap m) (X₀ : K.In h₀) (N : News h₀ L s.heap news) (T : Top p loose mean mg mb h₀) (hdp : dp + 20 < recursionLimit) (hun : un + 20 * 20 < cLine) (TD : Tops K w.params)
    (q0 : (X, instObj 412 D) ∈ news) (q1 : (D, opDict w.params k1 k2 k3 k4 k5 k6 k7 ext (.str x t1) (.int c t0) ij ar (.int 2 ts) lo) ∈ news) (q2 : CachesAre K x 0) (q3 : DirIs K c 0)
    (hret : ∀ (h' : Heap) (tk' : Nat), Fr h₀ L h' m → News h₀ L h' news → Q .none { s with heap := h', toks := tk' }) :
    wpAny (model prog w) (ktrTop dp un gd cn ⟨.function, sn, sg, so, sm⟩ L a ccd cl outer) (call (.ref 365) [.ref X, .int at_ ta]) Q E s := by
  unfold JumpC At at C
  refine C dp un gd cn sn sg so sm a ccd cl outer A₀ base h₀ L m news s Q E B F X₀ N T hdp hun TD X D k1 k2 k3 k4 k5 k6 k7 t0 t1 ts ta ext ij ar lo x c 0 0 at_ 1 0 q0 q1 q2 q3 (.inl rfl) ?_
  rintro v h' tk' (⟨_, rfl⟩ | ⟨e, _⟩ | ⟨e, _⟩) F' N'
  · exact hret h' tk' F' N'
  · exact absurd e (by decide)
  · exact absurd e (by decide)
/-- a value that is a kind of op -/
def KindV (K : Frag) (h₀ : Heap) (L : Addr) (h : Heap) (v : Value) : Prop :=
  ∃ (U : Addr) (x : Str) (ta tb td t0 tx : Tok) (b bj : Bool) (c cch dir : Int), v = .ref U ∧ News h₀ L h [(U, tupObj [.str x ta, .bool b, .int cch tb, .int dir td])] ∧ KindT K x c t0 tx bj cch dir ∧ tupHas K 27 c = some b ∧ (b = false → cch = 0 ∧ dir = 0) ∧ (dir = 0 ∨ dir = 1 ∨ dir = -1)
theorem KindV.of {K : Frag} {h₀ h : Heap} {L U : Addr} {x : Str} {ta tb td t0 tx : Tok} {b bj : Bool} {c cch dir : Int} {led : List (Addr × Obj)} (N : News h₀ L h led) (hm : (U, tupObj [.str x ta, .bool b, .int cch tb, .int dir td]) ∈ led) (hk : KindT K x c t0 tx bj cch dir) (hh : tupHas K 27 c = some b) (h0 : b = false → cch = 0 ∧ dir = 0) (hd : dir = 0 ∨ dir = 1 ∨ dir = -1) : KindV K h₀ L h (.ref U) :=
  ⟨U, x, ta, tb, td, t0, tx, b, bj, c, cch, dir, rfl, fun p hp => N p (by rw [List.mem_singleton.mp hp]; exact hm), hk, hh, h0, hd⟩
/-- _law_ops() -/
def OpsC (prog : Program) (w : World) (K : Frag) (p : Program) (loose : List Str) (mean : ExcName → Option Value) (mg mb : Str → Option Value) : Prop :=
  At 10 prog w K p loose mean mg mb fun h₀ L m news s Q E A => 
    (∀ (D : Addr) (vs : List Value) (h' : Heap) (tk' : Nat), vs.length = 11 → (∀ v ∈ vs, KindV K h₀ L h' v) → Fr h₀ L h' m → AllLt D news → News h₀ L h' ((D, listOf vs.toArray 0) :: news) → Q (.ref D) { s with heap := h', toks := tk' }) →
    wpAny (model prog w) A (call (.ref 421) []) Q E s
theorem ops_end {K : Frag} {h₀ h' : Heap} {L D : Addr} {m : Str → Option Value} {news led : List (Addr × Obj)} {s : Shared} {Q : Value → Shared → Prop} {tk' : Nat} {vs : List Value}
    (hret : ∀ (D : Addr) (vs : List Value) (h' : Heap) (tk' : Nat), vs.length = 11 → (∀ v ∈ vs, KindV K h₀ L h' v) → Fr h₀ L h' m → AllLt D news → News h₀ L h' ((D, listOf vs.toArray 0) :: news) → Q (.ref D) { s with heap := h', toks := tk' })
    (F : Fr h₀ L h' m) (N : News h₀ L h' ((D, listOf vs.toArray 0) :: led)) (hl : vs.length = 11) (lt : AllLt D news) (sub : ∀ p ∈ news, p ∈ led) (hk : ∀ v ∈ vs, KindV K h₀ L h' v) : Q (.ref D) { s with heap := h', toks := tk' } :=
  hret D vs h' tk' hl hk F lt fun p hp => N p (by
    rcases List.mem_cons.mp hp with rfl | hp
    · exact .head _
    · exact .tail _ (sub p hp))
theorem fr_turn0 {g g' h : Heap} {L : Addr} {m : Str → Option Value} (T : KtsTurn [] g g') (F : Fr g' L h m) : Fr g L h m := ⟨F.ns, fun b o e => F.keep b o (T.other b o e (by simp)), T.size ▸ F.above⟩
theorem news_turn0 {g g' h : Heap} {L : Addr} {news : List (Addr × Obj)} (T : KtsTurn [] g g') (N : News g' L h news) : News g L h news := fun p hp => ⟨(N p hp).1, (N p hp).2.1, by
  cases q : g.get? p.1 with
  | none => rfl
  | some o =>
    have z := T.other _ _ q (by simp)
    rw [(N p hp).2.2] at z
    cases z⟩
theorem item_kind {prog : Program} {w : World} {A : Around} {E : Value → Shared → Prop} {s : Shared} {K : Frag} {h₀ : Heap} {L D : Addr} {news : List (Addr × Obj)} {vs : List Value} {z : Int} {t : Tok} {value slice : PySem.Expr} {Q : Value → Shared → Prop}
    (N : News h₀ L s.heap news) (hm : (D, listOf vs.toArray 0) ∈ news) (hl : vs.length = 11) (hk : ∀ v ∈ vs, KindV K h₀ L s.heap v) (h0 : 0 ≤ z) (h1 : z < 11)
    (h : ∀ (U : Addr) (x : Str) (ta tb td t0 tx : Tok) (b bj : Bool) (c cch dir : Int), News h₀ L s.heap ((U, tupObj [.str x ta, .bool b, .int cch tb, .int dir td]) :: news) → KindT K x c t0 tx bj cch dir → tupHas K 27 c = some b → (b = false → cch = 0 ∧ dir = 0) → (dir = 0 ∨ dir = 1 ∨ dir = -1) → Q (.ref U) s)
    (hs : subscripted slice false (.ref D) (.int z t) = operate [.ref D, .int z t] (getItem (.ref D) (.int z t)) := by with_unfolding_all rfl) :
    wpAny (model prog w) A (subscriptTail value slice (.ref D) (.int z t)) Q E s := by
  have hli := News.isList N hm
  have hlt : z.toNat < vs.length := by omega
  obtain ⟨U, x, ta, tb, td, t0, tx, b, bj, c, cch, dir, e, N', hk', hh, hb, hd⟩ := hk (vs[z.toNat]) (List.getElem_mem hlt)
  refine tail_any hli.typeIs slot_list_getitem.lookup (wpAny_getItem_list hli h0 (by omega) (x := .ref U) (by simp [hlt, e]) ?_) hs
  refine h U x ta tb td t0 tx b bj c cch dir (fun p hp => ?_) hk' hh hb hd
  rcases List.mem_cons.mp hp with rfl | hp
  · exact N' _ (.head _)
  · exact N p hp
theorem OpsC.use {prog : Program} {w : World} {K : Frag} {p : Program} {loose : List Str} {mean : ExcName → Option Value} {mg mb : Str → Option Value}
    {dp un : Nat} {gd : Option (List Code)} {cn : Str} {sn : List (Str × NameKind)} {sg so : Bool} {sm : List (Str × Const)} {a : Addr} {ccd : Value} {cl : List (Str × Addr)} {outer : List Env} {A₀ : Around} {base h₀ : Heap} {L : Addr} {m : Str → Option Value} {news : List (Addr × Obj)} {s : Shared} {Q E : Value → Shared → Prop}
    (C : OpsC prog w K p loose mean mg mb) (B : Below A₀ base outer h₀) (F : Fr h₀ L s.heap m) (X₀ : K.In h₀) (N : News h₀ L s.heap news) (T : Top p loose mean mg mb h₀) (hdp : dp + 10 < recursionLimit) (hun : un + 20 * 10 < cLine)
    (hret : ∀ (D : Addr) (vs : List Value) (h' : Heap) (tk' : Nat), vs.length = 11 → (∀ v ∈ vs, KindV K h₀ L h' v) → Fr h₀ L h' m → AllLt D news → News h₀ L h' ((D, listOf vs.toArray 0) :: news) → Q (.ref D) { s with heap := h', toks := tk' }) :
    wpAny (model prog w) (ktrTop dp un gd cn ⟨.function, sn, sg, so, sm⟩ L a ccd cl outer) (call (.ref 421) []) Q E s := by
  unfold OpsC At at C
  exact C dp un gd cn sn sg so sm a ccd cl outer A₀ base h₀ L m news s Q E B F X₀ N T hdp hun hret
theorem below_at {K : Frag} {A : Around} {h : Heap} (_ : K.In h) (B : Below A h [] h) : Below A h [] h := B
theorem top_at {K : Frag} {p : Program} {loose : List Str} {mean : ExcName → Option Value} {mg mb : Str → Option Value} {h : Heap} (_ : K.In h) (T : Top p loose mean mg mb h) : Top p loose mean mg mb h := T
theorem unr0 {h₀ : Heap} {L I : Addr} {it : Obj} {s₁ : Shared} {h' : Heap} {tk : Nat} {m' : Str → Option Value} {all : List (Addr × Obj)} {x0 : Str} {v : Value} (F : Fr h₀ L h' m') (N : News h₀ L h' all) (hm : (I, it) ∈ all) (hx : m' x0 = some v) :
    UnrEnd h₀ L s₁ I it (fun m' nx => nx = [] ∧ m' x0 = some v) { s₁ with heap := h', toks := tk } :=
  UnrEnd.intro F N [] (fun p hp => by rw [List.mem_singleton.mp hp]; exact hm) (fun p hp => nomatch hp) ⟨rfl, hx⟩
/-- an item of the refused arguments -/
theorem item_bad {prog : Program} {w : World} {A : Around} {E : Value → Shared → Prop} {s : Shared} {K : Frag} {h₀ : Heap} {L D : Addr} {news : List (Addr × Obj)} {a b z c : Int} {t ta tb : Tok} {value slice : PySem.Expr} {Q : Value → Shared → Prop}
    (N : News h₀ L s.heap news) (hm : (D, listOf [.int a ta, .int b tb, .ref 49].toArray 0) ∈ news) (hh : tupHas K 27 c = some true) (h0 : 0 ≤ z) (h1 : z < 3) (ha : a < 0) (hb : 2147483647 < b)
    (h : ∀ v, BadArg K c v (Str.ofString "value") "ValueError" → Q v s)
    (hs : subscripted slice false (.ref D) (.int z t) = operate [.ref D, .int z t] (getItem (.ref D) (.int z t)) := by with_unfolding_all rfl) :
    wpAny (model prog w) A (subscriptTail value slice (.ref D) (.int z t)) Q E s := by
  have hli := News.isList N hm
  have hz : z = 0 ∨ z = 1 ∨ z = 2 := by omega
  rcases hz with rfl | rfl | rfl
  · exact tail_any hli.typeIs slot_list_getitem.lookup (wpAny_getItem_list hli h0 (by decide) (x := .int a ta) rfl (h _ (.inl ⟨hh, .inl ⟨a, ta, rfl, ha, rfl, rfl⟩⟩))) hs
  · exact tail_any hli.typeIs slot_list_getitem.lookup (wpAny_getItem_list hli h0 (by decide) (x := .int b tb) rfl (h _ (.inl ⟨hh, .inr (.inl ⟨b, tb, rfl, by omega, hb, rfl, rfl⟩)⟩))) hs
  · exact tail_any hli.typeIs slot_list_getitem.lookup (wpAny_getItem_list hli h0 (by decide) (x := .ref 49) rfl (h _ (.inl ⟨hh, .inr (.inr (.inr ⟨rfl, rfl, rfl⟩))⟩))) hs
def ItIs (_ : Addr) (_ : Obj) : Prop := True
def KuIs (_ : Addr) (_ : Obj) : Prop := True
theorem Set2C.use {prog : Program} {w : World} {K : Frag} {p : Program} {loose : List Str} {mean : ExcName → Option Value} {mg mb : Str → Option Value}
    {dp un : Nat} {gd : Option (List Code)} {cn : Str} {sn : List (Str × NameKind)} {sg so : Bool} {sm : List (Str × Const)} {a : Addr} {ccd : Value} {cl : List (Str × Addr)} {outer : List Env} {A₀ : Around} {base h₀ : Heap} {L : Addr} {m : Str → Option Value} {led : List (Addr × Obj)} {s : Shared} {Q E : Value → Shared → Prop}
    {X D I U : Addr} {it ob : Obj} {k1 k2 k3 k4 k5 k6 k7 : Tok} {nm op ij ar sz lo : Value} {x : Str} {t0 t1 t2 : Tok} {c n : Int} {bj : Bool}
    (C : Set2C prog w K p loose mean mg mb) (B : Below A₀ base outer h₀) (F : Fr h₀ L s.heap m) (X₀ : K.In h₀) (N : News h₀ L s.heap led) (T : Top p loose mean mg mb h₀) (hdp : dp + 20 < recursionLimit) (hun : un + 20 * 20 < cLine) (TD : Tops K w.params)
    (_hI : ItIs I it) (_hU : KuIs U ob) (m1 : (X, instObj 412 D) ∈ led) (m2 : (D, opDict w.params k1 k2 k3 k4 k5 k6 k7 .none nm op ij ar sz lo) ∈ led) (m3 : (I, it) ∈ led) (m4 : (U, ob) ∈ led) (n1 : I ≠ D) (n2 : U ≠ D) (hDX : D < X)
    (hop : nsIn K 23 x = some (some (.int c t0))) (hhas : tupHas K 27 c = some true) (hjmp : tupHas K 33 c = some bj) (hc0 : 0 < c) (hc1 : c < 256) (hn0 : 0 ≤ n) (hn1 : n ≤ 2147483647)
    (hret : ∀ (ts : Tok) (h' : Heap) (tk' : Nat), Fr h₀ L h' m → News h₀ L h' [(X, instObj 412 D), (D, opDict w.params k1 k2 k3 k4 k5 k6 k7 .none (.str x t1) (.int c t0) (.bool bj) (.int n t2) (.int (2 * W n) ts) lo), (I, it), (U, ob)] → Q .none { s with heap := h', toks := tk' }) :
    wpAny (model prog w) (ktrTop dp un gd cn ⟨.function, sn, sg, so, sm⟩ L a ccd cl outer) (call (.ref 343) [.ref X, .str x t1, .int n t2]) Q E s := by
  unfold Set2C At at C
  refine C dp un gd cn sn sg so sm a ccd cl outer A₀ base h₀ L m _ s Q E B F X₀ (fun q hq => N q ?_) T hdp hun TD X D [(I, it), (U, ob)] k1 k2 k3 k4 k5 k6 k7 nm op ij ar sz lo x t0 t1 t2 c n bj rfl ?_ hDX hop hhas hjmp hc0 hc1 hn0 hn1 hret
  · rcases List.mem_cons.mp hq with rfl | hq
    · exact m1
    · rcases List.mem_cons.mp hq with rfl | hq
      · exact m2
      · rcases List.mem_cons.mp hq with rfl | hq
        · exact m3
        · rcases List.mem_cons.mp hq with rfl | hq
          · exact m4
          · cases hq
  · intro q hq
    rcases List.mem_cons.mp hq with rfl | hq
    · exact n1
    · rcases List.mem_cons.mp hq with rfl | hq
      · exact n2
      · cases hq
theorem kuOf {h₀ h : Heap} {L U : Addr} {ob : Obj} {news : List (Addr × Obj)} (_ : News h₀ L h ((U, ob) :: news)) : KuIs U ob := True.intro
theorem itOf {h₀ h : Heap} {L U : Addr} {ob : Obj} {news : List (Addr × Obj)} (_ : News h₀ L h ((U, ob) :: news)) : ItIs U ob := True.intro
/-- the frame behind the if over the number -/
abbrev numMap (m : Str → Option Value) (n : Int) (t : Tok) : Str → Option Value := fun y => if y = Str.ofString "number" then some (.int n t) else m y
def NumI (g : Heap) (L : Addr) (m : Str → Option Value) (news : List (Addr × Obj)) (s s' : Shared) : Prop :=
  ∃ h' tk n t, s' = { s with heap := h', toks := tk } ∧ Fr g L h' (numMap m n t) ∧ News g L h' news ∧ 0 ≤ n ∧ n ≤ 2147483647
theorem NumI.intro {g h' : Heap} {L : Addr} {m : Str → Option Value} {news led : List (Addr × Obj)} {s : Shared} {tk : Nat} {n : Int} {t : Tok} (F : Fr g L h' (numMap m n t)) (N : News g L h' led) (sub : ∀ p ∈ news, p ∈ led) (h0 : 0 ≤ n) (h1 : n ≤ 2147483647) :
    NumI g L m news s { s with heap := h', toks := tk } := ⟨h', tk, n, t, rfl, F, fun p hp => N p (sub p hp), h0, h1⟩
theorem NumI.intro0 {g h' : Heap} {L : Addr} {m : Str → Option Value} {news led : List (Addr × Obj)} {s : Shared} {tk : Nat} {n : Int} {t : Tok} (F : Fr g L h' m) (hm : m (Str.ofString "number") = some (.int n t)) (N : News g L h' led) (sub : ∀ p ∈ news, p ∈ led) (h0 : 0 ≤ n) (h1 : n ≤ 2147483647) :
    NumI g L m news s { s with heap := h', toks := tk } := ⟨h', tk, n, t, rfl, frMap F (fun y => by
      unfold numMap
      by_cases e : y = Str.ofString "number"
      · rw [if_pos e, e, hm]
      · rw [if_neg e]), fun p hp => N p (sub p hp), h0, h1⟩
theorem numJoin {M : Model} {A : Around} {E : Value → Shared → Prop} {s : Shared} {env : Env} {test : PySem.Expr} {body orelse : List Stmt} {pos : Pos} {Q : Flow → Shared → Prop} {g : Heap} {L : Addr} {m : Str → Option Value} {news : List (Addr × Obj)} {n₀ : Int} {t₀ : Tok}
    (_F : Fr g L s.heap m) (_N : News g L s.heap news) (_hm : m (Str.ofString "number") = some (.int n₀ t₀))
    (h1 : wpAny M A (isTrue test env (eval test env)) (fun b s₂ => if b then wpAny M A (execs body env) (fun f s' => f = .next ∧ NumI g L m news s s') E s₂ else wpAny M A (execs orelse env) (fun f s' => f = .next ∧ NumI g L m news s s') E s₂) E s)
    (h2 : ∀ h' tk n t, 0 ≤ n → n ≤ 2147483647 → Fr g L h' (numMap m n t) → News g L h' news → Q .next { s with heap := h', toks := tk }) :
    wpAny M A (exec (.If test body orelse pos) env) Q E s :=
  wpAny_mono (wpAny_If h1) (fun f s' q => by
    obtain ⟨rfl, h', tk, n, t, rfl, F, N, h0, h1⟩ := q
    exact h2 h' tk n t h0 h1 F N) fun _ _ x => x
theorem LooksC.use2 {prog : Program} {w : World} {K : Frag} {p : Program} {loose : List Str} {mean : ExcName → Option Value} {mg mb : Str → Option Value}
    {dp un : Nat} {gd : Option (List Code)} {cn : Str} {sn : List (Str × NameKind)} {sg so : Bool} {sm : List (Str × Const)} {a : Addr} {ccd : Value} {cl : List (Str × Addr)} {outer : List Env} {A₀ : Around} {base h₀ : Heap} {L : Addr} {m : Str → Option Value} {news : List (Addr × Obj)} {s : Shared} {Q E : Value → Shared → Prop}
    {X D U : Addr} {k1 k2 k3 k4 k5 k6 k7 t0 t1 t2 ts tx ta tb td tn tm tat : Tok} {ext lo : Value} {x : Str} {c cch dir n n' more sz at_ : Int} {bj : Bool}
    (C : LooksC prog w K p loose mean mg mb) (B : Below A₀ base outer h₀) (F : Fr h₀ L s.heap m) (X₀ : K.In h₀) (N : News h₀ L s.heap news) (T : Top p loose mean mg mb h₀) (hdp : dp + 80 < recursionLimit) (hun : un + 20 * 80 < cLine) (TD : Tops K w.params)
    (q0 : (X, instObj 412 D) ∈ news) (q1 : (D, opDict w.params k1 k2 k3 k4 k5 k6 k7 ext (.str x t1) (.int c t0) (.bool bj) (.int n t2) (.int sz ts) lo) ∈ news) (q2 : (U, tupObj [.str x ta, .bool true, .int cch tb, .int dir td]) ∈ news)
    (q3 : KindT K x c t0 tx bj cch dir) (q4 : tupHas K 27 c = some true) (q5 : 0 ≤ n) (q6 : n ≤ 2147483647) (q7 : sz = 2 * (W n + more)) (q8 : more = 0 ∨ more = 1 ∨ more = 2)
    (q9 : (ext = .none ∧ more = 0) ∨ (∃ e te, ext = .int e te ∧ e = W n - 1 + more ∧ (more = 0 ∨ more = 1 ∨ more = 2))) (e : n' = n)
    (hret : ∀ (h' : Heap) (tk' : Nat), Fr h₀ L h' m → News h₀ L h' news → Q (.bool true) { s with heap := h', toks := tk' }) :
    wpAny (model prog w) (ktrTop dp un gd cn ⟨.function, sn, sg, so, sm⟩ L a ccd cl outer) (call (.ref 435) [.ref X, .ref U, .int n' tn, .int more tm, .int at_ tat]) Q E s := by
  subst e
  unfold LooksC At at C
  exact C dp un gd cn sn sg so sm a ccd cl outer A₀ base h₀ L m news s Q E B F X₀ N T hdp hun TD X D U k1 k2 k3 k4 k5 k6 k7 t0 t1 t2 ts tx ta tb td tn tm tat ext lo x c cch dir n' more sz at_ bj q0 q1 q2 q3 q4 q5 q6 q7 q8 q9 hret

theorem bt_no_bytes : typeLookup (.type "tuple") "__bytes__" = pure none := by rw [typeLookup_type, builtinLookup_eq_fast]; kernel_rfl
theorem bt_no_index : typeLookup (.type "tuple") "__index__" = pure none := by rw [typeLookup_type, builtinLookup_eq_fast]; kernel_rfl
theorem bt_no_buffer : typeLookup (.type "tuple") "__buffer__" = pure none := by rw [typeLookup_type, builtinLookup_eq_fast]; kernel_rfl
theorem bt_len : Slot "tuple" "__len__" "tuple.__len__" := .of (owner := "tuple") (n := "__len__") (by rw [typeLookup_type, builtinLookup_eq_fast]; kernel_rfl) (by decide +kernel) (by decide +kernel) (by decide +kernel)
    (by first | exact .inl (by decide +kernel) | exact .inr (by decide +kernel)) (by rw [isSubtype_type]; kernel_rfl)
theorem bt_split : splitId "tuple.__len__" = some ("tuple", "__len__") := by decide +kernel
theorem bt_sub : isSubtype (.type "tuple") (.type "tuple") = pure true := by rw [isSubtype_type]; kernel_rfl
section
variable {prog : Program} {w : World} {A : Around} {E : Value → Shared → Prop} {s : Shared}
/-- the loop of bytes(..) over a tuple's iterator -/
theorem bt_loop {R : Result → Shared → Prop} {l I S : Addr} {vs : List Value} {ns : List Int} (hh : A.handled = none) (hi : IntsAre vs ns) (hr : ∀ n ∈ ns, 0 ≤ n ∧ n < 256) (hz : ns.length ≤ sizeLine) (hIS : I ≠ S) (hlI : l ≠ I) (hlS : l ≠ S) :
    ∀ (k i : Nat) (s : Shared), ns.length - i = k → i ≤ ns.length → s.heap.IsTuple l vs.toArray → s.heap.IsTupleIter I l i → s.heap.get? S = some { cls := .type "bytearray", data := .bytearray (byteArr (ns.take i)) } →
      (∀ h' t k', (∀ b o, b ≠ I → b ≠ S → s.heap.get? b = some o → h'.get? b = some o) → R (.ok (.ret (.bytes (byteArr ns) t))) { s with heap := h', toks := k' }) →
      codeAny (model prog w) A (.builtin "bytes.__new__.loop" ⟨[.type "bytes", .ref I, .ref S], []⟩) R s
  | 0, i, s, hk, hle, hl, hit, hS, hR => by
    have e : i = ns.length := by omega
    subst e
    have hvl := hi.length
    refine codeAny_builtin F.bm_entry_loop ?_
    rw [Around.under_plainId F.bm_plain_loop _]
    show wpAny _ A.in1 (pyNext (.ref I) >>= _) _ _ s
    refine wpAny_bind (wpAny_pyNext_tuple_end hh hit hl (by simp [hvl]) fun h' he => ?_)
    refine wpAny_bind ?_
    unfold Builtin.Bytes.payload Builtin.Bytes.payload?
    refine wpAny_bind (wpAny_bind (wpAny_load (he S _ (Ne.symm hIS) hS) ?_))
    refine wpAny_pure (wpAny_pure ?_)
    rw [List.take_length]
    refine wpAny_bind (wpAny_mkBytes ?_ (by rw [byteArr_size]; exact hz))
    show wpAny _ _ (if (Value.type "bytes" == Value.type "bytes") = true then _ else _) _ _ _
    refine bm_if_true (by decide) ?_
    first
      | exact wpAny_pure (hR h' _ _ fun b o hb _ x => he b o hb x)
      | exact wpAny_bind (wpAny_pure (wpAny_pure (hR h' _ _ fun b o hb _ x => he b o hb x)))
  | k + 1, i, s, hk, hle, hl, hit, hS, hR => by
    have hlt : i < ns.length := by omega
    have hvl := hi.length
    obtain ⟨t, hx⟩ := hi.get i ns[i] (by simp [hlt])
    obtain ⟨h0, h1⟩ := hr ns[i] (List.getElem_mem hlt)
    refine codeAny_builtin F.bm_entry_loop ?_
    rw [Around.under_plainId F.bm_plain_loop _]
    show wpAny _ A.in1 (pyNext (.ref I) >>= _) _ _ s
    refine wpAny_bind (wpAny_pyNext_tuple_item (x := .int ns[i] t) hit hl (by simpa using hx) fun h' hit' hs => ?_)
    have hS' := (hs.2 S (Ne.symm hIS)).trans hS
    refine wpAny_bind (wpAny_holding (wpAny_of_eq (rfl : asIndex (.int ns[i] t) = pure ns[i]) ?_))
    refine wpAny_bind (wpAny_letGo ?_)
    refine bm_if_false (by simp only [Bool.or_eq_false_iff, decide_eq_false_iff_not]; omega) ?_
    refine wpAny_bind ?_
    show wpAny _ _ (updateBytearray S (·.push (ns[i]).toNat.toUInt8)) _ _ _
    unfold updateBytearray
    refine wpAny_bind (wpAny_load hS' ?_)
    show wpAny _ _ (update S (Obj.mapBytearray (·.push (ns[i]).toNat.toUInt8)) >>= fun _ => lookBehind S) _ _ _
    refine wpAny_bind (wpAny_update hS' ?_)
    have hS₂ : (h'.update S (Obj.mapBytearray (·.push (ns[i]).toNat.toUInt8))).get? S = some { cls := .type "bytearray", data := .bytearray (byteArr (ns.take (i + 1))) } := by
      rw [byteArr_take (n := ns[i]) (by simp [hlt])]
      exact Heap.get?_update_self (Obj.mapBytearray (·.push (ns[i]).toNat.toUInt8)) hS' rfl
    refine wpAny_lookBehind hS₂ ?_ (wpAny_pure ⟨plainId_quiet F.bm_plain_loop _, ?_⟩)
    · show (if (byteArr (ns.take (i + 1))).size > sizeLine then some "bytearray:memory" else none) = none
      rw [if_neg (by rw [byteArr_size, List.length_take]; omega)]
    · exact bt_loop hh hi hr hz hIS hlI hlS k (i + 1) { s with heap := h'.update S (Obj.mapBytearray (·.push (ns[i]).toNat.toUInt8)) } (by omega) hlt
        ((hl.extBut hs.extBut hlI).extBut (Heap.SameBut.update ..).extBut hlS) (hit'.extBut (Heap.SameBut.update ..).extBut hIS) hS₂
        fun h3 t' k' hk3 => hR h3 t' k' fun b o hbI hbS x => hk3 b o hbI hbS ((Heap.get?_update_other _ _ (Ne.symm hbS)).trans (hs.extBut b o hbI x))
theorem bt_new {l : Addr} {vs : List Value} {ns : List Int} {Q : Value → Shared → Prop} (hh : A.handled = none) (hl : s.heap.IsTuple l vs.toArray) (hi : IntsAre vs ns) (hr : ∀ n ∈ ns, 0 ≤ n ∧ n < 256) (hz : ns.length ≤ sizeLine)
    (hQ : ∀ h' t k, (∀ b o, s.heap.get? b = some o → h'.get? b = some o) → Q (.bytes (byteArr ns) t) { s with heap := h', toks := k }) :
    codeAny (model prog w) A (.call (.builtin "bytes.__new__") ⟨[.type "bytes", .ref l], []⟩) (wants Q E) s := by
  obtain ⟨ol, hol, hoc, nl, hod⟩ := id hl
  have hT : s.TypeIs (.ref l) "tuple" := ⟨ol, hol, hoc⟩
  have hlt : l < s.heap.objs.size := Heap.lt_size hol
  have hsz : (s.heap.push { cls := .type "tuple_iterator", data := .fields #[.ref l, .int 0 0] }).objs.size = s.heap.objs.size + 1 := Heap.size_push _ _
  refine codeAny_of_tree ?_
  show wpAny _ A.in1 (do checkBuiltinCall "bytes.__new__" ⟨[.type "bytes", .ref l], []⟩; again (.builtin "bytes.__new__" ⟨[.type "bytes", .ref l], []⟩)) _ _ s
  refine wpAny_bind (wpAny_of_eq (F.bm_newCall _) (wpAny_pure ⟨plainId_quiet F.bm_plain _, codeAny_builtin F.bm_entry ?_⟩))
  rw [Around.under_plainId F.bm_plain _]
  unfold Builtin.«bytes.__new__»
  refine wpAny_bind (wpAny_of_eq (a := true) rfl ?_)
  refine bm_if_false rfl (wpAny_bind (wpAny_of_eq F.bm_sub ?_))
  refine bm_if_false rfl (wpAny_bind (wpAny_of_eq (F.bm_bind _) ?_))
  refine wpAny_bind (wpAny_of_eq (a := ()) rfl (wpAny_bind (wpAny_of_eq (a := ()) rfl ?_)))
  refine bm_if_false rfl (wpAny_bind (wpAny_specialOf hT bt_no_bytes ?_))
  refine wpAny_bind (wpAny_bind ?_)
  show wpAny _ _ (load l >>= _) _ _ _
  refine wpAny_bind (wpAny_load hol ?_)
  rw [hod]
  refine wpAny_pure (wpAny_pure ?_)
  refine bm_if_false rfl (wpAny_bind (wpAny_specialOf hT bt_no_index ?_))
  refine bm_if_true rfl ?_
  first
    | show wpAny _ _ (Builtin.Bytes.buffer? "bytes.__new__" (.ref l) true >>= _) _ _ _
    | (refine wpAny_bind ?_; show wpAny _ _ (Builtin.Bytes.buffer? "bytes.__new__" (.ref l) true >>= _) _ _ _)
  refine wpAny_bind ?_
  unfold Builtin.Bytes.buffer?
  refine wpAny_bind (wpAny_specialOf hT bt_no_buffer (wpAny_bind (wpAny_specialOf hT bt_no_buffer (wpAny_pure ?_))))
  refine wpAny_bind (wpAny_tryCatch (wpAny_pyIter_tuple hl ?_))
  have hT₁ : ({ s with heap := s.heap.push { cls := .type "tuple_iterator", data := .fields #[.ref l, .int 0 0] } } : Shared).TypeIs (.ref l) "tuple" := ⟨ol, Heap.get?_push_of_some _ hol, hoc⟩
  refine wpAny_bind (wpAny_holding ?_)
  unfold Builtin.Bytes.lengthHint
  refine wpAny_bind (wpAny_specialOf hT₁ bt_len.lookup ?_)
  dsimp only
  rw [bt_split]
  dsimp only
  refine wpAny_bind (wpAny_isInstance hT₁ bt_sub ?_)
  refine bm_if_false rfl (bm_if_true (by decide +kernel) (wpAny_pure (wpAny_bind ?_)))
  unfold Builtin.Bytes.newBytearray
  refine wpAny_newObj_type ?_ (Nat.zero_le _)
  have main := bt_loop (prog := prog) (w := w) (A := A) (R := wants Q E) (l := l) (I := s.heap.objs.size) (S := (s.heap.push { cls := .type "tuple_iterator", data := .fields #[.ref l, .int 0 0] }).objs.size) hh hi hr hz
    (by rw [hsz]; exact Nat.ne_of_lt (Nat.lt_succ_self _)) (Nat.ne_of_lt hlt) (by rw [hsz]; exact Nat.ne_of_lt (Nat.lt_succ_of_lt hlt))
    ns.length 0 { s with heap := (s.heap.push { cls := .type "tuple_iterator", data := .fields #[.ref l, .int 0 0] }).push { cls := .type "bytearray", data := .bytearray #[] } } rfl (Nat.zero_le _)
    ⟨ol, Heap.get?_push_of_some _ (Heap.get?_push_of_some _ hol), hoc, nl, hod⟩ ⟨_, Heap.get?_push_of_some _ (Heap.get?_push_size _ rfl), rfl, rfl⟩ (Heap.get?_push_size _ rfl)
    fun h' t k hk => hQ h' t k fun b o e => hk b o (Nat.ne_of_lt (Heap.lt_size e)) (by rw [hsz]; exact Nat.ne_of_lt (Nat.lt_succ_of_lt (Heap.lt_size e))) (Heap.get?_push_of_some _ (Heap.get?_push_of_some _ e))
  first
    | exact wpAny_pure ⟨plainId_quiet F.bm_plain_loop _, main⟩
    | exact wpAny_pure (wpAny_pure ⟨plainId_quiet F.bm_plain_loop _, main⟩)
/-- bytes(t), t a tuple of ints -/
theorem bt_call {l : Addr} {vs : List Value} {ns : List Int} {Q : Value → Shared → Prop} (hl : s.heap.IsTuple l vs.toArray) (hi : IntsAre vs ns) (hr : ∀ n ∈ ns, 0 ≤ n ∧ n < 256) (hz : ns.length ≤ sizeLine) (hh : A.handled = none)
    (hQ : ∀ h' t k, (∀ b o, s.heap.get? b = some o → h'.get? b = some o) → Q (.bytes (byteArr ns) t) { s with heap := h', toks := k }) : wpAny (model prog w) A (call (.type "bytes") [.ref l]) Q E s := by
  refine callType_codes (Q₁ := fun obj s₁ => s₁.TypeIs obj "bytes" ∧ Q obj s₁) F.bm_called (F.bm_typeCall _) F.entry_object_init
    (bt_new hh hl hi hr hz fun h' t k hk => ⟨PySem.W.typeIs_bytes _ _ _, hQ h' t k hk⟩) fun obj s₁ h₁ => ?_
  exact ⟨h₁.1, F.args_object_init_2 obj _, object_init_meets F.bm_called.init.lookup F.bm_called.made (by decide) prog w A.in1 _ s₁ ⟨h₁.1, rfl, h₁.2⟩⟩
end
theorem bytesTup {prog : Program} {w : World} {A : Around} {E : Value → Shared → Prop} {s : Shared} {h₀ : Heap} {L D : Addr} {m : Str → Option Value} {news : List (Addr × Obj)} {vs : List Value} {ns : List Int} {Q : Value → Shared → Prop}
    (F : Fr h₀ L s.heap m) (N : News h₀ L s.heap news) (hh : A.handled = none) (hm : (D, { cls := .type "tuple", data := .seq vs.toArray }) ∈ news) (hi : IntsAre vs ns) (hin : KBa.In ns) (hl : ns.length ≤ 100)
    (h : ∀ h' t' k, Fr h₀ L h' m → News h₀ L h' news → Q (.bytes (byteArr ns) t') { s with heap := h', toks := k }) : wpAny (model prog w) A (call (.type "bytes") [.ref D]) Q E s :=
  bt_call ⟨_, (N _ hm).1, rfl, _, rfl⟩ hi hin (by rw [sizeLine_eq]; omega) hh fun h' t' k hk => h h' t' k (F.keptAll hk) (N.grown hk)

section
variable {prog : Program} {w : World} {A : Around} {E : Value → Shared → Prop} {s : Shared} {env : Env} {h₀ : Heap} {x x0 : Str} {v : Value} {body : List Stmt} {Q : Flow → Shared → Prop}
/-- what a turn of the law's loop must show -/
def TurnT (prog : Program) (w : World) (A : Around) (E : Value → Shared → Prop) (h₀ : Heap) (env : Env) (x x0 : Str) (v : Value) (body : List Stmt) (Q : Flow → Shared → Prop) (s : Shared) (b₀ : Int) (L : Addr) : Prop :=
  ∀ (I : Addr) (it : Obj) (k : Int) (m : Str → Option Value) (t : Tok) (h : Heap) (tk : Nat), 0 ≤ k → k < b₀ → Fr h₀ L h (fun y => if y = x then some (.int k t) else if y = x0 then some v else m y) → News h₀ L h [(I, it)] →
    wpAny (model prog w) A (execs body env) (UnrPost h₀ L { s with heap := h, toks := tk } I it (fun m' nx => nx = [] ∧ m' x0 = some v) Q) E { s with heap := h, toks := tk }
theorem law_turns {I : Addr} {b₀ : Int} {n : Nat} (hb : ∀ i : Nat, i < n → (i : Int) * 3 < b₀) (turn : TurnT prog w A E h₀ env x x0 v body Q s b₀ env.locals)
    (done : ∀ m h tk, Fr h₀ env.locals h m → News h₀ env.locals h [] → Q .next { s with heap := h, toks := tk }) :
    ∀ (k i : Nat) (m : Str → Option Value), k + i = n → m x0 = some v → KrsRest prog w A E h₀ env x body Q s I 0 3 n k i m []
  | 0, _, m, _, _ => KrsRest.zero fun h tk F N => done m h tk F N
  | k + 1, i, m, hk, hm => by
    refine KrsRest.succ (v := (i : Int) * 3) (by omega) fun t h tk F N => ?_
    have F₂ : Fr h₀ env.locals h (fun y => if y = x then some (.int ((i : Int) * 3) t) else if y = x0 then some v else m y) := by
      have e : (fun y => if y = x then some (Value.int ((i : Int) * 3) t) else if y = x0 then some v else m y) = fun y => if y = x then some (Value.int ((i : Int) * 3) t) else m y := by
        funext y
        by_cases h1 : y = x
        · rw [if_pos h1, if_pos h1]
        · rw [if_neg h1, if_neg h1]
          by_cases h2 : y = x0
          · rw [if_pos h2, h2, hm]
          · rw [if_neg h2]
      rw [e]
      exact F
    refine wpAny_mono (turn I _ ((i : Int) * 3) m t h tk (by omega) (hb i (by omega)) F₂ N) (fun f s₂ p => ?_) fun _ _ e => e
    have fin : UnrEnd h₀ env.locals { s with heap := h, toks := tk } I (krsIt (0 + ((i + 1 : Nat) : Int) * 3) ((n : Int) - ((i + 1 : Nat) : Int)) 3) (fun m' nx => nx = [] ∧ m' x0 = some v) s₂ →
        UnrEnd h₀ env.locals { s with heap := h, toks := tk } I (krsIt (0 + ((i + 1 : Nat) : Int) * 3) ((n : Int) - ((i + 1 : Nat) : Int)) 3) (KrsRest prog w A E h₀ env x body Q s I 0 3 n k (i + 1)) s₂ := by
      rintro ⟨h', tk', m', nx, e, F', N', ho, rfl, hm'⟩
      exact ⟨h', tk', m', [], e, F', N', ho, law_turns hb turn done k (i + 1) m' (by omega) hm'⟩
    cases f with
    | ret v => exact p
    | brk => exact p
    | next => exact fin p
    | cont => exact fin p
theorem law_iter {r : Addr} {b₀ : Int} {t₀ u₀ v₀ : Tok} {m₀ : Str → Option Value} {L : Addr} (hL : env.locals = L) (hh : A.handled = none) (hr : IsRange s.heap r 0 b₀ 3 t₀ u₀ v₀) (hb0 : 0 ≤ b₀) (hb1 : b₀ ≤ 24) (F : Fr h₀ L s.heap m₀) (N : News h₀ L s.heap []) (hm : m₀ x0 = some v)
    (turn : TurnT prog w A E h₀ env x x0 v body Q s b₀ L)
    (done : ∀ m h tk, Fr h₀ L h m → News h₀ L h [] → Q .next { s with heap := h, toks := tk }) :
    wpAny (model prog w) A (pyIter (.ref r)) (fun it s₂ => LoopAtV prog w A h₀ env x body Q E it s₂) E s := by
  subst hL
  have hn : Builtin.Range.rangeSize 0 b₀ 3 = (((Builtin.Range.rangeSize 0 b₀ 3).toNat : Nat) : Int) := by
    unfold Builtin.Range.rangeSize
    rw [if_pos (by decide)]
    split <;> omega
  refine krs_iter (n := (Builtin.Range.rangeSize 0 b₀ 3).toNat) hh hr ?_ hn F N fun I _ => law_turns ?_ turn done _ 0 m₀ (by omega) hm
  · have hz : Builtin.Range.rangeSize 0 b₀ 3 = if 0 < b₀ then (b₀ - 0 - 1) / 3 + 1 else 0 := by
      unfold Builtin.Range.rangeSize
      rw [if_pos (by decide)]
    unfold Builtin.Range.small
    rw [hz]
    simp only [Builtin.Range.rangeFitsLong, Bool.and_eq_true, Bool.or_eq_true, decide_eq_true_eq, beq_iff_eq, show (3 : Int) > 0 by decide, if_true]
    split <;> omega
  · intro i hi
    unfold Builtin.Range.rangeSize at hi
    rw [if_pos (by decide)] at hi
    split at hi <;> omega
end

theorem AsmC.use {prog : Program} {w : World} {K : Frag} {p : Program} {loose : List Str} {mean : ExcName → Option Value} {mg mb : Str → Option Value}
    {dp un : Nat} {gd : Option (List Code)} {cn : Str} {sn : List (Str × NameKind)} {sg so : Bool} {sm : List (Str × Const)} {a : Addr} {ccd : Value} {cl : List (Str × Addr)} {outer : List Env} {A₀ : Around} {base h₀ : Heap} {L : Addr} {m : Str → Option Value} {news : List (Addr × Obj)} {s : Shared} {Q E : Value → Shared → Prop}
    {X D : Addr} {x : Str} {k1 k2 k3 k4 k5 k6 k7 t0 t1 t2 ts : Tok} {c n more sz : Int} {bj : Bool} {ext lo : Value}
    (C : AsmC prog w K p loose mean mg mb) (B : Below A₀ base outer h₀) (F : Fr h₀ L s.heap m) (X₀ : K.In h₀) (N : News h₀ L s.heap news) (T : Top p loose mean mg mb h₀) (hdp : dp + 20 < recursionLimit) (hun : un + 20 * 20 < cLine) 
    (q0 : (X, instObj 412 D) ∈ news) (q1 : (D, opDict w.params k1 k2 k3 k4 k5 k6 k7 ext (.str x t1) (.int c t0) (.bool bj) (.int n t2) (.int sz ts) lo) ∈ news) (q2 : 0 < c) (q3 : c < 256) (q4 : 0 ≤ n) (q5 : n ≤ 2147483647) (q6 : sz = 2 * (W n + more)) (q7 : ((ext = .none ∧ more = 0) ∨ (∃ e te, ext = .int e te ∧ e = W n - 1 + more ∧ (more = 0 ∨ more = 1 ∨ more = 2))))
    (hret : ∀ (t : Tok) (h' : Heap) (tk' : Nat), Fr h₀ L h' m → News h₀ L h' news → Q (.bytes (byteArr (octs c n more)) t) { s with heap := h', toks := tk' }) :
    wpAny (model prog w) (ktrTop dp un gd cn ⟨.function, sn, sg, so, sm⟩ L a ccd cl outer) (call (.ref 372) [.ref X]) Q E s := by
  unfold AsmC At at C
  exact C dp un gd cn sn sg so sm a ccd cl outer A₀ base h₀ L m news s Q E B F X₀ N T hdp hun X D x k1 k2 k3 k4 k5 k6 k7 t0 t1 t2 ts c n more sz bj ext lo q0 q1 q2 q3 q4 q5 q6 q7 hret
theorem OctC.use {prog : Program} {w : World} {K : Frag} {p : Program} {loose : List Str} {mean : ExcName → Option Value} {mg mb : Str → Option Value}
    {dp un : Nat} {gd : Option (List Code)} {cn : Str} {sn : List (Str × NameKind)} {sg so : Bool} {sm : List (Str × Const)} {a : Addr} {ccd : Value} {cl : List (Str × Addr)} {outer : List Env} {A₀ : Around} {base h₀ : Heap} {L : Addr} {m : Str → Option Value} {news : List (Addr × Obj)} {s : Shared} {Q E : Value → Shared → Prop}
    {x : Str} {t0 t1 t2 t3 : Tok} {c n more : Int}
    (C : OctC prog w K p loose mean mg mb) (B : Below A₀ base outer h₀) (F : Fr h₀ L s.heap m) (X₀ : K.In h₀) (N : News h₀ L s.heap news) (T : Top p loose mean mg mb h₀) (hdp : dp + 20 < recursionLimit) (hun : un + 20 * 20 < cLine) (TD : Tops K w.params)
    (q0 : nsIn K 23 x = some (some (.int c t0))) (q1 : 0 < c) (q2 : c < 256) (q3 : 0 ≤ n) (q4 : n ≤ 2147483647) (q5 : (more = 0 ∨ more = 1 ∨ more = 2))
    (hret : ∀ (T : Addr) (tb tw : Tok) (h' : Heap) (tk' : Nat), Fr h₀ L h' m → AllLt T news → News h₀ L h' ((T, tupObj [.bytes (byteArr (octs c n more)) tb, .int (W n + more) tw]) :: news) → Q (.ref T) { s with heap := h', toks := tk' }) :
    wpAny (model prog w) (ktrTop dp un gd cn ⟨.function, sn, sg, so, sm⟩ L a ccd cl outer) (call (.ref 428) [.str x t1, .int n t2, .int more t3]) Q E s := by
  unfold OctC At at C
  exact C dp un gd cn sn sg so sm a ccd cl outer A₀ base h₀ L m news s Q E B F X₀ N T hdp hun TD x t0 t1 t2 t3 c n more q0 q1 q2 q3 q4 q5 hret
theorem DisC.use {prog : Program} {w : World} {K : Frag} {p : Program} {loose : List Str} {mean : ExcName → Option Value} {mg mb : Str → Option Value}
    {dp un : Nat} {gd : Option (List Code)} {cn : Str} {sn : List (Str × NameKind)} {sg so : Bool} {sm : List (Str × Const)} {a : Addr} {ccd : Value} {cl : List (Str × Addr)} {outer : List Env} {A₀ : Around} {base h₀ : Heap} {L : Addr} {m : Str → Option Value} {news : List (Addr × Obj)} {s : Shared} {Q E : Value → Shared → Prop}
    {b : Array UInt8} {ks : List Int} {off : Int} {x : Str} {t0 tl tb tf tx : Tok} {c n : Int} {bj has : Bool}
    (C : DisC prog w K p loose mean mg mb) (B : Below A₀ base outer h₀) (F : Fr h₀ L s.heap m) (X₀ : K.In h₀) (N : News h₀ L s.heap news) (T : Top p loose mean mg mb h₀) (hdp : dp + 50 < recursionLimit) (hun : un + 20 * 50 < cLine) (TD : Tops K w.params)
    (q0 : nsIn K 23 x = some (some (.int c t0))) (q1 : itemAt K 22 c = some (.str x tx)) (q2 : tupHas K 27 c = some has) (q3 : tupHas K 33 c = some bj) (q4 : 0 < c) (q5 : c < 256) (q6 : KBw.bInts b = ks) (q7 : 0 ≤ off) (q8 : 2 * off + 1 < (ks.length : Int)) (q9 : (ks.length : Int) ≤ 100) (q10 : ks.getD (2 * off).toNat 0 = c) (q11 : ks.getD (2 * off + 1).toNat 0 = n)
    (hret : ∀ (X D Y E : Addr) (k1 k2 k3 k4 k5 k6 k7 ts j1 j2 j3 j4 : Tok) (v : Value) (sz : Int) (h' : Heap) (tk' : Nat), DisV has n v → Fr h₀ L h' m → News h₀ L h' ((X, instObj 412 D) :: (D, opDict w.params k1 k2 k3 k4 k5 k6 k7 .none (.str x tx) (.int c t0) (.bool bj) v (.int sz ts) (.ref Y)) :: (Y, instObj 104 E) :: (E, locDict w.params j1 j2 j3 j4 (.int 7 tl)) :: news) → Q (.ref X) { s with heap := h', toks := tk' }) :
    wpAny (model prog w) (ktrTop dp un gd cn ⟨.function, sn, sg, so, sm⟩ L a ccd cl outer) (call (.ref 399) [.int 7 tl, .bytes b tb, .int off tf]) Q E s := by
  unfold DisC At at C
  exact C dp un gd cn sn sg so sm a ccd cl outer A₀ base h₀ L m news s Q E B F X₀ N T hdp hun TD b ks off x t0 tl tb tf tx c n bj has q0 q1 q2 q3 q4 q5 q6 q7 q8 q9 q10 q11 hret
theorem JumpC.use {prog : Program} {w : World} {K : Frag} {p : Program} {loose : List Str} {mean : ExcName → Option Value} {mg mb : Str → Option Value}
    {dp un : Nat} {gd : Option (List Code)} {cn : Str} {sn : List (Str × NameKind)} {sg so : Bool} {sm : List (Str × Const)} {a : Addr} {ccd : Value} {cl : List (Str × Addr)} {outer : List Env} {A₀ : Around} {base h₀ : Heap} {L : Addr} {m : Str → Option Value} {news : List (Addr × Obj)} {s : Shared} {Q E : Value → Shared → Prop}
    {X D : Addr} {k1 k2 k3 k4 k5 k6 k7 t0 t1 ts ta : Tok} {ext ij ar lo : Value} {x : Str} {c cch dir at_ wd n : Int}
    (C : JumpC prog w K p loose mean mg mb) (B : Below A₀ base outer h₀) (F : Fr h₀ L s.heap m) (X₀ : K.In h₀) (N : News h₀ L s.heap news) (T : Top p loose mean mg mb h₀) (hdp : dp + 20 < recursionLimit) (hun : un + 20 * 20 < cLine) (TD : Tops K w.params)
    (q0 : (X, instObj 412 D) ∈ news) (q1 : (D, opDict w.params k1 k2 k3 k4 k5 k6 k7 ext (.str x t1) (.int c t0) ij ar (.int (2 * wd) ts) lo) ∈ news) (q2 : CachesAre K x cch) (q3 : DirIs K c dir) (q4 : (dir = 0 ∨ ∃ t, ar = .int n t))
    (hret : ∀ (v : Value) (h' : Heap) (tk' : Nat), JumpV at_ wd cch dir n v → Fr h₀ L h' m → News h₀ L h' news → Q v { s with heap := h', toks := tk' }) :
    wpAny (model prog w) (ktrTop dp un gd cn ⟨.function, sn, sg, so, sm⟩ L a ccd cl outer) (call (.ref 365) [.ref X, .int at_ ta]) Q E s := by
  unfold JumpC At at C
  exact C dp un gd cn sn sg so sm a ccd cl outer A₀ base h₀ L m news s Q E B F X₀ N T hdp hun TD X D k1 k2 k3 k4 k5 k6 k7 t0 t1 ts ta ext ij ar lo x c cch dir at_ wd n q0 q1 q2 q3 q4 hret
theorem CtorC.use {prog : Program} {w : World} {K : Frag} {p : Program} {loose : List Str} {mean : ExcName → Option Value} {mg mb : Str → Option Value}
    {dp un : Nat} {gd : Option (List Code)} {cn : Str} {sn : List (Str × NameKind)} {sg so : Bool} {sm : List (Str × Const)} {a : Addr} {ccd : Value} {cl : List (Str × Addr)} {outer : List Env} {A₀ : Around} {base h₀ : Heap} {L : Addr} {m : Str → Option Value} {news : List (Addr × Obj)} {s : Shared} {Q E : Value → Shared → Prop}
    {x : Str} {t0 t1 t2 : Tok} {c n : Int} {bj : Bool} {kw : List (Str × Value)} {ext : Value} {sz : Int}
    (C : CtorC prog w K p loose mean mg mb) (B : Below A₀ base outer h₀) (F : Fr h₀ L s.heap m) (X₀ : K.In h₀) (N : News h₀ L s.heap news) (T : Top p loose mean mg mb h₀) (hdp : dp + 40 < recursionLimit) (hun : un + 20 * 40 < cLine) (TD : Tops K w.params)
    (q0 : nsIn K 23 x = some (some (.int c t0))) (q1 : tupHas K 27 c = some true) (q2 : tupHas K 33 c = some bj) (q3 : 0 < c) (q4 : c < 256) (q5 : 0 ≤ n) (q6 : n ≤ 2147483647) (q7 : ((kw = [] ∧ ext = .none ∧ sz = 2 * W n) ∨ (∃ e te, kw = [(Str.ofString "extended_args", .int e te)] ∧ ext = .int e te ∧ sz = 2 + 2 * e)))
    (hret : ∀ (X D : Addr) (k1 k2 k3 k4 k5 k6 k7 ts : Tok) (h' : Heap) (tk' : Nat), Fr h₀ L h' m → AllLt D news → D < X → News h₀ L h' ((X, instObj 412 D) :: (D, opDict w.params k1 k2 k3 k4 k5 k6 k7 ext (.str x t1) (.int c t0) (.bool bj) (.int n t2) (.int sz ts) .none) :: news) → Q (.ref X) { s with heap := h', toks := tk' }) :
    wpAny (model prog w) (ktrTop dp un gd cn ⟨.function, sn, sg, so, sm⟩ L a ccd cl outer) (call (.ref 412) [.str x t1, .int n t2] kw) Q E s := by
  unfold CtorC At at C
  exact C dp un gd cn sn sg so sm a ccd cl outer A₀ base h₀ L m news s Q E B F X₀ N T hdp hun TD x t0 t1 t2 c n bj kw ext sz q0 q1 q2 q3 q4 q5 q6 q7 hret
theorem CtorUC.use {prog : Program} {w : World} {K : Frag} {p : Program} {loose : List Str} {mean : ExcName → Option Value} {mg mb : Str → Option Value}
    {dp un : Nat} {gd : Option (List Code)} {cn : Str} {sn : List (Str × NameKind)} {sg so : Bool} {sm : List (Str × Const)} {a : Addr} {ccd : Value} {cl : List (Str × Addr)} {outer : List Env} {A₀ : Around} {base h₀ : Heap} {L : Addr} {m : Str → Option Value} {news : List (Addr × Obj)} {s : Shared} {Q E : Value → Shared → Prop}
    {x : Str} {t0 t1 : Tok} {c : Int} {bj : Bool} {sz : Int}
    (C : CtorUC prog w K p loose mean mg mb) (B : Below A₀ base outer h₀) (F : Fr h₀ L s.heap m) (X₀ : K.In h₀) (N : News h₀ L s.heap news) (T : Top p loose mean mg mb h₀) (hdp : dp + 40 < recursionLimit) (hun : un + 20 * 40 < cLine) (TD : Tops K w.params)
    (q0 : nsIn K 23 x = some (some (.int c t0))) (q1 : GoodArg K c (.ref 49) sz) (q2 : tupHas K 33 c = some bj) (q3 : 0 < c) (q4 : c < 256)
    (hret : ∀ (X D : Addr) (k1 k2 k3 k4 k5 k6 k7 ts : Tok) (h' : Heap) (tk' : Nat), Fr h₀ L h' m → AllLt D news → D < X → News h₀ L h' ((X, instObj 412 D) :: (D, opDict w.params k1 k2 k3 k4 k5 k6 k7 .none (.str x t1) (.int c t0) (.bool bj) (.ref 49) (.int sz ts) .none) :: news) → Q (.ref X) { s with heap := h', toks := tk' }) :
    wpAny (model prog w) (ktrTop dp un gd cn ⟨.function, sn, sg, so, sm⟩ L a ccd cl outer) (call (.ref 412) [.str x t1]) Q E s := by
  unfold CtorUC At at C
  exact C dp un gd cn sn sg so sm a ccd cl outer A₀ base h₀ L m news s Q E B F X₀ N T hdp hun TD x t0 t1 c bj sz q0 q1 q2 q3 q4 hret
theorem MadeC.use {prog : Program} {w : World} {K : Frag} {p : Program} {loose : List Str} {mean : ExcName → Option Value} {mg mb : Str → Option Value}
    {dp un : Nat} {gd : Option (List Code)} {cn : Str} {sn : List (Str × NameKind)} {sg so : Bool} {sm : List (Str × Const)} {a : Addr} {ccd : Value} {outer : List Env} {A₀ : Around} {base h₀ : Heap} {L : Addr} {m : Str → Option Value} {news : List (Addr × Obj)} {s : Shared} {Q E : Value → Shared → Prop}
    {x : Str} {t0 t1 : Tok} {c : Int} {v : Value} {r : Str} {ex : String}
    (C : MadeC prog w K p loose mean mg mb) (B : Below A₀ base outer h₀) (F : Fr h₀ L s.heap m) (X₀ : K.In h₀) (N : News h₀ L s.heap news) (T : Top p loose mean mg mb h₀) (hdp : dp + 60 < recursionLimit) (hun : un + 20 * 60 < cLine) (XB : K.In base) (TB : Top p loose mean mg mb base) (DB : KtsDicts (outer.filterMap (·.frame)) h₀) (TD : Tops K w.params)
    (q0 : nsIn K 23 x = some (some (.int c t0))) (q1 : x.length ≤ 100) (q2 : BadArg K c v r ex)
    (hret : ∀ (t : Tok) (h₁ h' : Heap) (tk' : Nat), KtsTurn (outer.filterMap (·.frame)) h₀ h₁ → Fr h₁ L h' m → News h₁ L h' news → Below A₀ base outer h₁ → K.In h₁ → Top p loose mean mg mb h₁ → KtsDicts (outer.filterMap (·.frame)) h₁ → Q (.str r t) { s with heap := h', toks := tk' }) :
    wpAny (model prog w) (ktrTop dp un gd cn ⟨.function, sn, sg, so, sm⟩ L a ccd [] outer) (call (.ref 442) [.str x t1, v]) Q E s := by
  unfold MadeC AtS at C
  exact C dp un gd cn sn sg so sm a ccd outer A₀ base h₀ L m news s Q E B F X₀ N T hdp hun XB TB DB TD x t0 t1 c v r ex q0 q1 q2 fun t h₁ h' tk' b F' N' => hret t h₁ h' tk' b.turn F' N' b.below b.kin b.top b.dicts
theorem TurnedC.use {prog : Program} {w : World} {K : Frag} {p : Program} {loose : List Str} {mean : ExcName → Option Value} {mg mb : Str → Option Value}
    {dp un : Nat} {gd : Option (List Code)} {cn : Str} {sn : List (Str × NameKind)} {sg so : Bool} {sm : List (Str × Const)} {a : Addr} {ccd : Value} {outer : List Env} {A₀ : Around} {base h₀ : Heap} {L : Addr} {m : Str → Option Value} {news : List (Addr × Obj)} {s : Shared} {Q E : Value → Shared → Prop}
    {X D : Addr} {k1 k2 k3 k4 k5 k6 k7 : Tok} {ext op ij ar sz lo : Value} {x : Str} {t0 t1 : Tok} {c : Int} {v : Value} {r : Str} {ex : String}
    (C : TurnedC prog w K p loose mean mg mb) (B : Below A₀ base outer h₀) (F : Fr h₀ L s.heap m) (X₀ : K.In h₀) (N : News h₀ L s.heap news) (T : Top p loose mean mg mb h₀) (hdp : dp + 60 < recursionLimit) (hun : un + 20 * 60 < cLine) (XB : K.In base) (TB : Top p loose mean mg mb base) (DB : KtsDicts (outer.filterMap (·.frame)) h₀) (TD : Tops K w.params)
    (q0 : (X, instObj 412 D) ∈ news) (q1 : (D, opDict w.params k1 k2 k3 k4 k5 k6 k7 ext (.str x t1) op ij ar sz lo) ∈ news) (q2 : nsIn K 23 x = some (some (.int c t0))) (q3 : x.length ≤ 100) (q4 : BadArg K c v r ex)
    (hret : ∀ (t : Tok) (h₁ h' : Heap) (tk' : Nat), KtsTurn (outer.filterMap (·.frame)) h₀ h₁ → Fr h₁ L h' m → News h₁ L h' news → Below A₀ base outer h₁ → K.In h₁ → Top p loose mean mg mb h₁ → KtsDicts (outer.filterMap (·.frame)) h₁ → Q (.str r t) { s with heap := h', toks := tk' }) :
    wpAny (model prog w) (ktrTop dp un gd cn ⟨.function, sn, sg, so, sm⟩ L a ccd [] outer) (call (.ref 449) [.ref X, v]) Q E s := by
  unfold TurnedC AtS at C
  exact C dp un gd cn sn sg so sm a ccd outer A₀ base h₀ L m news s Q E B F X₀ N T hdp hun XB TB DB TD X D k1 k2 k3 k4 k5 k6 k7 ext op ij ar sz lo x t0 t1 c v r ex q0 q1 q2 q3 q4 fun t h₁ h' tk' b F' N' => hret t h₁ h' tk' b.turn F' N' b.below b.kin b.top b.dicts
theorem LooksC.use {prog : Program} {w : World} {K : Frag} {p : Program} {loose : List Str} {mean : ExcName → Option Value} {mg mb : Str → Option Value}
    {dp un : Nat} {gd : Option (List Code)} {cn : Str} {sn : List (Str × NameKind)} {sg so : Bool} {sm : List (Str × Const)} {a : Addr} {ccd : Value} {cl : List (Str × Addr)} {outer : List Env} {A₀ : Around} {base h₀ : Heap} {L : Addr} {m : Str → Option Value} {news : List (Addr × Obj)} {s : Shared} {Q E : Value → Shared → Prop}
    {X D U : Addr} {k1 k2 k3 k4 k5 k6 k7 t0 t1 t2 ts tx ta tb td tn tm tat : Tok} {ext lo : Value} {x : Str} {c cch dir n more sz at_ : Int} {bj : Bool}
    (C : LooksC prog w K p loose mean mg mb) (B : Below A₀ base outer h₀) (F : Fr h₀ L s.heap m) (X₀ : K.In h₀) (N : News h₀ L s.heap news) (T : Top p loose mean mg mb h₀) (hdp : dp + 80 < recursionLimit) (hun : un + 20 * 80 < cLine) (TD : Tops K w.params)
    (q0 : (X, instObj 412 D) ∈ news) (q1 : (D, opDict w.params k1 k2 k3 k4 k5 k6 k7 ext (.str x t1) (.int c t0) (.bool bj) (.int n t2) (.int sz ts) lo) ∈ news) (q2 : (U, tupObj [.str x ta, .bool true, .int cch tb, .int dir td]) ∈ news) (q3 : KindT K x c t0 tx bj cch dir) (q4 : tupHas K 27 c = some true) (q5 : 0 ≤ n) (q6 : n ≤ 2147483647) (q7 : sz = 2 * (W n + more)) (q8 : (more = 0 ∨ more = 1 ∨ more = 2)) (q9 : ((ext = .none ∧ more = 0) ∨ (∃ e te, ext = .int e te ∧ e = W n - 1 + more ∧ (more = 0 ∨ more = 1 ∨ more = 2))))
    (hret : ∀ (h' : Heap) (tk' : Nat), Fr h₀ L h' m → News h₀ L h' news → Q (.bool true) { s with heap := h', toks := tk' }) :
    wpAny (model prog w) (ktrTop dp un gd cn ⟨.function, sn, sg, so, sm⟩ L a ccd cl outer) (call (.ref 435) [.ref X, .ref U, .int n tn, .int more tm, .int at_ tat]) Q E s := by
  unfold LooksC At at C
  exact C dp un gd cn sn sg so sm a ccd cl outer A₀ base h₀ L m news s Q E B F X₀ N T hdp hun TD X D U k1 k2 k3 k4 k5 k6 k7 t0 t1 t2 ts tx ta tb td tn tm tat ext lo x c cch dir n more sz at_ bj q0 q1 q2 q3 q4 q5 q6 q7 q8 q9 hret
theorem AloneC.use {prog : Program} {w : World} {K : Frag} {p : Program} {loose : List Str} {mean : ExcName → Option Value} {mg mb : Str → Option Value}
    {dp un : Nat} {gd : Option (List Code)} {cn : Str} {sn : List (Str × NameKind)} {sg so : Bool} {sm : List (Str × Const)} {a : Addr} {ccd : Value} {outer : List Env} {A₀ : Around} {base h₀ : Heap} {L : Addr} {m : Str → Option Value} {news : List (Addr × Obj)} {s : Shared} {Q E : Value → Shared → Prop}
    {U : Addr} {t0 tx ta tb td tn tat : Tok} {x : Str} {c n at_ u1 u2 : Int} {bj : Bool}
    (C : AloneC prog w K p loose mean mg mb) (B : Below A₀ base outer h₀) (F : Fr h₀ L s.heap m) (X₀ : K.In h₀) (N : News h₀ L s.heap news) (T : Top p loose mean mg mb h₀) (hdp : dp + 120 < recursionLimit) (hun : un + 20 * 120 < cLine) (XB : K.In base) (TB : Top p loose mean mg mb base) (DB : KtsDicts (outer.filterMap (·.frame)) h₀) (TD : Tops K w.params)
    (q0 : (U, tupObj [.str x ta, .bool false, .int u1 tb, .int u2 td]) ∈ news) (q1 : KindT K x c t0 tx bj 0 0) (q2 : tupHas K 27 c = some false)
    (hret : ∀ (h₁ h' : Heap) (tk' : Nat), KtsTurn (outer.filterMap (·.frame)) h₀ h₁ → Fr h₁ L h' m → News h₁ L h' news → Below A₀ base outer h₁ → K.In h₁ → Top p loose mean mg mb h₁ → KtsDicts (outer.filterMap (·.frame)) h₁ → Q (.bool true) { s with heap := h', toks := tk' }) :
    wpAny (model prog w) (ktrTop dp un gd cn ⟨.function, sn, sg, so, sm⟩ L a ccd [] outer) (call (.ref 456) [.ref U, .int n tn, .int at_ tat]) Q E s := by
  unfold AloneC AtS at C
  exact C dp un gd cn sn sg so sm a ccd outer A₀ base h₀ L m news s Q E B F X₀ N T hdp hun XB TB DB TD U t0 tx ta tb td tn tat x c n at_ u1 u2 bj q0 q1 q2 fun h₁ h' tk' b F' N' => hret h₁ h' tk' b.turn F' N' b.below b.kin b.top b.dicts

-- the names of the twins that the head of toy would lay for its own constants, declared ahead, so that it lays none (the compiled file stays small); nothing rests on them
theorem toy.tw10008244286509327342 : True := trivial
theorem toy.tw10008752357636627538 : True := trivial
theorem toy.tw10037905808475869510 : True := trivial
theorem toy.tw10042548499325037569 : True := trivial
theorem toy.tw10069393980421628663 : True := trivial
theorem toy.tw10091783572625974374 : True := trivial
theorem toy.tw1009678220622618792 : True := trivial
theorem toy.tw10108395638112646485 : True := trivial
theorem toy.tw10126400358500135873 : True := trivial
theorem toy.tw1013848816661841758 : True := trivial
theorem toy.tw10231168701208798823 : True := trivial
theorem toy.tw10234514632668929325 : True := trivial
theorem toy.tw10261392294347045887 : True := trivial
theorem toy.tw10263904522340218068 : True := trivial
theorem toy.tw10284510765314034289 : True := trivial
theorem toy.tw10290564463727223131 : True := trivial
theorem toy.tw10292968491161639493 : True := trivial
theorem toy.tw10293002160917665800 : True := trivial
theorem toy.tw10342567823707705504 : True := trivial
theorem toy.tw10371603273146353992 : True := trivial
theorem toy.tw1039541546487152306 : True := trivial
theorem toy.tw1039551064446131089 : True := trivial
theorem toy.tw10409591521805852677 : True := trivial
theorem toy.tw10420134732211298272 : True := trivial
theorem toy.tw10450383796507714345 : True := trivial
theorem toy.tw10454900387633890620 : True := trivial
theorem toy.tw10472892541177276704 : True := trivial
theorem toy.tw10483691920062477013 : True := trivial
theorem toy.tw105487382847328504 : True := trivial
theorem toy.tw10589514883060627947 : True := trivial
theorem toy.tw10627482964162959174 : True := trivial
theorem toy.tw10632264066701961594 : True := trivial
theorem toy.tw1064313092789859845 : True := trivial
theorem toy.tw10649025818324802144 : True := trivial
theorem toy.tw10658280830420216974 : True := trivial
theorem toy.tw10684605766047762809 : True := trivial
theorem toy.tw10691365511098515369 : True := trivial
theorem toy.tw10703511992167921055 : True := trivial
theorem toy.tw10704652099536380478 : True := trivial
theorem toy.tw1079262367296309089 : True := trivial
theorem toy.tw10809246551019240630 : True := trivial
theorem toy.tw10879553416387383425 : True := trivial
theorem toy.tw10968507229000709703 : True := trivial
theorem toy.tw10985837934165961019 : True := trivial
theorem toy.tw1104063716407344934 : True := trivial
theorem toy.tw11056435829292807033 : True := trivial
theorem toy.tw11062480504460715592 : True := trivial
theorem toy.tw11162639494191597290 : True := trivial
theorem toy.tw11176121724524640530 : True := trivial
theorem toy.tw11231196884471942454 : True := trivial
theorem toy.tw11292567742525860484 : True := trivial
theorem toy.tw11340983996872536481 : True := trivial
theorem toy.tw113664636453688819 : True := trivial
theorem toy.tw1137944980542848902 : True := trivial
theorem toy.tw11403806133395191771 : True := trivial
theorem toy.tw11427213451268323342 : True := trivial
theorem toy.tw11428612886624334244 : True := trivial
theorem toy.tw11437556824564644127 : True := trivial
theorem toy.tw11450530808418606668 : True := trivial
theorem toy.tw11456445681244789801 : True := trivial
theorem toy.tw11570676761985144212 : True := trivial
theorem toy.tw11578421319776906510 : True := trivial
theorem toy.tw11620259209217184749 : True := trivial
theorem toy.tw11625065364664910026 : True := trivial
theorem toy.tw11629214167711149194 : True := trivial
theorem toy.tw11663773585184921042 : True := trivial
theorem toy.tw11701512475027442912 : True := trivial
theorem toy.tw1171191649853319415 : True := trivial
theorem toy.tw11718559339377540757 : True := trivial
theorem toy.tw11723372757319909542 : True := trivial
theorem toy.tw11754703787227478502 : True := trivial
theorem toy.tw11785860932551703024 : True := trivial
theorem toy.tw11786586995107145664 : True := trivial
theorem toy.tw11808068364455362445 : True := trivial
theorem toy.tw11813377646878045613 : True := trivial
theorem toy.tw11815816805941748020 : True := trivial
theorem toy.tw11819412543353801280 : True := trivial
theorem toy.tw11846775908494420411 : True := trivial
theorem toy.tw1186276272152085004 : True := trivial
theorem toy.tw11886758542197921174 : True := trivial
theorem toy.tw11888442427185186626 : True := trivial
theorem toy.tw1189426105368496223 : True := trivial
theorem toy.tw11912655199702326692 : True := trivial
theorem toy.tw11937868269449715694 : True := trivial
theorem toy.tw11950096951376917921 : True := trivial
theorem toy.tw11967067837263553129 : True := trivial
theorem toy.tw11988445392288394810 : True := trivial
theorem toy.tw11997191642151780294 : True := trivial
theorem toy.tw12022853505682948935 : True := trivial
theorem toy.tw12031098822361540855 : True := trivial
theorem toy.tw12034835735391441697 : True := trivial
theorem toy.tw12043372818760857784 : True := trivial
theorem toy.tw12050274217569777099 : True := trivial
theorem toy.tw12063230654312775411 : True := trivial
theorem toy.tw12071779961957587272 : True := trivial
theorem toy.tw12101559251376071819 : True := trivial
theorem toy.tw12226865778821610951 : True := trivial
theorem toy.tw12293753286261774559 : True := trivial
theorem toy.tw12295611494169632631 : True := trivial
theorem toy.tw12297122088940459230 : True := trivial
theorem toy.tw12304227529558382752 : True := trivial
theorem toy.tw1230968480639898018 : True := trivial
theorem toy.tw12324237944730992975 : True := trivial
theorem toy.tw12339966883649768788 : True := trivial
theorem toy.tw12357223431073048880 : True := trivial
theorem toy.tw12367190594557507607 : True := trivial
theorem toy.tw12374329878222131266 : True := trivial
theorem toy.tw12380378084103705515 : True := trivial
theorem toy.tw12390634991969066762 : True := trivial
theorem toy.tw12419280676263285205 : True := trivial
theorem toy.tw12419818066035111976 : True := trivial
theorem toy.tw1243176595309816784 : True := trivial
theorem toy.tw12448946137840168237 : True := trivial
theorem toy.tw12495703229142052199 : True := trivial
theorem toy.tw12500503256724694784 : True := trivial
theorem toy.tw12570047164163365192 : True := trivial
theorem toy.tw12573930942179342143 : True := trivial
theorem toy.tw12580104560703521920 : True := trivial
theorem toy.tw1258428426839207540 : True := trivial
theorem toy.tw12732132574195685837 : True := trivial
theorem toy.tw1274314020780573434 : True := trivial
theorem toy.tw12753612802315681580 : True := trivial
theorem toy.tw12765006204611899466 : True := trivial
theorem toy.tw12768126587627906527 : True := trivial
theorem toy.tw12779521668550602412 : True := trivial
theorem toy.tw1284064057928642514 : True := trivial
theorem toy.tw12853938924458564917 : True := trivial
theorem toy.tw12878832610894878562 : True := trivial
theorem toy.tw12884691721595079935 : True := trivial
theorem toy.tw12901174350266205055 : True := trivial
theorem toy.tw12917790538892579321 : True := trivial
theorem toy.tw12920444374670119839 : True := trivial
theorem toy.tw13023690999030396939 : True := trivial
theorem toy.tw13048297382648336837 : True := trivial
theorem toy.tw13050145186314592516 : True := trivial
theorem toy.tw13054102281526781949 : True := trivial
theorem toy.tw13075066281621812384 : True := trivial
theorem toy.tw13101295994043177515 : True := trivial
theorem toy.tw13104942843699859476 : True := trivial
theorem toy.tw1312521055108748247 : True := trivial
theorem toy.tw13126736116619199746 : True := trivial
theorem toy.tw13171709055574633535 : True := trivial
theorem toy.tw13179821387132568732 : True := trivial
theorem toy.tw1318863605004359312 : True := trivial
theorem toy.tw13203553124325249917 : True := trivial
theorem toy.tw13206665082262770938 : True := trivial
theorem toy.tw13227356515558035147 : True := trivial
theorem toy.tw13259493798755510035 : True := trivial
theorem toy.tw13286514963915459983 : True := trivial
theorem toy.tw13305529056134965045 : True := trivial
theorem toy.tw13315764325873099190 : True := trivial
theorem toy.tw13337656624716132624 : True := trivial
theorem toy.tw13338783897576893206 : True := trivial
theorem toy.tw13361374425301812780 : True := trivial
theorem toy.tw13388455438993155221 : True := trivial
theorem toy.tw13397594832937572954 : True := trivial
theorem toy.tw13407764886353764199 : True := trivial
theorem toy.tw13421610359589002498 : True := trivial
theorem toy.tw13558690501486804037 : True := trivial
theorem toy.tw13567973469535470844 : True := trivial
theorem toy.tw13586442518992706188 : True := trivial
theorem toy.tw13591625065419077614 : True := trivial
theorem toy.tw1362076740839229674 : True := trivial
theorem toy.tw13622567908014013249 : True := trivial
theorem toy.tw1362362063770832942 : True := trivial
theorem toy.tw13639529275434612151 : True := trivial
theorem toy.tw1365301229431806092 : True := trivial
theorem toy.tw13661922391756063049 : True := trivial
theorem toy.tw1367476263361574423 : True := trivial
theorem toy.tw13705520406385162643 : True := trivial
theorem toy.tw13706377298143952926 : True := trivial
theorem toy.tw13713875300076563418 : True := trivial
theorem toy.tw13772277529174341716 : True := trivial
theorem toy.tw13781366262655434964 : True := trivial
theorem toy.tw13828001438597211727 : True := trivial
theorem toy.tw13841020799763928854 : True := trivial
theorem toy.tw13853858421281389648 : True := trivial
theorem toy.tw13882677930728348129 : True := trivial
theorem toy.tw13901974634056338663 : True := trivial
theorem toy.tw13943267007875586934 : True := trivial
theorem toy.tw13972440911090500124 : True := trivial
theorem toy.tw13982656453684249797 : True := trivial
theorem toy.tw14026855730336005303 : True := trivial
theorem toy.tw14081167817991284674 : True := trivial
theorem toy.tw14179758453956410210 : True := trivial
theorem toy.tw14193833270988992683 : True := trivial
theorem toy.tw14221608997000382514 : True := trivial
theorem toy.tw14233245245081671337 : True := trivial
theorem toy.tw14255765024495301797 : True := trivial
theorem toy.tw14260309613610565016 : True := trivial
theorem toy.tw14273906662475818769 : True := trivial
theorem toy.tw14344790804004517942 : True := trivial
theorem toy.tw14358402393329248096 : True := trivial
theorem toy.tw14377269120750066112 : True := trivial
theorem toy.tw14408623527466935149 : True := trivial
theorem toy.tw144139919558632333 : True := trivial
theorem toy.tw14414068316164198462 : True := trivial
theorem toy.tw14421818228082060466 : True := trivial
theorem toy.tw14437636378195583853 : True := trivial
theorem toy.tw14451284685744404874 : True := trivial
theorem toy.tw14473082345940604513 : True := trivial
theorem toy.tw14484859916625325337 : True := trivial
theorem toy.tw14516324791041723042 : True := trivial
theorem toy.tw14516940145278871652 : True := trivial
theorem toy.tw14533643229645942606 : True := trivial
theorem toy.tw14541226211032308290 : True := trivial
theorem toy.tw14576920771171752592 : True := trivial
theorem toy.tw14607288516931970336 : True := trivial
theorem toy.tw14655834120925008982 : True := trivial
theorem toy.tw14685834569010948445 : True := trivial
theorem toy.tw14711662259981023258 : True := trivial
theorem toy.tw1471451688990089642 : True := trivial
theorem toy.tw1471817938441325878 : True := trivial
theorem toy.tw14743044943210910183 : True := trivial
theorem toy.tw14756547968263378834 : True := trivial
theorem toy.tw14778398374134132400 : True := trivial
theorem toy.tw14779522430379044061 : True := trivial
theorem toy.tw14846924914076487748 : True := trivial
theorem toy.tw1485968041943489813 : True := trivial
theorem toy.tw14898534999107876039 : True := trivial
theorem toy.tw14899253916831809989 : True := trivial
theorem toy.tw14902807047239326388 : True := trivial
theorem toy.tw14946219994288043334 : True := trivial
theorem toy.tw14952004217175215177 : True := trivial
theorem toy.tw14954725627131423669 : True := trivial
theorem toy.tw15058511645525966026 : True := trivial
theorem toy.tw15059151414398732657 : True := trivial
theorem toy.tw15133047538927578414 : True := trivial
theorem toy.tw15153773413860777990 : True := trivial
theorem toy.tw15166313237364734426 : True := trivial
theorem toy.tw1519001459360287587 : True := trivial
theorem toy.tw15201463604882907314 : True := trivial
theorem toy.tw15212051864389803019 : True := trivial
theorem toy.tw15232377121233859256 : True := trivial
theorem toy.tw15240337375286790852 : True := trivial
theorem toy.tw15241012450127955187 : True := trivial
theorem toy.tw15241270613324783110 : True := trivial
theorem toy.tw15250568378624272907 : True := trivial
theorem toy.tw15330755000899420462 : True := trivial
theorem toy.tw15364595349797191405 : True := trivial
theorem toy.tw153650910410230330 : True := trivial
theorem toy.tw15366290327002473680 : True := trivial
theorem toy.tw15414324800146704177 : True := trivial
theorem toy.tw1545365422646508485 : True := trivial
theorem toy.tw15471159040487713515 : True := trivial
theorem toy.tw15482346222350179274 : True := trivial
theorem toy.tw15487172409354439258 : True := trivial
theorem toy.tw15515331186812706136 : True := trivial
theorem toy.tw15519603095258401126 : True := trivial
theorem toy.tw15521005776713099264 : True := trivial
theorem toy.tw15528396653997318016 : True := trivial
theorem toy.tw15559831481347658011 : True := trivial
theorem toy.tw1563892375172070168 : True := trivial
theorem toy.tw15670126486885716421 : True := trivial
theorem toy.tw15670579571879089205 : True := trivial
theorem toy.tw15670728405478670112 : True := trivial
theorem toy.tw1568035964597512230 : True := trivial
theorem toy.tw15728265470011630508 : True := trivial
theorem toy.tw15736971276821639900 : True := trivial
theorem toy.tw15758256019109460445 : True := trivial
theorem toy.tw15841062744177573823 : True := trivial
theorem toy.tw15845763486846158152 : True := trivial
theorem toy.tw1587236027224226353 : True := trivial
theorem toy.tw15873761808303283200 : True := trivial
theorem toy.tw15883748386056595924 : True := trivial
theorem toy.tw15887344353487831240 : True := trivial
theorem toy.tw15933800717985254383 : True := trivial
theorem toy.tw15938086442540968931 : True := trivial
theorem toy.tw15945480684619580862 : True := trivial
theorem toy.tw16027539276789628691 : True := trivial
theorem toy.tw16063369986359058848 : True := trivial
theorem toy.tw16087130299983452181 : True := trivial
theorem toy.tw16110218006936520357 : True := trivial
theorem toy.tw16124936409205015595 : True := trivial
theorem toy.tw16161519713574185662 : True := trivial
theorem toy.tw16166892158179628037 : True := trivial
theorem toy.tw16188856218801750152 : True := trivial
theorem toy.tw16216020130928681527 : True := trivial
theorem toy.tw16277953852795162315 : True := trivial
theorem toy.tw16297888558244097437 : True := trivial
theorem toy.tw16298521594108193824 : True := trivial
theorem toy.tw16359015562685832750 : True := trivial
theorem toy.tw16359215035964926935 : True := trivial
theorem toy.tw16383667757867160821 : True := trivial
theorem toy.tw1638695153635702282 : True := trivial
theorem toy.tw16409112239320143456 : True := trivial
theorem toy.tw16427879589177687035 : True := trivial
theorem toy.tw16433827050825247484 : True := trivial
theorem toy.tw16452730126673359683 : True := trivial
theorem toy.tw16477360684255771618 : True := trivial
theorem toy.tw16507166085578239595 : True := trivial
theorem toy.tw16512224150949879362 : True := trivial
theorem toy.tw16519055845132661759 : True := trivial
theorem toy.tw16525280384488931888 : True := trivial
theorem toy.tw16543904810888231523 : True := trivial
theorem toy.tw16546934767339953822 : True := trivial
theorem toy.tw16549516946464225547 : True := trivial
theorem toy.tw16618947460590432015 : True := trivial
theorem toy.tw16634978437896852462 : True := trivial
theorem toy.tw16641149383812265170 : True := trivial
theorem toy.tw16670792285582731699 : True := trivial
theorem toy.tw16679102627023548884 : True := trivial
theorem toy.tw16699478703589534552 : True := trivial
theorem toy.tw16759710148296236078 : True := trivial
theorem toy.tw16769454974067360240 : True := trivial
theorem toy.tw16772218952417878929 : True := trivial
theorem toy.tw16780947814198884111 : True := trivial
theorem toy.tw16784980491894038895 : True := trivial
theorem toy.tw16786846171887680908 : True := trivial
theorem toy.tw16816107049017796751 : True := trivial
theorem toy.tw16857257013739724700 : True := trivial
theorem toy.tw16868650784723403599 : True := trivial
theorem toy.tw16876464538646104108 : True := trivial
theorem toy.tw16913085615364050942 : True := trivial
theorem toy.tw16922708274639844435 : True := trivial
theorem toy.tw16947657353001112726 : True := trivial
theorem toy.tw16954445015476304577 : True := trivial
theorem toy.tw16958869810053250975 : True := trivial
theorem toy.tw16977932258440887487 : True := trivial
theorem toy.tw17003620542994065602 : True := trivial
theorem toy.tw17027979788491994994 : True := trivial
theorem toy.tw17051021708339797911 : True := trivial
theorem toy.tw1705234566760356004 : True := trivial
theorem toy.tw17052442100000231879 : True := trivial
theorem toy.tw17078476321005100838 : True := trivial
theorem toy.tw17088551861226674983 : True := trivial
theorem toy.tw17092584478774250714 : True := trivial
theorem toy.tw17179536167097342329 : True := trivial
theorem toy.tw17211253803268079711 : True := trivial
theorem toy.tw17221713535346846862 : True := trivial
theorem toy.tw17274805013656467027 : True := trivial
theorem toy.tw17306591513937552596 : True := trivial
theorem toy.tw17325491090645973899 : True := trivial
theorem toy.tw17358446379641196120 : True := trivial
theorem toy.tw17362709612648312202 : True := trivial
theorem toy.tw17382224751586238952 : True := trivial
theorem toy.tw17417139529893502460 : True := trivial
theorem toy.tw17492888767424770220 : True := trivial
theorem toy.tw17512829088078360117 : True := trivial
theorem toy.tw17527237481649080219 : True := trivial
theorem toy.tw17536616629099850682 : True := trivial
theorem toy.tw17543408135801210623 : True := trivial
theorem toy.tw17582152655879517542 : True := trivial
theorem toy.tw17598754653789931597 : True := trivial
theorem toy.tw17621139588629471028 : True := trivial
theorem toy.tw1762461197937578272 : True := trivial
theorem toy.tw17670533222904891877 : True := trivial
theorem toy.tw17694925924821581674 : True := trivial
theorem toy.tw17696419406869745602 : True := trivial
theorem toy.tw17727305590540015656 : True := trivial
theorem toy.tw17735642589682040684 : True := trivial
theorem toy.tw17753268237161223289 : True := trivial
theorem toy.tw17754476994627544635 : True := trivial
theorem toy.tw17759316751311584337 : True := trivial
theorem toy.tw17785915610579751937 : True := trivial
theorem toy.tw17807960282904341433 : True := trivial
theorem toy.tw17817133061493982164 : True := trivial
theorem toy.tw17823312797459426004 : True := trivial
theorem toy.tw17846203076582909365 : True := trivial
theorem toy.tw1786393775186277084 : True := trivial
theorem toy.tw17877949451874006991 : True := trivial
theorem toy.tw17907938601911092133 : True := trivial
theorem toy.tw17923415176017019563 : True := trivial
theorem toy.tw17953834668805364229 : True := trivial
theorem toy.tw17970292440373747523 : True := trivial
theorem toy.tw17982701940648210846 : True := trivial
theorem toy.tw18034426302610871653 : True := trivial
theorem toy.tw18043472708934016863 : True := trivial
theorem toy.tw18079448385020294377 : True := trivial
theorem toy.tw18090563927039686410 : True := trivial
theorem toy.tw18111537684877190111 : True := trivial
theorem toy.tw18116157450518517557 : True := trivial
theorem toy.tw18150212932327346963 : True := trivial
theorem toy.tw18227125810187645326 : True := trivial
theorem toy.tw18240964126666805251 : True := trivial
theorem toy.tw18243043625979805594 : True := trivial
theorem toy.tw18257007184701870790 : True := trivial
theorem toy.tw18263794712392949719 : True := trivial
theorem toy.tw18327706203584921967 : True := trivial
theorem toy.tw18363131927473381444 : True := trivial
theorem toy.tw18414648545046195893 : True := trivial
theorem toy.tw18424388483039518069 : True := trivial
theorem toy.tw18439805377761990943 : True := trivial
theorem toy.tw1877263342560655219 : True := trivial
theorem toy.tw1924982721815503962 : True := trivial
theorem toy.tw1931820397771111469 : True := trivial
theorem toy.tw1936348297800444387 : True := trivial
theorem toy.tw1983755233342380155 : True := trivial
theorem toy.tw1985286114900370614 : True := trivial
theorem toy.tw2030256361695711025 : True := trivial
theorem toy.tw2074072552970963130 : True := trivial
theorem toy.tw2095646817576925691 : True := trivial
theorem toy.tw2131529806193183117 : True := trivial
theorem toy.tw2154231579792605489 : True := trivial
theorem toy.tw2198995623056445021 : True := trivial
theorem toy.tw2232699608947015953 : True := trivial
theorem toy.tw2268467647779710471 : True := trivial
theorem toy.tw2306798919515748602 : True := trivial
theorem toy.tw2326414889182476220 : True := trivial
theorem toy.tw2328807380400238845 : True := trivial
theorem toy.tw233579391428761812 : True := trivial
theorem toy.tw2356865496777705762 : True := trivial
theorem toy.tw2415494608311765571 : True := trivial
theorem toy.tw2418139207740345873 : True := trivial
theorem toy.tw2440206296192013812 : True := trivial
theorem toy.tw2449894100857480505 : True := trivial
theorem toy.tw2453920583764247822 : True := trivial
theorem toy.tw2460740468616748158 : True := trivial
theorem toy.tw2493662299112982084 : True := trivial
theorem toy.tw252290486655252282 : True := trivial
theorem toy.tw2539269755981963208 : True := trivial
theorem toy.tw2592995846399333157 : True := trivial
theorem toy.tw266545707824483888 : True := trivial
theorem toy.tw2688205404760569334 : True := trivial
theorem toy.tw2729609445820056286 : True := trivial
theorem toy.tw2831577510716365167 : True := trivial
theorem toy.tw28600918337174274 : True := trivial
theorem toy.tw2861781331149133884 : True := trivial
theorem toy.tw290101248293331427 : True := trivial
theorem toy.tw2901224018051052309 : True := trivial
theorem toy.tw2903162335415913890 : True := trivial
theorem toy.tw2909138344623126507 : True := trivial
theorem toy.tw2922095428736225124 : True := trivial
theorem toy.tw2948592408660509619 : True := trivial
theorem toy.tw2949762068370245987 : True := trivial
theorem toy.tw2983164319487738077 : True := trivial
theorem toy.tw2999184407193733086 : True := trivial
theorem toy.tw3053128688679265186 : True := trivial
theorem toy.tw3101921058970986777 : True := trivial
theorem toy.tw312572836710740575 : True := trivial
theorem toy.tw3134588793636260580 : True := trivial
theorem toy.tw3194515312412832596 : True := trivial
theorem toy.tw3224297445780465764 : True := trivial
theorem toy.tw3225889196753629472 : True := trivial
theorem toy.tw3228183496761693023 : True := trivial
theorem toy.tw3237370938217317654 : True := trivial
theorem toy.tw3253504606387669478 : True := trivial
theorem toy.tw32635494425859488 : True := trivial
theorem toy.tw32649742291966756 : True := trivial
theorem toy.tw3266896181430414155 : True := trivial
theorem toy.tw3269832224397014432 : True := trivial
theorem toy.tw331709351902536883 : True := trivial
theorem toy.tw3317612225639497722 : True := trivial
theorem toy.tw3504094700338869399 : True := trivial
theorem toy.tw3520308469437697160 : True := trivial
theorem toy.tw3520318730387632648 : True := trivial
theorem toy.tw3529861659595987458 : True := trivial
theorem toy.tw3562694373927775136 : True := trivial
theorem toy.tw3595304783364316154 : True := trivial
theorem toy.tw3620063377341366256 : True := trivial
theorem toy.tw3645201778594255370 : True := trivial
theorem toy.tw3668726977047200910 : True := trivial
theorem toy.tw3731092947088935990 : True := trivial
theorem toy.tw373470563334318596 : True := trivial
theorem toy.tw3754826018477851159 : True := trivial
theorem toy.tw3875240729088442419 : True := trivial
theorem toy.tw3875944812116857416 : True := trivial
theorem toy.tw388542839626108947 : True := trivial
theorem toy.tw3906371191176699315 : True := trivial
theorem toy.tw3935252262396373565 : True := trivial
theorem toy.tw3980172200340177934 : True := trivial
theorem toy.tw398257174404690252 : True := trivial
theorem toy.tw3986869274250161353 : True := trivial
theorem toy.tw3989971232033627465 : True := trivial
theorem toy.tw4078434662686074278 : True := trivial
theorem toy.tw4132323918330133663 : True := trivial
theorem toy.tw4171330929893812680 : True := trivial
theorem toy.tw4171954490388523824 : True := trivial
theorem toy.tw4189970503939994572 : True := trivial
theorem toy.tw4230655666685508385 : True := trivial
theorem toy.tw4249029742843255177 : True := trivial
theorem toy.tw4310969294791285752 : True := trivial
theorem toy.tw4339252944683794052 : True := trivial
theorem toy.tw4354815996258472214 : True := trivial
theorem toy.tw4367003300597016621 : True := trivial
theorem toy.tw4392376870407381386 : True := trivial
theorem toy.tw4394208493756618420 : True := trivial
theorem toy.tw4417832497994831664 : True := trivial
theorem toy.tw4418556222423692218 : True := trivial
theorem toy.tw4456026953294209981 : True := trivial
theorem toy.tw4502523568467518007 : True := trivial
theorem toy.tw4541822270028025917 : True := trivial
theorem toy.tw4560443214661058929 : True := trivial
theorem toy.tw4564450666017297434 : True := trivial
theorem toy.tw4570068810648033580 : True := trivial
theorem toy.tw4592402161578176211 : True := trivial
theorem toy.tw4622758532546003485 : True := trivial
theorem toy.tw4623596421796133445 : True := trivial
theorem toy.tw4651335163548047395 : True := trivial
theorem toy.tw4675221927998645021 : True := trivial
theorem toy.tw4690940235460784535 : True := trivial
theorem toy.tw4696096017992870236 : True := trivial
theorem toy.tw4771894310404284585 : True := trivial
theorem toy.tw4804032584822088159 : True := trivial
theorem toy.tw4832522468221853589 : True := trivial
theorem toy.tw4889360158935749619 : True := trivial
theorem toy.tw4891963161984721222 : True := trivial
theorem toy.tw4921740667298258211 : True := trivial
theorem toy.tw4950357833244133862 : True := trivial
theorem toy.tw4958932903673499126 : True := trivial
theorem toy.tw4974197352410976133 : True := trivial
theorem toy.tw50051796260747683 : True := trivial
theorem toy.tw502626317756639004 : True := trivial
theorem toy.tw5040517508549901856 : True := trivial
theorem toy.tw5093384461522472700 : True := trivial
theorem toy.tw5104821777623163638 : True := trivial
theorem toy.tw512630782073926032 : True := trivial
theorem toy.tw5129462233723121374 : True := trivial
theorem toy.tw5156300137094653221 : True := trivial
theorem toy.tw5156694256680243019 : True := trivial
theorem toy.tw5177664911042531201 : True := trivial
theorem toy.tw5186249080014209352 : True := trivial
theorem toy.tw51987324902568322 : True := trivial
theorem toy.tw5201080426027948757 : True := trivial
theorem toy.tw522578991788898983 : True := trivial
theorem toy.tw5233887006495632832 : True := trivial
theorem toy.tw5254863349993766777 : True := trivial
theorem toy.tw5297537799470298929 : True := trivial
theorem toy.tw5313701730359294044 : True := trivial
theorem toy.tw535119125401952296 : True := trivial
theorem toy.tw5365277433490307747 : True := trivial
theorem toy.tw5380465882172889013 : True := trivial
theorem toy.tw5441110820311380162 : True := trivial
theorem toy.tw5539534074487153505 : True := trivial
theorem toy.tw5541178331541800421 : True := trivial
theorem toy.tw5562218449369120243 : True := trivial
theorem toy.tw5566057480487648678 : True := trivial
theorem toy.tw5591882117718507910 : True := trivial
theorem toy.tw5605965821369058710 : True := trivial
theorem toy.tw5629876522046456905 : True := trivial
theorem toy.tw5665812022733909705 : True := trivial
theorem toy.tw5677996811785194472 : True := trivial
theorem toy.tw5684438819012021474 : True := trivial
theorem toy.tw5714020263923790107 : True := trivial
theorem toy.tw5764011571233608242 : True := trivial
theorem toy.tw5823932334949569663 : True := trivial
theorem toy.tw583470354352566108 : True := trivial
theorem toy.tw587206230355480910 : True := trivial
theorem toy.tw594487246565520768 : True := trivial
theorem toy.tw6037452129768340731 : True := trivial
theorem toy.tw6063226735609105583 : True := trivial
theorem toy.tw6097927362073382475 : True := trivial
theorem toy.tw6130989619485578637 : True := trivial
theorem toy.tw613646935672098331 : True := trivial
theorem toy.tw6167152553262176280 : True := trivial
theorem toy.tw6185125308369802896 : True := trivial
theorem toy.tw6191806910189987966 : True := trivial
theorem toy.tw6220336939783501205 : True := trivial
theorem toy.tw6241940271859606619 : True := trivial
theorem toy.tw6247296209888121646 : True := trivial
theorem toy.tw625514661578660244 : True := trivial
theorem toy.tw6268283578932642628 : True := trivial
theorem toy.tw6279467506469589997 : True := trivial
theorem toy.tw6288432254239185013 : True := trivial
theorem toy.tw6292611925674477977 : True := trivial
theorem toy.tw6340016270805587812 : True := trivial
theorem toy.tw6389550218711132982 : True := trivial
theorem toy.tw6448559776430016002 : True := trivial
theorem toy.tw6459081528793327519 : True := trivial
theorem toy.tw6479262119608267417 : True := trivial
theorem toy.tw6502435972291834456 : True := trivial
theorem toy.tw652188118730903914 : True := trivial
theorem toy.tw6522416784966639276 : True := trivial
theorem toy.tw6565944832900828239 : True := trivial
theorem toy.tw6566433634659813 : True := trivial
theorem toy.tw6616098275813769578 : True := trivial
theorem toy.tw6646155133623695185 : True := trivial
theorem toy.tw6667912160888921784 : True := trivial
theorem toy.tw6686022651294736987 : True := trivial
theorem toy.tw6796888912681704489 : True := trivial
theorem toy.tw6830233025655487805 : True := trivial
theorem toy.tw6831333305303611662 : True := trivial
theorem toy.tw6838625428197911870 : True := trivial
theorem toy.tw6852590819304767720 : True := trivial
theorem toy.tw6868240140321752126 : True := trivial
theorem toy.tw6888415911705166787 : True := trivial
theorem toy.tw6922736472790034458 : True := trivial
theorem toy.tw6958305554849319965 : True := trivial
theorem toy.tw6958832380994380964 : True := trivial
theorem toy.tw6967432974624280859 : True := trivial
theorem toy.tw6998729626598834834 : True := trivial
theorem toy.tw7042815024852528367 : True := trivial
theorem toy.tw7078376172838061257 : True := trivial
theorem toy.tw7090677028791641248 : True := trivial
theorem toy.tw7197730689898991676 : True := trivial
theorem toy.tw7208757616972963626 : True := trivial
theorem toy.tw7217409924464478558 : True := trivial
theorem toy.tw7223252256511783213 : True := trivial
theorem toy.tw725143659507240310 : True := trivial
theorem toy.tw7265692947361249760 : True := trivial
theorem toy.tw729359583331496890 : True := trivial
theorem toy.tw730430198222045553 : True := trivial
theorem toy.tw7314899140523494380 : True := trivial
theorem toy.tw733044686023843197 : True := trivial
theorem toy.tw7364257245859796421 : True := trivial
theorem toy.tw7367062672519112093 : True := trivial
theorem toy.tw7371253219323311776 : True := trivial
theorem toy.tw7394159880349387680 : True := trivial
theorem toy.tw7401781426986444483 : True := trivial
theorem toy.tw7494460894985270734 : True := trivial
theorem toy.tw7497202394730039321 : True := trivial
theorem toy.tw7497911410682860612 : True := trivial
theorem toy.tw7568356498862314745 : True := trivial
theorem toy.tw759164927493713191 : True := trivial
theorem toy.tw7595311123347232067 : True := trivial
theorem toy.tw76179291536209719 : True := trivial
theorem toy.tw771446112032004168 : True := trivial
theorem toy.tw7724584414309896763 : True := trivial
theorem toy.tw7789445938472323205 : True := trivial
theorem toy.tw7792117103728876352 : True := trivial
theorem toy.tw7798957148832130013 : True := trivial
theorem toy.tw7820337530082095420 : True := trivial
theorem toy.tw7845912749819776669 : True := trivial
theorem toy.tw788427945661824713 : True := trivial
theorem toy.tw7897918588518115365 : True := trivial
theorem toy.tw7936520769066434177 : True := trivial
theorem toy.tw8057687823021186796 : True := trivial
theorem toy.tw8065317882957134841 : True := trivial
theorem toy.tw8087656068038403480 : True := trivial
theorem toy.tw8103534946043589875 : True := trivial
theorem toy.tw8113098966953049642 : True := trivial
theorem toy.tw8138909383176515874 : True := trivial
theorem toy.tw8165321004355220482 : True := trivial
theorem toy.tw8168582487750671661 : True := trivial
theorem toy.tw8239850261275289747 : True := trivial
theorem toy.tw8260350303542991010 : True := trivial
theorem toy.tw8278298812445269676 : True := trivial
theorem toy.tw8324882265249158871 : True := trivial
theorem toy.tw8340190244446135924 : True := trivial
theorem toy.tw8341271923711072739 : True := trivial
theorem toy.tw8368672145387454316 : True := trivial
theorem toy.tw8386970136049262480 : True := trivial
theorem toy.tw8391674471062535132 : True := trivial
theorem toy.tw8421044598856611597 : True := trivial
theorem toy.tw8428644380673446516 : True := trivial
theorem toy.tw8449729949122562032 : True := trivial
theorem toy.tw8459902317329958236 : True := trivial
theorem toy.tw8489089238776893739 : True := trivial
theorem toy.tw8500161876114545702 : True := trivial
theorem toy.tw8593142811848830650 : True := trivial
theorem toy.tw8643636493584382656 : True := trivial
theorem toy.tw8655952387417126132 : True := trivial
theorem toy.tw8704766925148909855 : True := trivial
theorem toy.tw8707569207113630226 : True := trivial
theorem toy.tw8710455477895535784 : True := trivial
theorem toy.tw8716877452400632809 : True := trivial
theorem toy.tw881407726641564921 : True := trivial
theorem toy.tw8817552816922023394 : True := trivial
theorem toy.tw8842661639102312192 : True := trivial
theorem toy.tw8858063304294744104 : True := trivial
theorem toy.tw8863540064079271023 : True := trivial
theorem toy.tw8874217394912361593 : True := trivial
theorem toy.tw8895430799483431814 : True := trivial
theorem toy.tw8957552961052215043 : True := trivial
theorem toy.tw8959721711159187714 : True := trivial
theorem toy.tw896537704057532071 : True := trivial
theorem toy.tw8969903587878806700 : True := trivial
theorem toy.tw8970122963531655463 : True := trivial
theorem toy.tw8997717079578715791 : True := trivial
theorem toy.tw9004776391274805650 : True := trivial
theorem toy.tw9020491363811283073 : True := trivial
theorem toy.tw9052785797215727049 : True := trivial
theorem toy.tw907787582610117282 : True := trivial
theorem toy.tw9091061721795498396 : True := trivial
theorem toy.tw9122944331089024417 : True := trivial
theorem toy.tw9153493738172299963 : True := trivial
theorem toy.tw9197135593496065151 : True := trivial
theorem toy.tw9203162441725952441 : True := trivial
theorem toy.tw9210824671825101040 : True := trivial
theorem toy.tw9213560904470097400 : True := trivial
theorem toy.tw9214208507716985241 : True := trivial
theorem toy.tw9249460367819195053 : True := trivial
theorem toy.tw926701255240175060 : True := trivial
theorem toy.tw9290248850763170920 : True := trivial
theorem toy.tw9301450632602634789 : True := trivial
theorem toy.tw9322395885738949591 : True := trivial
theorem toy.tw9412345667826385859 : True := trivial
theorem toy.tw9420880268542199748 : True := trivial
theorem toy.tw9439218705264012230 : True := trivial
theorem toy.tw9448594751840383901 : True := trivial
theorem toy.tw9478168666516460497 : True := trivial
theorem toy.tw9478656721884845582 : True := trivial
theorem toy.tw9491244482876973021 : True := trivial
theorem toy.tw9550417420873101045 : True := trivial
theorem toy.tw9614365038700763313 : True := trivial
theorem toy.tw9627251503720085587 : True := trivial
theorem toy.tw9653455398314338015 : True := trivial
theorem toy.tw965845749970952788 : True := trivial
theorem toy.tw9685184486718657298 : True := trivial
theorem toy.tw9728090240408171960 : True := trivial
theorem toy.tw9731467468829848778 : True := trivial
theorem toy.tw974106832244424763 : True := trivial
theorem toy.tw9803712784096332048 : True := trivial
theorem toy.tw9838040045817104881 : True := trivial
theorem toy.tw9841976915901843668 : True := trivial
theorem toy.tw9910289613097064387 : True := trivial
theorem toy.tw9928944316824882871 : True := trivial
theorem toy.tw9945911151917486691 : True := trivial
set_option Elab.async true
/-- a claim of the same text, for the empty script alone: its head's constants serve the law below -/
def toyRow : OpenRow := ({ PySem.Challenge.rw_ix0013_01 with most := some 0 } : OpenLaw).row
set_option maxRecDepth 100000 in
set_option maxHeartbeats 0 in
theorem toy (said : toyRow.wellSaid = true) : toyRow.Holds := by
  k_with_none
  k_with "pyIter ref" => ((with_reducible rename IsRange _ _ _ _ _ _ _ _ => hR); k_dflt (refine' Mine.law_iter (x0 := Str.ofString "script") ?a1 ?a2 hR ?a3 ?a4 ?a5 ?a6 ?a7 ?_ ?_); (case a5 => k_asm); (case a6 => k_asm); (case a1 => rfl); (case a2 => rfl); (case a3 => split <;> omega); (case a4 => split <;> omega); (case a7 => exact rfl); (unfold Mine.TurnT; intro I' it' k' m' t' h' tk' hk0 hk1 F' N'; exfalso; (split at hk1 <;> omega)); (intro m' h' tk' F' N'))
  w_on
  k_head
  (case hw => w_witness2)
  w_strict (k_go0; (all_goals try k_fold); k_steps)
end Mine
set_option Elab.async false
local macro_rules | `(tactic| k_lt $h) => `(tactic| ((replace $h := allLt_of $h); (try simp only [AllLt, and_true] at $h:ident); (have q := $h; (repeat (replace q := And.right q)))))
local macro_rules | `(tactic| k_all) => `(tactic| first | exact Mine.ne_of_all (by assumption) | with_reducible assumption)
local macro_rules | `(tactic| k_room) => `(tactic| ktr_room)
local macro_rules | `(tactic| ks_enter) => `(tactic| (refine' ks_code_super ?k1 ?k2 ?k3 ?k4 ?k5 ?kA ?kF ?kK ?k6 ?k7 ?k8 ?k9 ?kB ?_ ?c1 ?c2 ?c3 ?c4; (case kA => exact rfl); (case kF => exact rfl); (case kK => exact rfl); (case k1 => k_asm); (case k2 => k_asm); (case k3 => k_asm); (case k4 => k_asm); (case k5 => k_asm); (case k6 => k_is); (case k7 => k_is); (case k8 => k_room); (case k9 => first | k_extra "mine binds" | (refine' Mine.bindsF ?x1 ?x7 ?x2 ?x3 ?x4 ?x5 ?x6; (case x2 => exact rfl); (case x1 => with_reducible assumption); (case x7 => k_asm); (case x3 => k_is); (case x4 => exact rfl); (case x5 => exact rfl); (case x6 => exact rfl)) | exact BindsTo.of_eq rfl); (case kB => exact locs rfl); (case c1 => decide); (case c2 => exact rfl); (case c3 => exact rfl); (case c4 => exact rfl); intro g' L' h' FG' F' N' B' X' T' l1; (try k_lt l1); (try dsimp only); (try k_lift B')))
local macro_rules | `(tactic| k_enter) => `(tactic| (refine' code_def ?k1 ?k2 ?k3 ?k4 ?k5 ?kA ?kF ?kK ?k6 ?k7 ?k8 ?k9 ?kB ?_ ?c2 ?c3 ?c4 ?c5; (case k3 => with_reducible assumption); (case k6 => k_is); (case kA => exact rfl); (case kF => exact rfl); (case kK => exact rfl); (case k1 => k_asm); (case k2 => k_asm); (case k4 => k_asm); (case k5 => k_asm); (case k7 => k_is); (case k8 => k_room); (case k9 => first | k_extra "mine binds" | (refine' Mine.bindsF ?x1 ?x7 ?x2 ?x3 ?x4 ?x5 ?x6; (case x2 => exact rfl); (case x1 => with_reducible assumption); (case x7 => k_asm); (case x3 => k_is); (case x4 => exact rfl); (case x5 => exact rfl); (case x6 => exact rfl)) | exact BindsTo.of_eq rfl); (case c5 => decide); (case kB => exact locs rfl); (case c2 => exact rfl); (case c3 => exact rfl); (case c4 => exact rfl); k_whole; intro g' L' h' FG' F' N' B' X' T'; (try dsimp only); (try k_lift B'); (try k_fold)))
local macro_rules | `(tactic| kmk_sum) => `(tactic| (simp only [sizeLine_eq, List.length_append, List.length_cons, List.length_nil]; omega))
local macro_rules | `(tactic| walk_at $s:str) => `(tactic| k_extra $s)
local macro_rules | `(tactic| ktr_units) => `(tactic| ((simp only [units_in1, units_deeper, Mine.unitsKw, Mine.unitsTop, Around.mark_units]); omega))
local macro_rules | `(tactic| ktr_room) => `(tactic| ((simp only [depth_under_kw, depth_in1, depth_deeper, Mine.depthTop]); omega))
local macro_rules | `(tactic| k_mem) => `(tactic| exact Mine.memOf (by with_reducible assumption))
namespace Mine
theorem tops (w : World) : Tops (Mine.toy.heap_1_1 w.params) w.params := by
  exact ⟨⟨_, _, by k_is, by k_keys⟩, ⟨_, _, by k_is, by k_keys⟩, ⟨_, by k_is⟩⟩
theorem kind_NOP (w : World) : ∃ t0 tx bj, KindT (Mine.toy.heap_1_1 w.params) (Str.ofString "NOP") 1 t0 tx bj 0 (0) ∧ tupHas (Mine.toy.heap_1_1 w.params) 27 1 = some false := by
  exact ⟨_, _, _, ⟨by k_is, by rfl, by rfl, .inl ⟨rfl, by k_is⟩, ⟨by first | rfl | kernel_rfl | decide +kernel, .inl ⟨rfl, by first | rfl | kernel_rfl | decide +kernel, by first | rfl | kernel_rfl | decide +kernel⟩⟩, by decide, by decide, by decide +kernel⟩, by rfl⟩
theorem kind_LOAD_CONST (w : World) : ∃ t0 tx bj, KindT (Mine.toy.heap_1_1 w.params) (Str.ofString "LOAD_CONST") 10 t0 tx bj 0 (0) ∧ tupHas (Mine.toy.heap_1_1 w.params) 27 10 = some true := by
  exact ⟨_, _, _, ⟨by k_is, by rfl, by rfl, .inl ⟨rfl, by k_is⟩, ⟨by first | rfl | kernel_rfl | decide +kernel, .inl ⟨rfl, by first | rfl | kernel_rfl | decide +kernel, by first | rfl | kernel_rfl | decide +kernel⟩⟩, by decide, by decide, by decide +kernel⟩, by rfl⟩
theorem kind_LOAD_GLOBAL (w : World) : ∃ t0 tx bj, KindT (Mine.toy.heap_1_1 w.params) (Str.ofString "LOAD_GLOBAL") 19 t0 tx bj 4 (0) ∧ tupHas (Mine.toy.heap_1_1 w.params) 27 19 = some true := by
  exact ⟨_, _, _, ⟨by k_is, by rfl, by rfl, .inr ⟨_, by k_is⟩, ⟨by first | rfl | kernel_rfl | decide +kernel, .inl ⟨rfl, by first | rfl | kernel_rfl | decide +kernel, by first | rfl | kernel_rfl | decide +kernel⟩⟩, by decide, by decide, by decide +kernel⟩, by rfl⟩
theorem kind_JUMP_FORWARD (w : World) : ∃ t0 tx bj, KindT (Mine.toy.heap_1_1 w.params) (Str.ofString "JUMP_FORWARD") 48 t0 tx bj 0 (1) ∧ tupHas (Mine.toy.heap_1_1 w.params) 27 48 = some true := by
  exact ⟨_, _, _, ⟨by k_is, by rfl, by rfl, .inl ⟨rfl, by k_is⟩, ⟨by first | rfl | kernel_rfl | decide +kernel, .inr (.inl ⟨rfl, by first | rfl | kernel_rfl | decide +kernel⟩)⟩, by decide, by decide, by decide +kernel⟩, by rfl⟩
theorem kind_JUMP_BACKWARD (w : World) : ∃ t0 tx bj, KindT (Mine.toy.heap_1_1 w.params) (Str.ofString "JUMP_BACKWARD") 49 t0 tx bj 1 (-1) ∧ tupHas (Mine.toy.heap_1_1 w.params) 27 49 = some true := by
  exact ⟨_, _, _, ⟨by k_is, by rfl, by rfl, .inr ⟨_, by k_is⟩, ⟨by first | rfl | kernel_rfl | decide +kernel, .inr (.inr ⟨rfl, by first | rfl | kernel_rfl | decide +kernel, by first | rfl | kernel_rfl | decide +kernel⟩)⟩, by decide, by decide, by decide +kernel⟩, by rfl⟩
theorem kind_POP_JUMP_IF_TRUE (w : World) : ∃ t0 tx bj, KindT (Mine.toy.heap_1_1 w.params) (Str.ofString "POP_JUMP_IF_TRUE") 51 t0 tx bj 1 (1) ∧ tupHas (Mine.toy.heap_1_1 w.params) 27 51 = some true := by
  exact ⟨_, _, _, ⟨by k_is, by rfl, by rfl, .inr ⟨_, by k_is⟩, ⟨by first | rfl | kernel_rfl | decide +kernel, .inr (.inl ⟨rfl, by first | rfl | kernel_rfl | decide +kernel⟩)⟩, by decide, by decide, by decide +kernel⟩, by rfl⟩
theorem kind_FOR_ITER (w : World) : ∃ t0 tx bj, KindT (Mine.toy.heap_1_1 w.params) (Str.ofString "FOR_ITER") 46 t0 tx bj 1 (1) ∧ tupHas (Mine.toy.heap_1_1 w.params) 27 46 = some true := by
  exact ⟨_, _, _, ⟨by k_is, by rfl, by rfl, .inr ⟨_, by k_is⟩, ⟨by first | rfl | kernel_rfl | decide +kernel, .inr (.inl ⟨rfl, by first | rfl | kernel_rfl | decide +kernel⟩)⟩, by decide, by decide, by decide +kernel⟩, by rfl⟩
theorem kind_RETURN_VALUE (w : World) : ∃ t0 tx bj, KindT (Mine.toy.heap_1_1 w.params) (Str.ofString "RETURN_VALUE") 6 t0 tx bj 0 (0) ∧ tupHas (Mine.toy.heap_1_1 w.params) 27 6 = some false := by
  exact ⟨_, _, _, ⟨by k_is, by rfl, by rfl, .inl ⟨rfl, by k_is⟩, ⟨by first | rfl | kernel_rfl | decide +kernel, .inl ⟨rfl, by first | rfl | kernel_rfl | decide +kernel, by first | rfl | kernel_rfl | decide +kernel⟩⟩, by decide, by decide, by decide +kernel⟩, by rfl⟩
theorem kind_CALL (w : World) : ∃ t0 tx bj, KindT (Mine.toy.heap_1_1 w.params) (Str.ofString "CALL") 44 t0 tx bj 3 (0) ∧ tupHas (Mine.toy.heap_1_1 w.params) 27 44 = some true := by
  exact ⟨_, _, _, ⟨by k_is, by rfl, by rfl, .inr ⟨_, by k_is⟩, ⟨by first | rfl | kernel_rfl | decide +kernel, .inl ⟨rfl, by first | rfl | kernel_rfl | decide +kernel, by first | rfl | kernel_rfl | decide +kernel⟩⟩, by decide, by decide, by decide +kernel⟩, by rfl⟩
theorem kind_JUMP_BACKWARD_NO_INTERRUPT (w : World) : ∃ t0 tx bj, KindT (Mine.toy.heap_1_1 w.params) (Str.ofString "JUMP_BACKWARD_NO_INTERRUPT") 50 t0 tx bj 0 (-1) ∧ tupHas (Mine.toy.heap_1_1 w.params) 27 50 = some true := by
  exact ⟨_, _, _, ⟨by k_is, by rfl, by rfl, .inl ⟨rfl, by k_is⟩, ⟨by first | rfl | kernel_rfl | decide +kernel, .inr (.inr ⟨rfl, by first | rfl | kernel_rfl | decide +kernel, by first | rfl | kernel_rfl | decide +kernel⟩)⟩, by decide, by decide, by decide +kernel⟩, by rfl⟩
theorem kind_LOAD_ATTR (w : World) : ∃ t0 tx bj, KindT (Mine.toy.heap_1_1 w.params) (Str.ofString "LOAD_ATTR") 21 t0 tx bj 9 (0) ∧ tupHas (Mine.toy.heap_1_1 w.params) 27 21 = some true := by
  exact ⟨_, _, _, ⟨by k_is, by rfl, by rfl, .inr ⟨_, by k_is⟩, ⟨by first | rfl | kernel_rfl | decide +kernel, .inl ⟨rfl, by first | rfl | kernel_rfl | decide +kernel, by first | rfl | kernel_rfl | decide +kernel⟩⟩, by decide, by decide, by decide +kernel⟩, by rfl⟩
set_option maxRecDepth 100000 in
set_option maxHeartbeats 0 in
theorem ops (w : World) (p : Program) (loose : List Str) (mean : ExcName → Option Value) (mg mb : Str → Option Value) : OpsC PySem.Challenge.rw_ix0013_01.row.prog w (Mine.toy.heap_1_1 w.params) p loose mean mg mb := by
  k_with_none
  k_with "exec While Compare cons nil" => (k_here; k_dflt (refine whl_start 100 ?_))
  k_with "UnrEnd" => (k_dflt (refine Mine.unr2 (by k_asm) (by k_asm) (by k_all) ?_))
  k_with "compareOp In int ref" => (k_here; (with_reducible show wpAny _ _ (compareOp CmpOp.In (Value.int _ _) (Value.ref _)) _ _ _); k_dflt (with_reducible refine Mine.in_abs (by k_asm) (by k_asm) (by with_reducible assumption) ?_))
  k_with "callWith ref" => (k_here; (with_reducible show wpAny _ _ (callWith _ (Value.ref _) _ _ (backToKw _ _)) _ _ _); k_dflt (refine Mine.callKWM (by k_asm) (by k_asm) (by k_mem) (by k_is) (by exact rfl) ?_))
  k_with "compareOp Is" => k_dflt (first | ((with_reducible show wpAny _ _ (compareOp CmpOp.Is (Value.int _ _) (Value.ref _)) _ _ _); refine wpAny_is_other (by rfl) (by intro x; cases x) ?_) | ((with_reducible show wpAny _ _ (compareOp CmpOp.Is (Value.str _ _) (Value.ref _)) _ _ _); refine wpAny_is_other (by rfl) (by intro x; cases x) ?_))
  k_with "compareOp IsNot" => k_dflt (first | ((with_reducible show wpAny _ _ (compareOp CmpOp.IsNot (Value.int _ _) (Value.ref _)) _ _ _); refine wpAny_isNot_other (by rfl) (by intro x; cases x) ?_) | ((with_reducible show wpAny _ _ (compareOp CmpOp.IsNot (Value.str _ _) (Value.ref _)) _ _ _); refine wpAny_isNot_other (by rfl) (by intro x; cases x) ?_))
  k_with "compareOp Is ref ref" => ((with_reducible show wpAny _ _ (compareOp CmpOp.Is (Value.ref _) (Value.ref _)) _ _ _); with_reducible refine wpAny_is_ref_self ?_)
  k_with "compareOp IsNot ref ref" => ((with_reducible show wpAny _ _ (compareOp CmpOp.IsNot (Value.ref _) (Value.ref _)) _ _ _); with_reducible refine wpAny_isNot_ref_self ?_)
  k_with "loadName" => (k_here; k_dflt (refine Mine.nmLn (by kernel_rfl!) (by exact rfl) (by k_asm) (by exact rfl) ?_))
  k_with "eval Name" => k_dflt (first | refine Mine.nmL (by kernel_rfl!) (by exact rfl) (by k_asm) (by exact rfl) ?_ | refine Mine.nmK (by kernel_rfl!) (by exact rfl) (by k_asm) (by k_asm) (by k_asm) (by k_is) ?_)
  k_with "binaryOp Sub int int" => (with_reducible refine Mine.sub_g ?_; intro z hz)
  k_with "binaryOp Mult int int" => (with_reducible refine Mine.mul_g ?_; intro z hz)
  k_with "execs nil" => first | (with_reducible refine Mine.gen_toks (fun tk => ?_); with_reducible refine wpAny_execs_nil ?_) | with_reducible refine wpAny_execs_nil ?_
  k_with "execs cons" => first | (with_reducible refine Mine.gen_toks (fun tk => ?_); with_reducible refine wpAny_execs_cons ?_) | with_reducible refine wpAny_execs_cons ?_
  k_with "ite" => (k_closed; k_dflt (first | refine PySem.W.ite_pos rfl ?_ | refine PySem.W.ite_neg Bool.false_ne_true ?_ | refine PySem.W.ite_pos (by decide) ?_ | refine PySem.W.ite_neg (by decide) ?_))
  k_with "wpAt" => k_dflt (first | (ks_step "execs cons"; refine ks_wpAt_execs_cons ?_) | ((with_reducible show _root_.PySem.wpAt _ _ _ (execs _ _) _ _ _); ks_step "execs cons"; refine ks_wpAt_execs_cons ?_) | (ks_step "exec Expr"; refine ks_wpAt_Expr_any ?_) | (ks_step "eval Call"; first | ((with_reducible show _root_.PySem.wpAt _ _ _ (eval (Expr.Call _ _ [] _) _) _ _ _); refine ks_wpAt_MethodCall ?_) | refine Mine.atMethodKW ?_) | (ks_step "attributeBase Call"; refine ks_node (by k_asm) (by k_asm) (by k_asm) (by k_asm) (by k_is) (by rfl) (by rfl) (by k_inst) (by k_is) (by rfl) (by exact Mine.file_is) (by k_is) (by k_is) (by k_is) (by k_is) (by decide) (by rfl) (by rfl) (by rfl) (by rfl) (by exact Mine.top_super) (by exact Mine.boot_super) ?_; intro so' h' F' N' l1; (try k_lt l1)) | ((fail_if_success ks_step "attributeBase Call"); refine _root_.PySem.wpAt_of_wpAny ?_))
  k_with "ite" => with_reducible first | refine Mine.ite_t ?_ | refine Mine.ite_f ?_ | refine Mine.ite_nt ?_ | refine Mine.ite_nf ?_
  k_with "call type:range" => ((with_reducible rename _ = (0 : Int) ∨ _ = 1 ∨ _ = 2 => hmQ); (refine Or.elim hmQ (fun hm1 => ?_) (fun hm2 => Or.elim hm2 (fun hm1 => ?_) (fun hm1 => ?_)) <;> subst hm1))
  k_with "subscriptTail" => (k_here; (with_reducible show wpAny _ _ (subscriptTail _ _ (Value.ref _) (Value.str _ _)) _ _ _); k_dflt first | (with_reducible refine Mine.item23 (by with_reducible assumption) (by k_asm) (by k_asm) (by with_reducible assumption) ?_) | (with_reducible refine Mine.item28 (by with_reducible assumption) (by k_asm) (by k_asm) (by with_reducible assumption) ?_))
  k_with "compareOp In str ref" => (k_here; (with_reducible show wpAny _ _ (compareOp CmpOp.In (Value.str _ _) (Value.ref _)) _ _ _); k_dflt (with_reducible refine Mine.in28 (by with_reducible assumption) (by k_asm) (by k_asm) (by with_reducible assumption) ?_))
  k_with "WhlIf" => (first | (refine WhlIf.yes (decide_eq_true (by omega)) ?_) | (refine WhlIf.no (decide_eq_false (by omega)) ?_) | (refine Mine.ifDec ?_ ?_ <;> intro hw))
  k_with "binaryOp Add int int" => (with_reducible refine Mine.add_g ?_; intro z hz)
  k_with "inplaceOp Add int int" => (with_reducible refine Mine.iadd_g ?_; intro z hz)
  k_with "binaryOp Mod int int" => (with_reducible refine Mine.mod_g (by omega) ?_; intro z hz)
  k_with "binaryOp FloorDiv int int" => (with_reducible refine Mine.fdiv_g (by omega) (by decide +kernel) ?_; intro z hz)
  k_with "inplaceOp RShift int int" => (with_reducible refine Mine.irsh_g ?_; intro z hz)
  k_with "binaryOp BitAnd int int" => (with_reducible refine Mine.and_g ?_; intro z hz)
  k_with "call ref" => (k_here; k_dflt (first
    | (refine call_cls (by k_asm) (by k_asm) (by k_asm) (by k_is) (by k_is) (by k_is) ?_; intro x' d' h' F' N' l1 l2; (try k_lt l1); (try k_lt2 l2); (try k_sweep); first | k_enter | ks_enter)
    | (refine call_meth (by k_asm) (by k_mem) ?_; first | k_enter | ks_enter)
    | (refine wpAny_call ?_; first | k_enter | ks_enter)))
  k_with "mine binds" => ((with_reducible show BindsTo _ (fnX _ (Str.ofString "_check_arg_int") _ _ _ _ _ _ _ _ _ _ _) _ _); exact BindsTo.of_eq (binds := [(Str.ofString "arg", _), (Str.ofString "name", _)]) rfl)
  k_with "mine binds" => ((with_reducible show BindsTo _ (fnX _ (Str.ofString "opcode_has_argument") _ _ _ _ _ _ _ _ _ _ _) _ _); exact BindsTo.of_eq (binds := [(Str.ofString "opcode", _)]) rfl)
  k_with "mine binds" => ((with_reducible show BindsTo _ (fnX _ (Str.ofString "_check_location") _ _ _ _ _ _ _ _ _ _ _) _ _); exact BindsTo.of_eq (binds := [(Str.ofString "location", _), (Str.ofString "location_name", _), (Str.ofString "min_value", _)]) rfl)
  k_with "mine binds" => ((with_reducible show BindsTo _ (fnX _ (Str.ofString "InstrLocation.__init__") _ _ _ _ _ _ _ _ _ _ _) _ _); exact BindsTo.of_eq (binds := [(Str.ofString "self", _), (Str.ofString "lineno", _), (Str.ofString "end_lineno", _), (Str.ofString "col_offset", _), (Str.ofString "end_col_offset", _)]) rfl)
  k_with "mine binds" => ((with_reducible show BindsTo _ (fnX _ (Str.ofString "BaseInstr.__init__") _ _ _ _ _ _ _ _ _ _ _) _ _); refine Mine.bindsF (binds := [(Str.ofString "self", _), (Str.ofString "name", _), (Str.ofString "arg", _), (Str.ofString "lineno", _), (Str.ofString "location", _)]) (by with_reducible assumption) (by k_asm) (by exact rfl) (by k_is) (by exact rfl) (by exact rfl) (by exact rfl))
  k_with "mine binds" => ((with_reducible show BindsTo _ (fnX _ (Str.ofString "BaseInstr.name") _ _ _ _ _ _ _ _ _ _ _) _ _); exact BindsTo.of_eq (binds := [(Str.ofString "self", _)]) rfl)
  k_with "mine binds" => ((with_reducible show BindsTo _ (fnX _ (Str.ofString "BaseInstr.name") _ _ _ _ _ _ _ _ _ _ _) _ _); exact BindsTo.of_eq (binds := [(Str.ofString "self", _), (Str.ofString "name", _)]) rfl)
  k_with "mine binds" => ((with_reducible show BindsTo _ (fnX _ (Str.ofString "BaseInstr.arg") _ _ _ _ _ _ _ _ _ _ _) _ _); exact BindsTo.of_eq (binds := [(Str.ofString "self", _)]) rfl)
  k_with "mine binds" => ((with_reducible show BindsTo _ (fnX _ (Str.ofString "BaseInstr.arg") _ _ _ _ _ _ _ _ _ _ _) _ _); exact BindsTo.of_eq (binds := [(Str.ofString "self", _), (Str.ofString "arg", _)]) rfl)
  k_with "mine binds" => ((with_reducible show BindsTo _ (fnX _ (Str.ofString "BaseInstr.lineno") _ _ _ _ _ _ _ _ _ _ _) _ _); exact BindsTo.of_eq (binds := [(Str.ofString "self", _)]) rfl)
  k_with "mine binds" => ((with_reducible show BindsTo _ (fnX _ (Str.ofString "BaseInstr.lineno") _ _ _ _ _ _ _ _ _ _ _) _ _); exact BindsTo.of_eq (binds := [(Str.ofString "self", _), (Str.ofString "lineno", _)]) rfl)
  k_with "mine binds" => ((with_reducible show BindsTo _ (fnX _ (Str.ofString "BaseInstr.is_abs_jump") _ _ _ _ _ _ _ _ _ _ _) _ _); exact BindsTo.of_eq (binds := [(Str.ofString "self", _)]) rfl)
  k_with "mine binds" => ((with_reducible show BindsTo _ (fnX _ (Str.ofString "BaseInstr.is_forward_rel_jump") _ _ _ _ _ _ _ _ _ _ _) _ _); exact BindsTo.of_eq (binds := [(Str.ofString "self", _)]) rfl)
  k_with "mine binds" => ((with_reducible show BindsTo _ (fnX _ (Str.ofString "BaseInstr.is_backward_rel_jump") _ _ _ _ _ _ _ _ _ _ _) _ _); exact BindsTo.of_eq (binds := [(Str.ofString "self", _)]) rfl)
  k_with "mine binds" => ((with_reducible show BindsTo _ (fnX _ (Str.ofString "BaseInstr._set") _ _ _ _ _ _ _ _ _ _ _) _ _); exact BindsTo.of_eq (binds := [(Str.ofString "self", _), (Str.ofString "name", _), (Str.ofString "arg", _)]) rfl)
  k_with "mine binds" => ((with_reducible show BindsTo _ (fnX _ (Str.ofString "ConcreteInstr.__init__") _ _ _ _ _ _ _ _ _ _ _) _ _); refine Mine.bindsF (binds := [(Str.ofString "self", _), (Str.ofString "name", _), (Str.ofString "arg", _), (Str.ofString "lineno", _), (Str.ofString "location", _), (Str.ofString "extended_args", _)]) (by with_reducible assumption) (by k_asm) (by exact rfl) (by k_is) (by exact rfl) (by exact rfl) (by exact rfl))
  k_with "mine binds" => ((with_reducible show BindsTo _ (fnX _ (Str.ofString "ConcreteInstr._check_arg") _ _ _ _ _ _ _ _ _ _ _) _ _); exact BindsTo.of_eq (binds := [(Str.ofString "self", _), (Str.ofString "name", _), (Str.ofString "opcode", _), (Str.ofString "arg", _)]) rfl)
  k_with "mine binds" => ((with_reducible show BindsTo _ (fnX _ (Str.ofString "ConcreteInstr._set") _ _ _ _ _ _ _ _ _ _ _) _ _); exact BindsTo.of_eq (binds := [(Str.ofString "self", _), (Str.ofString "name", _), (Str.ofString "arg", _)]) rfl)
  k_with "mine binds" => ((with_reducible show BindsTo _ (fnX _ (Str.ofString "ConcreteInstr.size") _ _ _ _ _ _ _ _ _ _ _) _ _); exact BindsTo.of_eq (binds := [(Str.ofString "self", _)]) rfl)
  k_with "mine binds" => ((with_reducible show BindsTo _ (fnX _ (Str.ofString "ConcreteInstr._cmp_key") _ _ _ _ _ _ _ _ _ _ _) _ _); exact BindsTo.of_eq (binds := [(Str.ofString "self", _)]) rfl)
  k_with "mine binds" => ((with_reducible show BindsTo _ (fnX _ (Str.ofString "ConcreteInstr.get_jump_target") _ _ _ _ _ _ _ _ _ _ _) _ _); exact BindsTo.of_eq (binds := [(Str.ofString "self", _), (Str.ofString "instr_offset", _)]) rfl)
  k_with "mine binds" => ((with_reducible show BindsTo _ (fnX _ (Str.ofString "ConcreteInstr.assemble") _ _ _ _ _ _ _ _ _ _ _) _ _); exact BindsTo.of_eq (binds := [(Str.ofString "self", _)]) rfl)
  k_with "mine binds" => ((with_reducible show BindsTo _ (fnX _ (Str.ofString "ConcreteInstr.disassemble") _ _ _ _ _ _ _ _ _ _ _) _ _); exact BindsTo.of_eq (binds := [(Str.ofString "lineno", _), (Str.ofString "code", _), (Str.ofString "offset", _)]) rfl)
  k_with "mine binds" => ((with_reducible show BindsTo _ (fnX _ (Str.ofString "ConcreteInstr.use_cache_opcodes") _ _ _ _ _ _ _ _ _ _ _) _ _); exact BindsTo.of_eq (binds := [(Str.ofString "self", _)]) rfl)
  k_with "mine binds" => ((with_reducible show BindsTo _ (fnX _ (Str.ofString "_law_octets") _ _ _ _ _ _ _ _ _ _ _) _ _); exact BindsTo.of_eq (binds := [(Str.ofString "name", _), (Str.ofString "number", _), (Str.ofString "more", _)]) rfl)
  k_with "mine binds" => ((with_reducible show BindsTo _ (fnX _ (Str.ofString "_law_looks") _ _ _ _ _ _ _ _ _ _ _) _ _); exact BindsTo.of_eq (binds := [(Str.ofString "op", _), (Str.ofString "kind", _), (Str.ofString "number", _), (Str.ofString "more", _), (Str.ofString "at", _)]) rfl)
  k_with "mine binds" => ((with_reducible show BindsTo _ (fnX _ (Str.ofString "_law_made") _ _ _ _ _ _ _ _ _ _ _) _ _); exact BindsTo.of_eq (binds := [(Str.ofString "name", _), (Str.ofString "number", _)]) rfl)
  k_with "mine binds" => ((with_reducible show BindsTo _ (fnX _ (Str.ofString "_law_turned") _ _ _ _ _ _ _ _ _ _ _) _ _); exact BindsTo.of_eq (binds := [(Str.ofString "op", _), (Str.ofString "number", _)]) rfl)
  k_with "mine binds" => ((with_reducible show BindsTo _ (fnX _ (Str.ofString "_law_alone") _ _ _ _ _ _ _ _ _ _ _) _ _); exact BindsTo.of_eq (binds := [(Str.ofString "kind", _), (Str.ofString "number", _), (Str.ofString "at", _)]) rfl)
  unfold OpsC At
  intro dp un gd cn sn sg so sm a ccd cl outer A₀ base h₀ L m news s Q E B F X N T hdp hun hret
  have hNews : NewsIs news := True.intro
  w_strict k_steps
  refine' ops_end hret ?zF ?zN ?zl ?zt ?zs ?zk
  (case zF => k_asm)
  (case zN => k_asm)
  (case zl => rfl)
  (case zt => assumption)
  (case zs => (repeat (first | exact sub_eq | refine sub_tl ?_)))
  refine List.forall_mem_cons.mpr ⟨?_, ?_⟩
  · obtain ⟨t0, tx, bj, hk, hh⟩ := kind_NOP w
    exact KindV.of (by k_asm) (by repeat (first | exact List.Mem.head _ | refine List.Mem.tail _ ?_)) hk hh (fun _ => ⟨rfl, rfl⟩) (by decide)
  refine List.forall_mem_cons.mpr ⟨?_, ?_⟩
  · obtain ⟨t0, tx, bj, hk, hh⟩ := kind_LOAD_CONST w
    exact KindV.of (by k_asm) (by repeat (first | exact List.Mem.head _ | refine List.Mem.tail _ ?_)) hk hh (fun e => by cases e) (by decide)
  refine List.forall_mem_cons.mpr ⟨?_, ?_⟩
  · obtain ⟨t0, tx, bj, hk, hh⟩ := kind_LOAD_GLOBAL w
    exact KindV.of (by k_asm) (by repeat (first | exact List.Mem.head _ | refine List.Mem.tail _ ?_)) hk hh (fun e => by cases e) (by decide)
  refine List.forall_mem_cons.mpr ⟨?_, ?_⟩
  · obtain ⟨t0, tx, bj, hk, hh⟩ := kind_JUMP_FORWARD w
    exact KindV.of (by k_asm) (by repeat (first | exact List.Mem.head _ | refine List.Mem.tail _ ?_)) hk hh (fun e => by cases e) (by decide)
  refine List.forall_mem_cons.mpr ⟨?_, ?_⟩
  · obtain ⟨t0, tx, bj, hk, hh⟩ := kind_JUMP_BACKWARD w
    exact KindV.of (by k_asm) (by repeat (first | exact List.Mem.head _ | refine List.Mem.tail _ ?_)) hk hh (fun e => by cases e) (by decide)
  refine List.forall_mem_cons.mpr ⟨?_, ?_⟩
  · obtain ⟨t0, tx, bj, hk, hh⟩ := kind_POP_JUMP_IF_TRUE w
    exact KindV.of (by k_asm) (by repeat (first | exact List.Mem.head _ | refine List.Mem.tail _ ?_)) hk hh (fun e => by cases e) (by decide)
  refine List.forall_mem_cons.mpr ⟨?_, ?_⟩
  · obtain ⟨t0, tx, bj, hk, hh⟩ := kind_FOR_ITER w
    exact KindV.of (by k_asm) (by repeat (first | exact List.Mem.head _ | refine List.Mem.tail _ ?_)) hk hh (fun e => by cases e) (by decide)
  refine List.forall_mem_cons.mpr ⟨?_, ?_⟩
  · obtain ⟨t0, tx, bj, hk, hh⟩ := kind_RETURN_VALUE w
    exact KindV.of (by k_asm) (by repeat (first | exact List.Mem.head _ | refine List.Mem.tail _ ?_)) hk hh (fun _ => ⟨rfl, rfl⟩) (by decide)
  refine List.forall_mem_cons.mpr ⟨?_, ?_⟩
  · obtain ⟨t0, tx, bj, hk, hh⟩ := kind_CALL w
    exact KindV.of (by k_asm) (by repeat (first | exact List.Mem.head _ | refine List.Mem.tail _ ?_)) hk hh (fun e => by cases e) (by decide)
  refine List.forall_mem_cons.mpr ⟨?_, ?_⟩
  · obtain ⟨t0, tx, bj, hk, hh⟩ := kind_JUMP_BACKWARD_NO_INTERRUPT w
    exact KindV.of (by k_asm) (by repeat (first | exact List.Mem.head _ | refine List.Mem.tail _ ?_)) hk hh (fun e => by cases e) (by decide)
  refine List.forall_mem_cons.mpr ⟨?_, ?_⟩
  · obtain ⟨t0, tx, bj, hk, hh⟩ := kind_LOAD_ATTR w
    exact KindV.of (by k_asm) (by repeat (first | exact List.Mem.head _ | refine List.Mem.tail _ ?_)) hk hh (fun e => by cases e) (by decide)
  exact List.forall_mem_nil _
set_option maxRecDepth 100000 in
set_option maxHeartbeats 0 in
theorem set (w : World) (p : Program) (loose : List Str) (mean : ExcName → Option Value) (mg mb : Str → Option Value) : SetC PySem.Challenge.rw_ix0013_01.row.prog w (Mine.toy.heap_1_1 w.params) p loose mean mg mb := by
  k_with_none
  k_with "exec While Compare cons nil" => (k_here; k_dflt (refine whl_start 100 ?_))
  k_with "UnrEnd" => (k_dflt (refine Mine.unr2 (by k_asm) (by k_asm) (by k_all) ?_))
  k_with "compareOp In int ref" => (k_here; (with_reducible show wpAny _ _ (compareOp CmpOp.In (Value.int _ _) (Value.ref _)) _ _ _); k_dflt (with_reducible refine Mine.in_abs (by k_asm) (by k_asm) (by with_reducible assumption) ?_))
  k_with "callWith ref" => (k_here; (with_reducible show wpAny _ _ (callWith _ (Value.ref _) _ _ (backToKw _ _)) _ _ _); k_dflt (refine Mine.callKWM (by k_asm) (by k_asm) (by k_mem) (by k_is) (by exact rfl) ?_))
  k_with "compareOp Is" => k_dflt (first | ((with_reducible show wpAny _ _ (compareOp CmpOp.Is (Value.int _ _) (Value.ref _)) _ _ _); refine wpAny_is_other (by rfl) (by intro x; cases x) ?_) | ((with_reducible show wpAny _ _ (compareOp CmpOp.Is (Value.str _ _) (Value.ref _)) _ _ _); refine wpAny_is_other (by rfl) (by intro x; cases x) ?_))
  k_with "compareOp IsNot" => k_dflt (first | ((with_reducible show wpAny _ _ (compareOp CmpOp.IsNot (Value.int _ _) (Value.ref _)) _ _ _); refine wpAny_isNot_other (by rfl) (by intro x; cases x) ?_) | ((with_reducible show wpAny _ _ (compareOp CmpOp.IsNot (Value.str _ _) (Value.ref _)) _ _ _); refine wpAny_isNot_other (by rfl) (by intro x; cases x) ?_))
  k_with "compareOp Is ref ref" => ((with_reducible show wpAny _ _ (compareOp CmpOp.Is (Value.ref _) (Value.ref _)) _ _ _); with_reducible refine wpAny_is_ref_self ?_)
  k_with "compareOp IsNot ref ref" => ((with_reducible show wpAny _ _ (compareOp CmpOp.IsNot (Value.ref _) (Value.ref _)) _ _ _); with_reducible refine wpAny_isNot_ref_self ?_)
  k_with "loadName" => (k_here; k_dflt (refine Mine.nmLn (by kernel_rfl!) (by exact rfl) (by k_asm) (by exact rfl) ?_))
  k_with "eval Name" => k_dflt (first | refine Mine.nmL (by kernel_rfl!) (by exact rfl) (by k_asm) (by exact rfl) ?_ | refine Mine.nmK (by kernel_rfl!) (by exact rfl) (by k_asm) (by k_asm) (by k_asm) (by k_is) ?_)
  k_with "binaryOp Sub int int" => (with_reducible refine Mine.sub_g ?_; intro z hz)
  k_with "binaryOp Mult int int" => (with_reducible refine Mine.mul_g ?_; intro z hz)
  k_with "execs nil" => first | (with_reducible refine Mine.gen_toks (fun tk => ?_); with_reducible refine wpAny_execs_nil ?_) | with_reducible refine wpAny_execs_nil ?_
  k_with "execs cons" => first | (with_reducible refine Mine.gen_toks (fun tk => ?_); with_reducible refine wpAny_execs_cons ?_) | with_reducible refine wpAny_execs_cons ?_
  k_with "ite" => (k_closed; k_dflt (first | refine PySem.W.ite_pos rfl ?_ | refine PySem.W.ite_neg Bool.false_ne_true ?_ | refine PySem.W.ite_pos (by decide) ?_ | refine PySem.W.ite_neg (by decide) ?_))
  k_with "wpAt" => k_dflt (first | (ks_step "execs cons"; refine ks_wpAt_execs_cons ?_) | ((with_reducible show _root_.PySem.wpAt _ _ _ (execs _ _) _ _ _); ks_step "execs cons"; refine ks_wpAt_execs_cons ?_) | (ks_step "exec Expr"; refine ks_wpAt_Expr_any ?_) | (ks_step "eval Call"; first | ((with_reducible show _root_.PySem.wpAt _ _ _ (eval (Expr.Call _ _ [] _) _) _ _ _); refine ks_wpAt_MethodCall ?_) | refine Mine.atMethodKW ?_) | (ks_step "attributeBase Call"; refine ks_node (by k_asm) (by k_asm) (by k_asm) (by k_asm) (by k_is) (by rfl) (by rfl) (by k_inst) (by k_is) (by rfl) (by exact Mine.file_is) (by k_is) (by k_is) (by k_is) (by k_is) (by decide) (by rfl) (by rfl) (by rfl) (by rfl) (by exact Mine.top_super) (by exact Mine.boot_super) ?_; intro so' h' F' N' l1; (try k_lt l1)) | ((fail_if_success ks_step "attributeBase Call"); refine _root_.PySem.wpAt_of_wpAny ?_))
  k_with "ite" => with_reducible first | refine Mine.ite_t ?_ | refine Mine.ite_f ?_ | refine Mine.ite_nt ?_ | refine Mine.ite_nf ?_
  k_with "call type:range" => ((with_reducible rename _ = (0 : Int) ∨ _ = 1 ∨ _ = 2 => hmQ); (refine Or.elim hmQ (fun hm1 => ?_) (fun hm2 => Or.elim hm2 (fun hm1 => ?_) (fun hm1 => ?_)) <;> subst hm1))
  k_with "subscriptTail" => (k_here; (with_reducible show wpAny _ _ (subscriptTail _ _ (Value.ref _) (Value.str _ _)) _ _ _); k_dflt first | (with_reducible refine Mine.item23 (by with_reducible assumption) (by k_asm) (by k_asm) (by with_reducible assumption) ?_) | (with_reducible refine Mine.item28 (by with_reducible assumption) (by k_asm) (by k_asm) (by with_reducible assumption) ?_))
  k_with "compareOp In str ref" => (k_here; (with_reducible show wpAny _ _ (compareOp CmpOp.In (Value.str _ _) (Value.ref _)) _ _ _); k_dflt (with_reducible refine Mine.in28 (by with_reducible assumption) (by k_asm) (by k_asm) (by with_reducible assumption) ?_))
  k_with "WhlIf" => (first | (refine WhlIf.yes (decide_eq_true (by omega)) ?_) | (refine WhlIf.no (decide_eq_false (by omega)) ?_) | (refine Mine.ifDec ?_ ?_ <;> intro hw))
  k_with "binaryOp Add int int" => (with_reducible refine Mine.add_g ?_; intro z hz)
  k_with "inplaceOp Add int int" => (with_reducible refine Mine.iadd_g ?_; intro z hz)
  k_with "binaryOp Mod int int" => (with_reducible refine Mine.mod_g (by omega) ?_; intro z hz)
  k_with "binaryOp FloorDiv int int" => (with_reducible refine Mine.fdiv_g (by omega) (by decide +kernel) ?_; intro z hz)
  k_with "inplaceOp RShift int int" => (with_reducible refine Mine.irsh_g ?_; intro z hz)
  k_with "binaryOp BitAnd int int" => (with_reducible refine Mine.and_g ?_; intro z hz)
  k_with "call ref" => (k_here; k_dflt (first
    | (refine call_cls (by k_asm) (by k_asm) (by k_asm) (by k_is) (by k_is) (by k_is) ?_; intro x' d' h' F' N' l1 l2; (try k_lt l1); (try k_lt2 l2); (try k_sweep); first | k_enter | ks_enter)
    | (refine call_meth (by k_asm) (by k_mem) ?_; first | k_enter | ks_enter)
    | (refine wpAny_call ?_; first | k_enter | ks_enter)))
  k_with "mine binds" => ((with_reducible show BindsTo _ (fnX _ (Str.ofString "_check_arg_int") _ _ _ _ _ _ _ _ _ _ _) _ _); exact BindsTo.of_eq (binds := [(Str.ofString "arg", _), (Str.ofString "name", _)]) rfl)
  k_with "mine binds" => ((with_reducible show BindsTo _ (fnX _ (Str.ofString "opcode_has_argument") _ _ _ _ _ _ _ _ _ _ _) _ _); exact BindsTo.of_eq (binds := [(Str.ofString "opcode", _)]) rfl)
  k_with "mine binds" => ((with_reducible show BindsTo _ (fnX _ (Str.ofString "_check_location") _ _ _ _ _ _ _ _ _ _ _) _ _); exact BindsTo.of_eq (binds := [(Str.ofString "location", _), (Str.ofString "location_name", _), (Str.ofString "min_value", _)]) rfl)
  k_with "mine binds" => ((with_reducible show BindsTo _ (fnX _ (Str.ofString "InstrLocation.__init__") _ _ _ _ _ _ _ _ _ _ _) _ _); exact BindsTo.of_eq (binds := [(Str.ofString "self", _), (Str.ofString "lineno", _), (Str.ofString "end_lineno", _), (Str.ofString "col_offset", _), (Str.ofString "end_col_offset", _)]) rfl)
  k_with "mine binds" => ((with_reducible show BindsTo _ (fnX _ (Str.ofString "BaseInstr.__init__") _ _ _ _ _ _ _ _ _ _ _) _ _); refine Mine.bindsF (binds := [(Str.ofString "self", _), (Str.ofString "name", _), (Str.ofString "arg", _), (Str.ofString "lineno", _), (Str.ofString "location", _)]) (by with_reducible assumption) (by k_asm) (by exact rfl) (by k_is) (by exact rfl) (by exact rfl) (by exact rfl))
  k_with "mine binds" => ((with_reducible show BindsTo _ (fnX _ (Str.ofString "BaseInstr.name") _ _ _ _ _ _ _ _ _ _ _) _ _); exact BindsTo.of_eq (binds := [(Str.ofString "self", _)]) rfl)
  k_with "mine binds" => ((with_reducible show BindsTo _ (fnX _ (Str.ofString "BaseInstr.name") _ _ _ _ _ _ _ _ _ _ _) _ _); exact BindsTo.of_eq (binds := [(Str.ofString "self", _), (Str.ofString "name", _)]) rfl)
  k_with "mine binds" => ((with_reducible show BindsTo _ (fnX _ (Str.ofString "BaseInstr.arg") _ _ _ _ _ _ _ _ _ _ _) _ _); exact BindsTo.of_eq (binds := [(Str.ofString "self", _)]) rfl)
  k_with "mine binds" => ((with_reducible show BindsTo _ (fnX _ (Str.ofString "BaseInstr.arg") _ _ _ _ _ _ _ _ _ _ _) _ _); exact BindsTo.of_eq (binds := [(Str.ofString "self", _), (Str.ofString "arg", _)]) rfl)
  k_with "mine binds" => ((with_reducible show BindsTo _ (fnX _ (Str.ofString "BaseInstr.lineno") _ _ _ _ _ _ _ _ _ _ _) _ _); exact BindsTo.of_eq (binds := [(Str.ofString "self", _)]) rfl)
  k_with "mine binds" => ((with_reducible show BindsTo _ (fnX _ (Str.ofString "BaseInstr.lineno") _ _ _ _ _ _ _ _ _ _ _) _ _); exact BindsTo.of_eq (binds := [(Str.ofString "self", _), (Str.ofString "lineno", _)]) rfl)
  k_with "mine binds" => ((with_reducible show BindsTo _ (fnX _ (Str.ofString "BaseInstr.is_abs_jump") _ _ _ _ _ _ _ _ _ _ _) _ _); exact BindsTo.of_eq (binds := [(Str.ofString "self", _)]) rfl)
  k_with "mine binds" => ((with_reducible show BindsTo _ (fnX _ (Str.ofString "BaseInstr.is_forward_rel_jump") _ _ _ _ _ _ _ _ _ _ _) _ _); exact BindsTo.of_eq (binds := [(Str.ofString "self", _)]) rfl)
  k_with "mine binds" => ((with_reducible show BindsTo _ (fnX _ (Str.ofString "BaseInstr.is_backward_rel_jump") _ _ _ _ _ _ _ _ _ _ _) _ _); exact BindsTo.of_eq (binds := [(Str.ofString "self", _)]) rfl)
  k_with "mine binds" => ((with_reducible show BindsTo _ (fnX _ (Str.ofString "BaseInstr._set") _ _ _ _ _ _ _ _ _ _ _) _ _); exact BindsTo.of_eq (binds := [(Str.ofString "self", _), (Str.ofString "name", _), (Str.ofString "arg", _)]) rfl)
  k_with "mine binds" => ((with_reducible show BindsTo _ (fnX _ (Str.ofString "ConcreteInstr.__init__") _ _ _ _ _ _ _ _ _ _ _) _ _); refine Mine.bindsF (binds := [(Str.ofString "self", _), (Str.ofString "name", _), (Str.ofString "arg", _), (Str.ofString "lineno", _), (Str.ofString "location", _), (Str.ofString "extended_args", _)]) (by with_reducible assumption) (by k_asm) (by exact rfl) (by k_is) (by exact rfl) (by exact rfl) (by exact rfl))
  k_with "mine binds" => ((with_reducible show BindsTo _ (fnX _ (Str.ofString "ConcreteInstr._check_arg") _ _ _ _ _ _ _ _ _ _ _) _ _); exact BindsTo.of_eq (binds := [(Str.ofString "self", _), (Str.ofString "name", _), (Str.ofString "opcode", _), (Str.ofString "arg", _)]) rfl)
  k_with "mine binds" => ((with_reducible show BindsTo _ (fnX _ (Str.ofString "ConcreteInstr._set") _ _ _ _ _ _ _ _ _ _ _) _ _); exact BindsTo.of_eq (binds := [(Str.ofString "self", _), (Str.ofString "name", _), (Str.ofString "arg", _)]) rfl)
  k_with "mine binds" => ((with_reducible show BindsTo _ (fnX _ (Str.ofString "ConcreteInstr.size") _ _ _ _ _ _ _ _ _ _ _) _ _); exact BindsTo.of_eq (binds := [(Str.ofString "self", _)]) rfl)
  k_with "mine binds" => ((with_reducible show BindsTo _ (fnX _ (Str.ofString "ConcreteInstr._cmp_key") _ _ _ _ _ _ _ _ _ _ _) _ _); exact BindsTo.of_eq (binds := [(Str.ofString "self", _)]) rfl)
  k_with "mine binds" => ((with_reducible show BindsTo _ (fnX _ (Str.ofString "ConcreteInstr.get_jump_target") _ _ _ _ _ _ _ _ _ _ _) _ _); exact BindsTo.of_eq (binds := [(Str.ofString "self", _), (Str.ofString "instr_offset", _)]) rfl)
  k_with "mine binds" => ((with_reducible show BindsTo _ (fnX _ (Str.ofString "ConcreteInstr.assemble") _ _ _ _ _ _ _ _ _ _ _) _ _); exact BindsTo.of_eq (binds := [(Str.ofString "self", _)]) rfl)
  k_with "mine binds" => ((with_reducible show BindsTo _ (fnX _ (Str.ofString "ConcreteInstr.disassemble") _ _ _ _ _ _ _ _ _ _ _) _ _); exact BindsTo.of_eq (binds := [(Str.ofString "lineno", _), (Str.ofString "code", _), (Str.ofString "offset", _)]) rfl)
  k_with "mine binds" => ((with_reducible show BindsTo _ (fnX _ (Str.ofString "ConcreteInstr.use_cache_opcodes") _ _ _ _ _ _ _ _ _ _ _) _ _); exact BindsTo.of_eq (binds := [(Str.ofString "self", _)]) rfl)
  k_with "mine binds" => ((with_reducible show BindsTo _ (fnX _ (Str.ofString "_law_octets") _ _ _ _ _ _ _ _ _ _ _) _ _); exact BindsTo.of_eq (binds := [(Str.ofString "name", _), (Str.ofString "number", _), (Str.ofString "more", _)]) rfl)
  k_with "mine binds" => ((with_reducible show BindsTo _ (fnX _ (Str.ofString "_law_looks") _ _ _ _ _ _ _ _ _ _ _) _ _); exact BindsTo.of_eq (binds := [(Str.ofString "op", _), (Str.ofString "kind", _), (Str.ofString "number", _), (Str.ofString "more", _), (Str.ofString "at", _)]) rfl)
  k_with "mine binds" => ((with_reducible show BindsTo _ (fnX _ (Str.ofString "_law_made") _ _ _ _ _ _ _ _ _ _ _) _ _); exact BindsTo.of_eq (binds := [(Str.ofString "name", _), (Str.ofString "number", _)]) rfl)
  k_with "mine binds" => ((with_reducible show BindsTo _ (fnX _ (Str.ofString "_law_turned") _ _ _ _ _ _ _ _ _ _ _) _ _); exact BindsTo.of_eq (binds := [(Str.ofString "op", _), (Str.ofString "number", _)]) rfl)
  k_with "mine binds" => ((with_reducible show BindsTo _ (fnX _ (Str.ofString "_law_alone") _ _ _ _ _ _ _ _ _ _ _) _ _); exact BindsTo.of_eq (binds := [(Str.ofString "kind", _), (Str.ofString "number", _), (Str.ofString "at", _)]) rfl)
  k_with "exec While Compare cons nil" => (k_here; k_dflt (refine Mine.setJoin (by with_reducible assumption) (by k_asm) (by k_asm) ?_ ?_; refine whl_start 100 ?_))
  k_with "SetI" => k_dflt (first | refine Mine.SetI.intro0 (by k_asm) (by k_asm) (by exact rfl) (by refine Mine.W_s ?_; omega) | refine Mine.SetI.intro (by k_asm) (by k_asm) (by first | exact fun _ _ _ => rfl | (intro y h1 h2; simp only [if_neg h1, if_neg h2])) (by refine Mine.W_s ?_; omega))
  k_with "getAttr ref" => ((with_reducible show wpAny _ _ (getAttr _ (Str.ofString "_extended_args") _) _ _ _); (with_reducible rename ((_ = Value.none ∧ _) ∨ _) => hE); rcases hE with ⟨hE1, hE2⟩ | ⟨e, te, hE1, hE2⟩ <;> subst hE1)
  unfold SetC At
  intro dp un gd cn sn sg so sm a ccd cl outer A₀ base h₀ L m news s Q E B F X N T hdp hun TD X1 D1 rest x k1 t0 t1 t2 c n bj ext sz hnews hlt hDX hop hhas hjmp hc0 hc1 hn0 hn1 hext hret
  subst hnews
  unfold newDict at N
  replace hDX := ltN hDX
  have hCn : CnIs c n := True.intro
  w_strict k_steps
  all_goals (refine' set_end hret ?F ?N ?m1 ?m2 ?m3 ?m4; (case F => k_asm); (case N => k_asm); (case m1 => first | k_mem | exact List.Mem.tail _ (List.Mem.tail _ (List.Mem.head _))); (case m2 => first | k_mem | exact List.Mem.tail _ (List.Mem.tail _ (List.Mem.tail _ (List.Mem.head _)))); (case m3 => (repeat (first | exact sub_eq | refine sub_tl ?_))); (case m4 => omega))
set_option maxRecDepth 100000 in
set_option maxHeartbeats 0 in
theorem setU (w : World) (p : Program) (loose : List Str) (mean : ExcName → Option Value) (mg mb : Str → Option Value) : SetUC PySem.Challenge.rw_ix0013_01.row.prog w (Mine.toy.heap_1_1 w.params) p loose mean mg mb := by
  k_with_none
  k_with "exec While Compare cons nil" => (k_here; k_dflt (refine whl_start 100 ?_))
  k_with "UnrEnd" => (k_dflt (refine Mine.unr2 (by k_asm) (by k_asm) (by k_all) ?_))
  k_with "compareOp In int ref" => (k_here; (with_reducible show wpAny _ _ (compareOp CmpOp.In (Value.int _ _) (Value.ref _)) _ _ _); k_dflt (with_reducible refine Mine.in_abs (by k_asm) (by k_asm) (by with_reducible assumption) ?_))
  k_with "callWith ref" => (k_here; (with_reducible show wpAny _ _ (callWith _ (Value.ref _) _ _ (backToKw _ _)) _ _ _); k_dflt (refine Mine.callKWM (by k_asm) (by k_asm) (by k_mem) (by k_is) (by exact rfl) ?_))
  k_with "compareOp Is" => k_dflt (first | ((with_reducible show wpAny _ _ (compareOp CmpOp.Is (Value.int _ _) (Value.ref _)) _ _ _); refine wpAny_is_other (by rfl) (by intro x; cases x) ?_) | ((with_reducible show wpAny _ _ (compareOp CmpOp.Is (Value.str _ _) (Value.ref _)) _ _ _); refine wpAny_is_other (by rfl) (by intro x; cases x) ?_))
  k_with "compareOp IsNot" => k_dflt (first | ((with_reducible show wpAny _ _ (compareOp CmpOp.IsNot (Value.int _ _) (Value.ref _)) _ _ _); refine wpAny_isNot_other (by rfl) (by intro x; cases x) ?_) | ((with_reducible show wpAny _ _ (compareOp CmpOp.IsNot (Value.str _ _) (Value.ref _)) _ _ _); refine wpAny_isNot_other (by rfl) (by intro x; cases x) ?_))
  k_with "compareOp Is ref ref" => ((with_reducible show wpAny _ _ (compareOp CmpOp.Is (Value.ref _) (Value.ref _)) _ _ _); with_reducible refine wpAny_is_ref_self ?_)
  k_with "compareOp IsNot ref ref" => ((with_reducible show wpAny _ _ (compareOp CmpOp.IsNot (Value.ref _) (Value.ref _)) _ _ _); with_reducible refine wpAny_isNot_ref_self ?_)
  k_with "loadName" => (k_here; k_dflt (refine Mine.nmLn (by kernel_rfl!) (by exact rfl) (by k_asm) (by exact rfl) ?_))
  k_with "eval Name" => k_dflt (first | refine Mine.nmL (by kernel_rfl!) (by exact rfl) (by k_asm) (by exact rfl) ?_ | refine Mine.nmK (by kernel_rfl!) (by exact rfl) (by k_asm) (by k_asm) (by k_asm) (by k_is) ?_)
  k_with "binaryOp Sub int int" => (with_reducible refine Mine.sub_g ?_; intro z hz)
  k_with "binaryOp Mult int int" => (with_reducible refine Mine.mul_g ?_; intro z hz)
  k_with "execs nil" => first | (with_reducible refine Mine.gen_toks (fun tk => ?_); with_reducible refine wpAny_execs_nil ?_) | with_reducible refine wpAny_execs_nil ?_
  k_with "execs cons" => first | (with_reducible refine Mine.gen_toks (fun tk => ?_); with_reducible refine wpAny_execs_cons ?_) | with_reducible refine wpAny_execs_cons ?_
  k_with "ite" => (k_closed; k_dflt (first | refine PySem.W.ite_pos rfl ?_ | refine PySem.W.ite_neg Bool.false_ne_true ?_ | refine PySem.W.ite_pos (by decide) ?_ | refine PySem.W.ite_neg (by decide) ?_))
  k_with "wpAt" => k_dflt (first | (ks_step "execs cons"; refine ks_wpAt_execs_cons ?_) | ((with_reducible show _root_.PySem.wpAt _ _ _ (execs _ _) _ _ _); ks_step "execs cons"; refine ks_wpAt_execs_cons ?_) | (ks_step "exec Expr"; refine ks_wpAt_Expr_any ?_) | (ks_step "eval Call"; first | ((with_reducible show _root_.PySem.wpAt _ _ _ (eval (Expr.Call _ _ [] _) _) _ _ _); refine ks_wpAt_MethodCall ?_) | refine Mine.atMethodKW ?_) | (ks_step "attributeBase Call"; refine ks_node (by k_asm) (by k_asm) (by k_asm) (by k_asm) (by k_is) (by rfl) (by rfl) (by k_inst) (by k_is) (by rfl) (by exact Mine.file_is) (by k_is) (by k_is) (by k_is) (by k_is) (by decide) (by rfl) (by rfl) (by rfl) (by rfl) (by exact Mine.top_super) (by exact Mine.boot_super) ?_; intro so' h' F' N' l1; (try k_lt l1)) | ((fail_if_success ks_step "attributeBase Call"); refine _root_.PySem.wpAt_of_wpAny ?_))
  k_with "ite" => with_reducible first | refine Mine.ite_t ?_ | refine Mine.ite_f ?_ | refine Mine.ite_nt ?_ | refine Mine.ite_nf ?_
  k_with "call type:range" => ((with_reducible rename _ = (0 : Int) ∨ _ = 1 ∨ _ = 2 => hmQ); (refine Or.elim hmQ (fun hm1 => ?_) (fun hm2 => Or.elim hm2 (fun hm1 => ?_) (fun hm1 => ?_)) <;> subst hm1))
  k_with "subscriptTail" => (k_here; (with_reducible show wpAny _ _ (subscriptTail _ _ (Value.ref _) (Value.str _ _)) _ _ _); k_dflt first | (with_reducible refine Mine.item23 (by with_reducible assumption) (by k_asm) (by k_asm) (by with_reducible assumption) ?_) | (with_reducible refine Mine.item28 (by with_reducible assumption) (by k_asm) (by k_asm) (by with_reducible assumption) ?_))
  k_with "compareOp In str ref" => (k_here; (with_reducible show wpAny _ _ (compareOp CmpOp.In (Value.str _ _) (Value.ref _)) _ _ _); k_dflt (with_reducible refine Mine.in28 (by with_reducible assumption) (by k_asm) (by k_asm) (by with_reducible assumption) ?_))
  k_with "WhlIf" => (first | (refine WhlIf.yes (decide_eq_true (by omega)) ?_) | (refine WhlIf.no (decide_eq_false (by omega)) ?_) | (refine Mine.ifDec ?_ ?_ <;> intro hw))
  k_with "binaryOp Add int int" => (with_reducible refine Mine.add_g ?_; intro z hz)
  k_with "inplaceOp Add int int" => (with_reducible refine Mine.iadd_g ?_; intro z hz)
  k_with "binaryOp Mod int int" => (with_reducible refine Mine.mod_g (by omega) ?_; intro z hz)
  k_with "binaryOp FloorDiv int int" => (with_reducible refine Mine.fdiv_g (by omega) (by decide +kernel) ?_; intro z hz)
  k_with "inplaceOp RShift int int" => (with_reducible refine Mine.irsh_g ?_; intro z hz)
  k_with "binaryOp BitAnd int int" => (with_reducible refine Mine.and_g ?_; intro z hz)
  k_with "call ref" => (k_here; k_dflt (first
    | (refine call_cls (by k_asm) (by k_asm) (by k_asm) (by k_is) (by k_is) (by k_is) ?_; intro x' d' h' F' N' l1 l2; (try k_lt l1); (try k_lt2 l2); (try k_sweep); first | k_enter | ks_enter)
    | (refine call_meth (by k_asm) (by k_mem) ?_; first | k_enter | ks_enter)
    | (refine wpAny_call ?_; first | k_enter | ks_enter)))
  k_with "mine binds" => ((with_reducible show BindsTo _ (fnX _ (Str.ofString "_check_arg_int") _ _ _ _ _ _ _ _ _ _ _) _ _); exact BindsTo.of_eq (binds := [(Str.ofString "arg", _), (Str.ofString "name", _)]) rfl)
  k_with "mine binds" => ((with_reducible show BindsTo _ (fnX _ (Str.ofString "opcode_has_argument") _ _ _ _ _ _ _ _ _ _ _) _ _); exact BindsTo.of_eq (binds := [(Str.ofString "opcode", _)]) rfl)
  k_with "mine binds" => ((with_reducible show BindsTo _ (fnX _ (Str.ofString "_check_location") _ _ _ _ _ _ _ _ _ _ _) _ _); exact BindsTo.of_eq (binds := [(Str.ofString "location", _), (Str.ofString "location_name", _), (Str.ofString "min_value", _)]) rfl)
  k_with "mine binds" => ((with_reducible show BindsTo _ (fnX _ (Str.ofString "InstrLocation.__init__") _ _ _ _ _ _ _ _ _ _ _) _ _); exact BindsTo.of_eq (binds := [(Str.ofString "self", _), (Str.ofString "lineno", _), (Str.ofString "end_lineno", _), (Str.ofString "col_offset", _), (Str.ofString "end_col_offset", _)]) rfl)
  k_with "mine binds" => ((with_reducible show BindsTo _ (fnX _ (Str.ofString "BaseInstr.__init__") _ _ _ _ _ _ _ _ _ _ _) _ _); refine Mine.bindsF (binds := [(Str.ofString "self", _), (Str.ofString "name", _), (Str.ofString "arg", _), (Str.ofString "lineno", _), (Str.ofString "location", _)]) (by with_reducible assumption) (by k_asm) (by exact rfl) (by k_is) (by exact rfl) (by exact rfl) (by exact rfl))
  k_with "mine binds" => ((with_reducible show BindsTo _ (fnX _ (Str.ofString "BaseInstr.name") _ _ _ _ _ _ _ _ _ _ _) _ _); exact BindsTo.of_eq (binds := [(Str.ofString "self", _)]) rfl)
  k_with "mine binds" => ((with_reducible show BindsTo _ (fnX _ (Str.ofString "BaseInstr.name") _ _ _ _ _ _ _ _ _ _ _) _ _); exact BindsTo.of_eq (binds := [(Str.ofString "self", _), (Str.ofString "name", _)]) rfl)
  k_with "mine binds" => ((with_reducible show BindsTo _ (fnX _ (Str.ofString "BaseInstr.arg") _ _ _ _ _ _ _ _ _ _ _) _ _); exact BindsTo.of_eq (binds := [(Str.ofString "self", _)]) rfl)
  k_with "mine binds" => ((with_reducible show BindsTo _ (fnX _ (Str.ofString "BaseInstr.arg") _ _ _ _ _ _ _ _ _ _ _) _ _); exact BindsTo.of_eq (binds := [(Str.ofString "self", _), (Str.ofString "arg", _)]) rfl)
  k_with "mine binds" => ((with_reducible show BindsTo _ (fnX _ (Str.ofString "BaseInstr.lineno") _ _ _ _ _ _ _ _ _ _ _) _ _); exact BindsTo.of_eq (binds := [(Str.ofString "self", _)]) rfl)
  k_with "mine binds" => ((with_reducible show BindsTo _ (fnX _ (Str.ofString "BaseInstr.lineno") _ _ _ _ _ _ _ _ _ _ _) _ _); exact BindsTo.of_eq (binds := [(Str.ofString "self", _), (Str.ofString "lineno", _)]) rfl)
  k_with "mine binds" => ((with_reducible show BindsTo _ (fnX _ (Str.ofString "BaseInstr.is_abs_jump") _ _ _ _ _ _ _ _ _ _ _) _ _); exact BindsTo.of_eq (binds := [(Str.ofString "self", _)]) rfl)
  k_with "mine binds" => ((with_reducible show BindsTo _ (fnX _ (Str.ofString "BaseInstr.is_forward_rel_jump") _ _ _ _ _ _ _ _ _ _ _) _ _); exact BindsTo.of_eq (binds := [(Str.ofString "self", _)]) rfl)
  k_with "mine binds" => ((with_reducible show BindsTo _ (fnX _ (Str.ofString "BaseInstr.is_backward_rel_jump") _ _ _ _ _ _ _ _ _ _ _) _ _); exact BindsTo.of_eq (binds := [(Str.ofString "self", _)]) rfl)
  k_with "mine binds" => ((with_reducible show BindsTo _ (fnX _ (Str.ofString "BaseInstr._set") _ _ _ _ _ _ _ _ _ _ _) _ _); exact BindsTo.of_eq (binds := [(Str.ofString "self", _), (Str.ofString "name", _), (Str.ofString "arg", _)]) rfl)
  k_with "mine binds" => ((with_reducible show BindsTo _ (fnX _ (Str.ofString "ConcreteInstr.__init__") _ _ _ _ _ _ _ _ _ _ _) _ _); refine Mine.bindsF (binds := [(Str.ofString "self", _), (Str.ofString "name", _), (Str.ofString "arg", _), (Str.ofString "lineno", _), (Str.ofString "location", _), (Str.ofString "extended_args", _)]) (by with_reducible assumption) (by k_asm) (by exact rfl) (by k_is) (by exact rfl) (by exact rfl) (by exact rfl))
  k_with "mine binds" => ((with_reducible show BindsTo _ (fnX _ (Str.ofString "ConcreteInstr._check_arg") _ _ _ _ _ _ _ _ _ _ _) _ _); exact BindsTo.of_eq (binds := [(Str.ofString "self", _), (Str.ofString "name", _), (Str.ofString "opcode", _), (Str.ofString "arg", _)]) rfl)
  k_with "mine binds" => ((with_reducible show BindsTo _ (fnX _ (Str.ofString "ConcreteInstr._set") _ _ _ _ _ _ _ _ _ _ _) _ _); exact BindsTo.of_eq (binds := [(Str.ofString "self", _), (Str.ofString "name", _), (Str.ofString "arg", _)]) rfl)
  k_with "mine binds" => ((with_reducible show BindsTo _ (fnX _ (Str.ofString "ConcreteInstr.size") _ _ _ _ _ _ _ _ _ _ _) _ _); exact BindsTo.of_eq (binds := [(Str.ofString "self", _)]) rfl)
  k_with "mine binds" => ((with_reducible show BindsTo _ (fnX _ (Str.ofString "ConcreteInstr._cmp_key") _ _ _ _ _ _ _ _ _ _ _) _ _); exact BindsTo.of_eq (binds := [(Str.ofString "self", _)]) rfl)
  k_with "mine binds" => ((with_reducible show BindsTo _ (fnX _ (Str.ofString "ConcreteInstr.get_jump_target") _ _ _ _ _ _ _ _ _ _ _) _ _); exact BindsTo.of_eq (binds := [(Str.ofString "self", _), (Str.ofString "instr_offset", _)]) rfl)
  k_with "mine binds" => ((with_reducible show BindsTo _ (fnX _ (Str.ofString "ConcreteInstr.assemble") _ _ _ _ _ _ _ _ _ _ _) _ _); exact BindsTo.of_eq (binds := [(Str.ofString "self", _)]) rfl)
  k_with "mine binds" => ((with_reducible show BindsTo _ (fnX _ (Str.ofString "ConcreteInstr.disassemble") _ _ _ _ _ _ _ _ _ _ _) _ _); exact BindsTo.of_eq (binds := [(Str.ofString "lineno", _), (Str.ofString "code", _), (Str.ofString "offset", _)]) rfl)
  k_with "mine binds" => ((with_reducible show BindsTo _ (fnX _ (Str.ofString "ConcreteInstr.use_cache_opcodes") _ _ _ _ _ _ _ _ _ _ _) _ _); exact BindsTo.of_eq (binds := [(Str.ofString "self", _)]) rfl)
  k_with "mine binds" => ((with_reducible show BindsTo _ (fnX _ (Str.ofString "_law_octets") _ _ _ _ _ _ _ _ _ _ _) _ _); exact BindsTo.of_eq (binds := [(Str.ofString "name", _), (Str.ofString "number", _), (Str.ofString "more", _)]) rfl)
  k_with "mine binds" => ((with_reducible show BindsTo _ (fnX _ (Str.ofString "_law_looks") _ _ _ _ _ _ _ _ _ _ _) _ _); exact BindsTo.of_eq (binds := [(Str.ofString "op", _), (Str.ofString "kind", _), (Str.ofString "number", _), (Str.ofString "more", _), (Str.ofString "at", _)]) rfl)
  k_with "mine binds" => ((with_reducible show BindsTo _ (fnX _ (Str.ofString "_law_made") _ _ _ _ _ _ _ _ _ _ _) _ _); exact BindsTo.of_eq (binds := [(Str.ofString "name", _), (Str.ofString "number", _)]) rfl)
  k_with "mine binds" => ((with_reducible show BindsTo _ (fnX _ (Str.ofString "_law_turned") _ _ _ _ _ _ _ _ _ _ _) _ _); exact BindsTo.of_eq (binds := [(Str.ofString "op", _), (Str.ofString "number", _)]) rfl)
  k_with "mine binds" => ((with_reducible show BindsTo _ (fnX _ (Str.ofString "_law_alone") _ _ _ _ _ _ _ _ _ _ _) _ _); exact BindsTo.of_eq (binds := [(Str.ofString "kind", _), (Str.ofString "number", _), (Str.ofString "at", _)]) rfl)
  k_with "ite" => (k_dflt (first | refine PySem.W.ite_pos (by simp only [decide_eq_true_eq, beq_iff_eq]; omega) ?_ | refine PySem.W.ite_neg (by simp only [decide_eq_true_eq, beq_iff_eq]; omega) ?_))
  unfold SetUC At
  intro dp un gd cn sn sg so sm a ccd cl outer A₀ base h₀ L m news s Q E B F X N T hdp hun TD X1 D1 rest x k1 t0 t1 c bj hnews hlt hDX hop hhas hjmp hc0 hret
  subst hnews
  unfold newDict at N
  replace hDX := ltN hDX
  have hNews : NewsIs rest := True.intro
  w_strict k_steps
  all_goals (refine' set_end hret ?F ?N ?m1 ?m2 ?m3 rfl; (case F => k_asm); (case N => k_asm); (case m1 => first | k_mem | exact List.Mem.tail _ (List.Mem.tail _ (List.Mem.head _))); (case m2 => first | k_mem | exact List.Mem.tail _ (List.Mem.tail _ (List.Mem.tail _ (List.Mem.head _)))); (case m3 => (repeat (first | exact sub_eq | refine sub_tl ?_))))
set_option maxRecDepth 100000 in
set_option maxHeartbeats 0 in
theorem set2 (w : World) (p : Program) (loose : List Str) (mean : ExcName → Option Value) (mg mb : Str → Option Value) : Set2C PySem.Challenge.rw_ix0013_01.row.prog w (Mine.toy.heap_1_1 w.params) p loose mean mg mb := by
  k_with_none
  k_with "exec While Compare cons nil" => (k_here; k_dflt (refine whl_start 100 ?_))
  k_with "UnrEnd" => (k_dflt (refine Mine.unr2 (by k_asm) (by k_asm) (by k_all) ?_))
  k_with "compareOp In int ref" => (k_here; (with_reducible show wpAny _ _ (compareOp CmpOp.In (Value.int _ _) (Value.ref _)) _ _ _); k_dflt (with_reducible refine Mine.in_abs (by k_asm) (by k_asm) (by with_reducible assumption) ?_))
  k_with "callWith ref" => (k_here; (with_reducible show wpAny _ _ (callWith _ (Value.ref _) _ _ (backToKw _ _)) _ _ _); k_dflt (refine Mine.callKWM (by k_asm) (by k_asm) (by k_mem) (by k_is) (by exact rfl) ?_))
  k_with "compareOp Is" => k_dflt (first | ((with_reducible show wpAny _ _ (compareOp CmpOp.Is (Value.int _ _) (Value.ref _)) _ _ _); refine wpAny_is_other (by rfl) (by intro x; cases x) ?_) | ((with_reducible show wpAny _ _ (compareOp CmpOp.Is (Value.str _ _) (Value.ref _)) _ _ _); refine wpAny_is_other (by rfl) (by intro x; cases x) ?_))
  k_with "compareOp IsNot" => k_dflt (first | ((with_reducible show wpAny _ _ (compareOp CmpOp.IsNot (Value.int _ _) (Value.ref _)) _ _ _); refine wpAny_isNot_other (by rfl) (by intro x; cases x) ?_) | ((with_reducible show wpAny _ _ (compareOp CmpOp.IsNot (Value.str _ _) (Value.ref _)) _ _ _); refine wpAny_isNot_other (by rfl) (by intro x; cases x) ?_))
  k_with "compareOp Is ref ref" => ((with_reducible show wpAny _ _ (compareOp CmpOp.Is (Value.ref _) (Value.ref _)) _ _ _); with_reducible refine wpAny_is_ref_self ?_)
  k_with "compareOp IsNot ref ref" => ((with_reducible show wpAny _ _ (compareOp CmpOp.IsNot (Value.ref _) (Value.ref _)) _ _ _); with_reducible refine wpAny_isNot_ref_self ?_)
  k_with "loadName" => (k_here; k_dflt (refine Mine.nmLn (by kernel_rfl!) (by exact rfl) (by k_asm) (by exact rfl) ?_))
  k_with "eval Name" => k_dflt (first | refine Mine.nmL (by kernel_rfl!) (by exact rfl) (by k_asm) (by exact rfl) ?_ | refine Mine.nmK (by kernel_rfl!) (by exact rfl) (by k_asm) (by k_asm) (by k_asm) (by k_is) ?_)
  k_with "binaryOp Sub int int" => (with_reducible refine Mine.sub_g ?_; intro z hz)
  k_with "binaryOp Mult int int" => (with_reducible refine Mine.mul_g ?_; intro z hz)
  k_with "execs nil" => first | (with_reducible refine Mine.gen_toks (fun tk => ?_); with_reducible refine wpAny_execs_nil ?_) | with_reducible refine wpAny_execs_nil ?_
  k_with "execs cons" => first | (with_reducible refine Mine.gen_toks (fun tk => ?_); with_reducible refine wpAny_execs_cons ?_) | with_reducible refine wpAny_execs_cons ?_
  k_with "ite" => (k_closed; k_dflt (first | refine PySem.W.ite_pos rfl ?_ | refine PySem.W.ite_neg Bool.false_ne_true ?_ | refine PySem.W.ite_pos (by decide) ?_ | refine PySem.W.ite_neg (by decide) ?_))
  k_with "wpAt" => k_dflt (first | (ks_step "execs cons"; refine ks_wpAt_execs_cons ?_) | ((with_reducible show _root_.PySem.wpAt _ _ _ (execs _ _) _ _ _); ks_step "execs cons"; refine ks_wpAt_execs_cons ?_) | (ks_step "exec Expr"; refine ks_wpAt_Expr_any ?_) | (ks_step "eval Call"; first | ((with_reducible show _root_.PySem.wpAt _ _ _ (eval (Expr.Call _ _ [] _) _) _ _ _); refine ks_wpAt_MethodCall ?_) | refine Mine.atMethodKW ?_) | (ks_step "attributeBase Call"; refine ks_node (by k_asm) (by k_asm) (by k_asm) (by k_asm) (by k_is) (by rfl) (by rfl) (by k_inst) (by k_is) (by rfl) (by exact Mine.file_is) (by k_is) (by k_is) (by k_is) (by k_is) (by decide) (by rfl) (by rfl) (by rfl) (by rfl) (by exact Mine.top_super) (by exact Mine.boot_super) ?_; intro so' h' F' N' l1; (try k_lt l1)) | ((fail_if_success ks_step "attributeBase Call"); refine _root_.PySem.wpAt_of_wpAny ?_))
  k_with "ite" => with_reducible first | refine Mine.ite_t ?_ | refine Mine.ite_f ?_ | refine Mine.ite_nt ?_ | refine Mine.ite_nf ?_
  k_with "call type:range" => ((with_reducible rename _ = (0 : Int) ∨ _ = 1 ∨ _ = 2 => hmQ); (refine Or.elim hmQ (fun hm1 => ?_) (fun hm2 => Or.elim hm2 (fun hm1 => ?_) (fun hm1 => ?_)) <;> subst hm1))
  k_with "subscriptTail" => (k_here; (with_reducible show wpAny _ _ (subscriptTail _ _ (Value.ref _) (Value.str _ _)) _ _ _); k_dflt first | (with_reducible refine Mine.item23 (by with_reducible assumption) (by k_asm) (by k_asm) (by with_reducible assumption) ?_) | (with_reducible refine Mine.item28 (by with_reducible assumption) (by k_asm) (by k_asm) (by with_reducible assumption) ?_))
  k_with "compareOp In str ref" => (k_here; (with_reducible show wpAny _ _ (compareOp CmpOp.In (Value.str _ _) (Value.ref _)) _ _ _); k_dflt (with_reducible refine Mine.in28 (by with_reducible assumption) (by k_asm) (by k_asm) (by with_reducible assumption) ?_))
  k_with "WhlIf" => (first | (refine WhlIf.yes (decide_eq_true (by omega)) ?_) | (refine WhlIf.no (decide_eq_false (by omega)) ?_) | (refine Mine.ifDec ?_ ?_ <;> intro hw))
  k_with "binaryOp Add int int" => (with_reducible refine Mine.add_g ?_; intro z hz)
  k_with "inplaceOp Add int int" => (with_reducible refine Mine.iadd_g ?_; intro z hz)
  k_with "binaryOp Mod int int" => (with_reducible refine Mine.mod_g (by omega) ?_; intro z hz)
  k_with "binaryOp FloorDiv int int" => (with_reducible refine Mine.fdiv_g (by omega) (by decide +kernel) ?_; intro z hz)
  k_with "inplaceOp RShift int int" => (with_reducible refine Mine.irsh_g ?_; intro z hz)
  k_with "binaryOp BitAnd int int" => (with_reducible refine Mine.and_g ?_; intro z hz)
  k_with "call ref" => (k_here; k_dflt (first
    | (refine call_cls (by k_asm) (by k_asm) (by k_asm) (by k_is) (by k_is) (by k_is) ?_; intro x' d' h' F' N' l1 l2; (try k_lt l1); (try k_lt2 l2); (try k_sweep); first | k_enter | ks_enter)
    | (refine call_meth (by k_asm) (by k_mem) ?_; first | k_enter | ks_enter)
    | (refine wpAny_call ?_; first | k_enter | ks_enter)))
  k_with "mine binds" => ((with_reducible show BindsTo _ (fnX _ (Str.ofString "_check_arg_int") _ _ _ _ _ _ _ _ _ _ _) _ _); exact BindsTo.of_eq (binds := [(Str.ofString "arg", _), (Str.ofString "name", _)]) rfl)
  k_with "mine binds" => ((with_reducible show BindsTo _ (fnX _ (Str.ofString "opcode_has_argument") _ _ _ _ _ _ _ _ _ _ _) _ _); exact BindsTo.of_eq (binds := [(Str.ofString "opcode", _)]) rfl)
  k_with "mine binds" => ((with_reducible show BindsTo _ (fnX _ (Str.ofString "_check_location") _ _ _ _ _ _ _ _ _ _ _) _ _); exact BindsTo.of_eq (binds := [(Str.ofString "location", _), (Str.ofString "location_name", _), (Str.ofString "min_value", _)]) rfl)
  k_with "mine binds" => ((with_reducible show BindsTo _ (fnX _ (Str.ofString "InstrLocation.__init__") _ _ _ _ _ _ _ _ _ _ _) _ _); exact BindsTo.of_eq (binds := [(Str.ofString "self", _), (Str.ofString "lineno", _), (Str.ofString "end_lineno", _), (Str.ofString "col_offset", _), (Str.ofString "end_col_offset", _)]) rfl)
  k_with "mine binds" => ((with_reducible show BindsTo _ (fnX _ (Str.ofString "BaseInstr.__init__") _ _ _ _ _ _ _ _ _ _ _) _ _); refine Mine.bindsF (binds := [(Str.ofString "self", _), (Str.ofString "name", _), (Str.ofString "arg", _), (Str.ofString "lineno", _), (Str.ofString "location", _)]) (by with_reducible assumption) (by k_asm) (by exact rfl) (by k_is) (by exact rfl) (by exact rfl) (by exact rfl))
  k_with "mine binds" => ((with_reducible show BindsTo _ (fnX _ (Str.ofString "BaseInstr.name") _ _ _ _ _ _ _ _ _ _ _) _ _); exact BindsTo.of_eq (binds := [(Str.ofString "self", _)]) rfl)
  k_with "mine binds" => ((with_reducible show BindsTo _ (fnX _ (Str.ofString "BaseInstr.name") _ _ _ _ _ _ _ _ _ _ _) _ _); exact BindsTo.of_eq (binds := [(Str.ofString "self", _), (Str.ofString "name", _)]) rfl)
  k_with "mine binds" => ((with_reducible show BindsTo _ (fnX _ (Str.ofString "BaseInstr.arg") _ _ _ _ _ _ _ _ _ _ _) _ _); exact BindsTo.of_eq (binds := [(Str.ofString "self", _)]) rfl)
  k_with "mine binds" => ((with_reducible show BindsTo _ (fnX _ (Str.ofString "BaseInstr.arg") _ _ _ _ _ _ _ _ _ _ _) _ _); exact BindsTo.of_eq (binds := [(Str.ofString "self", _), (Str.ofString "arg", _)]) rfl)
  k_with "mine binds" => ((with_reducible show BindsTo _ (fnX _ (Str.ofString "BaseInstr.lineno") _ _ _ _ _ _ _ _ _ _ _) _ _); exact BindsTo.of_eq (binds := [(Str.ofString "self", _)]) rfl)
  k_with "mine binds" => ((with_reducible show BindsTo _ (fnX _ (Str.ofString "BaseInstr.lineno") _ _ _ _ _ _ _ _ _ _ _) _ _); exact BindsTo.of_eq (binds := [(Str.ofString "self", _), (Str.ofString "lineno", _)]) rfl)
  k_with "mine binds" => ((with_reducible show BindsTo _ (fnX _ (Str.ofString "BaseInstr.is_abs_jump") _ _ _ _ _ _ _ _ _ _ _) _ _); exact BindsTo.of_eq (binds := [(Str.ofString "self", _)]) rfl)
  k_with "mine binds" => ((with_reducible show BindsTo _ (fnX _ (Str.ofString "BaseInstr.is_forward_rel_jump") _ _ _ _ _ _ _ _ _ _ _) _ _); exact BindsTo.of_eq (binds := [(Str.ofString "self", _)]) rfl)
  k_with "mine binds" => ((with_reducible show BindsTo _ (fnX _ (Str.ofString "BaseInstr.is_backward_rel_jump") _ _ _ _ _ _ _ _ _ _ _) _ _); exact BindsTo.of_eq (binds := [(Str.ofString "self", _)]) rfl)
  k_with "mine binds" => ((with_reducible show BindsTo _ (fnX _ (Str.ofString "BaseInstr._set") _ _ _ _ _ _ _ _ _ _ _) _ _); exact BindsTo.of_eq (binds := [(Str.ofString "self", _), (Str.ofString "name", _), (Str.ofString "arg", _)]) rfl)
  k_with "mine binds" => ((with_reducible show BindsTo _ (fnX _ (Str.ofString "ConcreteInstr.__init__") _ _ _ _ _ _ _ _ _ _ _) _ _); refine Mine.bindsF (binds := [(Str.ofString "self", _), (Str.ofString "name", _), (Str.ofString "arg", _), (Str.ofString "lineno", _), (Str.ofString "location", _), (Str.ofString "extended_args", _)]) (by with_reducible assumption) (by k_asm) (by exact rfl) (by k_is) (by exact rfl) (by exact rfl) (by exact rfl))
  k_with "mine binds" => ((with_reducible show BindsTo _ (fnX _ (Str.ofString "ConcreteInstr._check_arg") _ _ _ _ _ _ _ _ _ _ _) _ _); exact BindsTo.of_eq (binds := [(Str.ofString "self", _), (Str.ofString "name", _), (Str.ofString "opcode", _), (Str.ofString "arg", _)]) rfl)
  k_with "mine binds" => ((with_reducible show BindsTo _ (fnX _ (Str.ofString "ConcreteInstr._set") _ _ _ _ _ _ _ _ _ _ _) _ _); exact BindsTo.of_eq (binds := [(Str.ofString "self", _), (Str.ofString "name", _), (Str.ofString "arg", _)]) rfl)
  k_with "mine binds" => ((with_reducible show BindsTo _ (fnX _ (Str.ofString "ConcreteInstr.size") _ _ _ _ _ _ _ _ _ _ _) _ _); exact BindsTo.of_eq (binds := [(Str.ofString "self", _)]) rfl)
  k_with "mine binds" => ((with_reducible show BindsTo _ (fnX _ (Str.ofString "ConcreteInstr._cmp_key") _ _ _ _ _ _ _ _ _ _ _) _ _); exact BindsTo.of_eq (binds := [(Str.ofString "self", _)]) rfl)
  k_with "mine binds" => ((with_reducible show BindsTo _ (fnX _ (Str.ofString "ConcreteInstr.get_jump_target") _ _ _ _ _ _ _ _ _ _ _) _ _); exact BindsTo.of_eq (binds := [(Str.ofString "self", _), (Str.ofString "instr_offset", _)]) rfl)
  k_with "mine binds" => ((with_reducible show BindsTo _ (fnX _ (Str.ofString "ConcreteInstr.assemble") _ _ _ _ _ _ _ _ _ _ _) _ _); exact BindsTo.of_eq (binds := [(Str.ofString "self", _)]) rfl)
  k_with "mine binds" => ((with_reducible show BindsTo _ (fnX _ (Str.ofString "ConcreteInstr.disassemble") _ _ _ _ _ _ _ _ _ _ _) _ _); exact BindsTo.of_eq (binds := [(Str.ofString "lineno", _), (Str.ofString "code", _), (Str.ofString "offset", _)]) rfl)
  k_with "mine binds" => ((with_reducible show BindsTo _ (fnX _ (Str.ofString "ConcreteInstr.use_cache_opcodes") _ _ _ _ _ _ _ _ _ _ _) _ _); exact BindsTo.of_eq (binds := [(Str.ofString "self", _)]) rfl)
  k_with "mine binds" => ((with_reducible show BindsTo _ (fnX _ (Str.ofString "_law_octets") _ _ _ _ _ _ _ _ _ _ _) _ _); exact BindsTo.of_eq (binds := [(Str.ofString "name", _), (Str.ofString "number", _), (Str.ofString "more", _)]) rfl)
  k_with "mine binds" => ((with_reducible show BindsTo _ (fnX _ (Str.ofString "_law_looks") _ _ _ _ _ _ _ _ _ _ _) _ _); exact BindsTo.of_eq (binds := [(Str.ofString "op", _), (Str.ofString "kind", _), (Str.ofString "number", _), (Str.ofString "more", _), (Str.ofString "at", _)]) rfl)
  k_with "mine binds" => ((with_reducible show BindsTo _ (fnX _ (Str.ofString "_law_made") _ _ _ _ _ _ _ _ _ _ _) _ _); exact BindsTo.of_eq (binds := [(Str.ofString "name", _), (Str.ofString "number", _)]) rfl)
  k_with "mine binds" => ((with_reducible show BindsTo _ (fnX _ (Str.ofString "_law_turned") _ _ _ _ _ _ _ _ _ _ _) _ _); exact BindsTo.of_eq (binds := [(Str.ofString "op", _), (Str.ofString "number", _)]) rfl)
  k_with "mine binds" => ((with_reducible show BindsTo _ (fnX _ (Str.ofString "_law_alone") _ _ _ _ _ _ _ _ _ _ _) _ _); exact BindsTo.of_eq (binds := [(Str.ofString "kind", _), (Str.ofString "number", _), (Str.ofString "at", _)]) rfl)
  k_with "exec While Compare cons nil" => (k_here; k_dflt (refine Mine.setJoin (by with_reducible assumption) (by k_asm) (by k_asm) ?_ ?_; refine whl_start 100 ?_))
  k_with "SetI" => k_dflt (first | refine Mine.SetI.intro0 (by k_asm) (by k_asm) (by exact rfl) (by refine Mine.W_s ?_; omega) | refine Mine.SetI.intro (by k_asm) (by k_asm) (by first | exact fun _ _ _ => rfl | (intro y h1 h2; simp only [if_neg h1, if_neg h2])) (by refine Mine.W_s ?_; omega))
  unfold Set2C At
  intro dp un gd cn sn sg so sm a ccd cl outer A₀ base h₀ L m news s Q E B F X N T hdp hun TD X1 D1 rest k1 k2 k3 k4 k5 k6 k7 nm op ij ar sz lo x t0 t1 t2 c n bj hnews hne hDX hop hhas hjmp hc0 hc1 hn0 hn1 hret
  subst hnews
  unfold opDict at N
  replace hDX := ltN hDX
  have hCn : CnIs c n := True.intro
  w_strict k_steps
  all_goals (refine' set2_end hret ?F ?N ?m1 ?m2 ?m3 ?m4; (case F => k_asm); (case N => k_asm); (case m1 => first | k_mem | exact List.Mem.tail _ (List.Mem.tail _ (List.Mem.head _))); (case m2 => first | k_mem | exact List.Mem.tail _ (List.Mem.tail _ (List.Mem.tail _ (List.Mem.head _)))); (case m3 => (repeat (first | exact sub_eq | refine sub_tl ?_))); (case m4 => omega))
set_option maxRecDepth 100000 in
set_option maxHeartbeats 0 in
theorem oct (w : World) (p : Program) (loose : List Str) (mean : ExcName → Option Value) (mg mb : Str → Option Value) : OctC PySem.Challenge.rw_ix0013_01.row.prog w (Mine.toy.heap_1_1 w.params) p loose mean mg mb := by
  k_with_none
  k_with "exec While Compare cons nil" => (k_here; k_dflt (refine whl_start 100 ?_))
  k_with "UnrEnd" => (k_dflt (refine Mine.unr2 (by k_asm) (by k_asm) (by k_all) ?_))
  k_with "compareOp In int ref" => (k_here; (with_reducible show wpAny _ _ (compareOp CmpOp.In (Value.int _ _) (Value.ref _)) _ _ _); k_dflt (with_reducible refine Mine.in_abs (by k_asm) (by k_asm) (by with_reducible assumption) ?_))
  k_with "callWith ref" => (k_here; (with_reducible show wpAny _ _ (callWith _ (Value.ref _) _ _ (backToKw _ _)) _ _ _); k_dflt (refine Mine.callKWM (by k_asm) (by k_asm) (by k_mem) (by k_is) (by exact rfl) ?_))
  k_with "compareOp Is" => k_dflt (first | ((with_reducible show wpAny _ _ (compareOp CmpOp.Is (Value.int _ _) (Value.ref _)) _ _ _); refine wpAny_is_other (by rfl) (by intro x; cases x) ?_) | ((with_reducible show wpAny _ _ (compareOp CmpOp.Is (Value.str _ _) (Value.ref _)) _ _ _); refine wpAny_is_other (by rfl) (by intro x; cases x) ?_))
  k_with "compareOp IsNot" => k_dflt (first | ((with_reducible show wpAny _ _ (compareOp CmpOp.IsNot (Value.int _ _) (Value.ref _)) _ _ _); refine wpAny_isNot_other (by rfl) (by intro x; cases x) ?_) | ((with_reducible show wpAny _ _ (compareOp CmpOp.IsNot (Value.str _ _) (Value.ref _)) _ _ _); refine wpAny_isNot_other (by rfl) (by intro x; cases x) ?_))
  k_with "compareOp Is ref ref" => ((with_reducible show wpAny _ _ (compareOp CmpOp.Is (Value.ref _) (Value.ref _)) _ _ _); with_reducible refine wpAny_is_ref_self ?_)
  k_with "compareOp IsNot ref ref" => ((with_reducible show wpAny _ _ (compareOp CmpOp.IsNot (Value.ref _) (Value.ref _)) _ _ _); with_reducible refine wpAny_isNot_ref_self ?_)
  k_with "loadName" => (k_here; k_dflt (refine Mine.nmLn (by kernel_rfl!) (by exact rfl) (by k_asm) (by exact rfl) ?_))
  k_with "eval Name" => k_dflt (first | refine Mine.nmL (by kernel_rfl!) (by exact rfl) (by k_asm) (by exact rfl) ?_ | refine Mine.nmK (by kernel_rfl!) (by exact rfl) (by k_asm) (by k_asm) (by k_asm) (by k_is) ?_)
  k_with "binaryOp Sub int int" => (with_reducible refine Mine.sub_g ?_; intro z hz)
  k_with "binaryOp Mult int int" => (with_reducible refine Mine.mul_g ?_; intro z hz)
  k_with "execs nil" => first | (with_reducible refine Mine.gen_toks (fun tk => ?_); with_reducible refine wpAny_execs_nil ?_) | with_reducible refine wpAny_execs_nil ?_
  k_with "execs cons" => first | (with_reducible refine Mine.gen_toks (fun tk => ?_); with_reducible refine wpAny_execs_cons ?_) | with_reducible refine wpAny_execs_cons ?_
  k_with "ite" => (k_closed; k_dflt (first | refine PySem.W.ite_pos rfl ?_ | refine PySem.W.ite_neg Bool.false_ne_true ?_ | refine PySem.W.ite_pos (by decide) ?_ | refine PySem.W.ite_neg (by decide) ?_))
  k_with "wpAt" => k_dflt (first | (ks_step "execs cons"; refine ks_wpAt_execs_cons ?_) | ((with_reducible show _root_.PySem.wpAt _ _ _ (execs _ _) _ _ _); ks_step "execs cons"; refine ks_wpAt_execs_cons ?_) | (ks_step "exec Expr"; refine ks_wpAt_Expr_any ?_) | (ks_step "eval Call"; first | ((with_reducible show _root_.PySem.wpAt _ _ _ (eval (Expr.Call _ _ [] _) _) _ _ _); refine ks_wpAt_MethodCall ?_) | refine Mine.atMethodKW ?_) | (ks_step "attributeBase Call"; refine ks_node (by k_asm) (by k_asm) (by k_asm) (by k_asm) (by k_is) (by rfl) (by rfl) (by k_inst) (by k_is) (by rfl) (by exact Mine.file_is) (by k_is) (by k_is) (by k_is) (by k_is) (by decide) (by rfl) (by rfl) (by rfl) (by rfl) (by exact Mine.top_super) (by exact Mine.boot_super) ?_; intro so' h' F' N' l1; (try k_lt l1)) | ((fail_if_success ks_step "attributeBase Call"); refine _root_.PySem.wpAt_of_wpAny ?_))
  k_with "ite" => with_reducible first | refine Mine.ite_t ?_ | refine Mine.ite_f ?_ | refine Mine.ite_nt ?_ | refine Mine.ite_nf ?_
  k_with "call type:range" => ((with_reducible rename _ = (0 : Int) ∨ _ = 1 ∨ _ = 2 => hmQ); (refine Or.elim hmQ (fun hm1 => ?_) (fun hm2 => Or.elim hm2 (fun hm1 => ?_) (fun hm1 => ?_)) <;> subst hm1))
  k_with "subscriptTail" => (k_here; (with_reducible show wpAny _ _ (subscriptTail _ _ (Value.ref _) (Value.str _ _)) _ _ _); k_dflt first | (with_reducible refine Mine.item23 (by with_reducible assumption) (by k_asm) (by k_asm) (by with_reducible assumption) ?_) | (with_reducible refine Mine.item28 (by with_reducible assumption) (by k_asm) (by k_asm) (by with_reducible assumption) ?_))
  k_with "compareOp In str ref" => (k_here; (with_reducible show wpAny _ _ (compareOp CmpOp.In (Value.str _ _) (Value.ref _)) _ _ _); k_dflt (with_reducible refine Mine.in28 (by with_reducible assumption) (by k_asm) (by k_asm) (by with_reducible assumption) ?_))
  k_with "WhlIf" => (first | (refine WhlIf.yes (decide_eq_true (by omega)) ?_) | (refine WhlIf.no (decide_eq_false (by omega)) ?_) | (refine Mine.ifDec ?_ ?_ <;> intro hw))
  k_with "binaryOp Add int int" => (with_reducible refine Mine.add_g ?_; intro z hz)
  k_with "inplaceOp Add int int" => (with_reducible refine Mine.iadd_g ?_; intro z hz)
  k_with "binaryOp Mod int int" => (with_reducible refine Mine.mod_g (by omega) ?_; intro z hz)
  k_with "binaryOp FloorDiv int int" => (with_reducible refine Mine.fdiv_g (by omega) (by decide +kernel) ?_; intro z hz)
  k_with "inplaceOp RShift int int" => (with_reducible refine Mine.irsh_g ?_; intro z hz)
  k_with "binaryOp BitAnd int int" => (with_reducible refine Mine.and_g ?_; intro z hz)
  k_with "call ref" => (k_here; k_dflt (first
    | (refine call_cls (by k_asm) (by k_asm) (by k_asm) (by k_is) (by k_is) (by k_is) ?_; intro x' d' h' F' N' l1 l2; (try k_lt l1); (try k_lt2 l2); (try k_sweep); first | k_enter | ks_enter)
    | (refine call_meth (by k_asm) (by k_mem) ?_; first | k_enter | ks_enter)
    | (refine wpAny_call ?_; first | k_enter | ks_enter)))
  k_with "mine binds" => ((with_reducible show BindsTo _ (fnX _ (Str.ofString "_check_arg_int") _ _ _ _ _ _ _ _ _ _ _) _ _); exact BindsTo.of_eq (binds := [(Str.ofString "arg", _), (Str.ofString "name", _)]) rfl)
  k_with "mine binds" => ((with_reducible show BindsTo _ (fnX _ (Str.ofString "opcode_has_argument") _ _ _ _ _ _ _ _ _ _ _) _ _); exact BindsTo.of_eq (binds := [(Str.ofString "opcode", _)]) rfl)
  k_with "mine binds" => ((with_reducible show BindsTo _ (fnX _ (Str.ofString "_check_location") _ _ _ _ _ _ _ _ _ _ _) _ _); exact BindsTo.of_eq (binds := [(Str.ofString "location", _), (Str.ofString "location_name", _), (Str.ofString "min_value", _)]) rfl)
  k_with "mine binds" => ((with_reducible show BindsTo _ (fnX _ (Str.ofString "InstrLocation.__init__") _ _ _ _ _ _ _ _ _ _ _) _ _); exact BindsTo.of_eq (binds := [(Str.ofString "self", _), (Str.ofString "lineno", _), (Str.ofString "end_lineno", _), (Str.ofString "col_offset", _), (Str.ofString "end_col_offset", _)]) rfl)
  k_with "mine binds" => ((with_reducible show BindsTo _ (fnX _ (Str.ofString "BaseInstr.__init__") _ _ _ _ _ _ _ _ _ _ _) _ _); refine Mine.bindsF (binds := [(Str.ofString "self", _), (Str.ofString "name", _), (Str.ofString "arg", _), (Str.ofString "lineno", _), (Str.ofString "location", _)]) (by with_reducible assumption) (by k_asm) (by exact rfl) (by k_is) (by exact rfl) (by exact rfl) (by exact rfl))
  k_with "mine binds" => ((with_reducible show BindsTo _ (fnX _ (Str.ofString "BaseInstr.name") _ _ _ _ _ _ _ _ _ _ _) _ _); exact BindsTo.of_eq (binds := [(Str.ofString "self", _)]) rfl)
  k_with "mine binds" => ((with_reducible show BindsTo _ (fnX _ (Str.ofString "BaseInstr.name") _ _ _ _ _ _ _ _ _ _ _) _ _); exact BindsTo.of_eq (binds := [(Str.ofString "self", _), (Str.ofString "name", _)]) rfl)
  k_with "mine binds" => ((with_reducible show BindsTo _ (fnX _ (Str.ofString "BaseInstr.arg") _ _ _ _ _ _ _ _ _ _ _) _ _); exact BindsTo.of_eq (binds := [(Str.ofString "self", _)]) rfl)
  k_with "mine binds" => ((with_reducible show BindsTo _ (fnX _ (Str.ofString "BaseInstr.arg") _ _ _ _ _ _ _ _ _ _ _) _ _); exact BindsTo.of_eq (binds := [(Str.ofString "self", _), (Str.ofString "arg", _)]) rfl)
  k_with "mine binds" => ((with_reducible show BindsTo _ (fnX _ (Str.ofString "BaseInstr.lineno") _ _ _ _ _ _ _ _ _ _ _) _ _); exact BindsTo.of_eq (binds := [(Str.ofString "self", _)]) rfl)
  k_with "mine binds" => ((with_reducible show BindsTo _ (fnX _ (Str.ofString "BaseInstr.lineno") _ _ _ _ _ _ _ _ _ _ _) _ _); exact BindsTo.of_eq (binds := [(Str.ofString "self", _), (Str.ofString "lineno", _)]) rfl)
  k_with "mine binds" => ((with_reducible show BindsTo _ (fnX _ (Str.ofString "BaseInstr.is_abs_jump") _ _ _ _ _ _ _ _ _ _ _) _ _); exact BindsTo.of_eq (binds := [(Str.ofString "self", _)]) rfl)
  k_with "mine binds" => ((with_reducible show BindsTo _ (fnX _ (Str.ofString "BaseInstr.is_forward_rel_jump") _ _ _ _ _ _ _ _ _ _ _) _ _); exact BindsTo.of_eq (binds := [(Str.ofString "self", _)]) rfl)
  k_with "mine binds" => ((with_reducible show BindsTo _ (fnX _ (Str.ofString "BaseInstr.is_backward_rel_jump") _ _ _ _ _ _ _ _ _ _ _) _ _); exact BindsTo.of_eq (binds := [(Str.ofString "self", _)]) rfl)
  k_with "mine binds" => ((with_reducible show BindsTo _ (fnX _ (Str.ofString "BaseInstr._set") _ _ _ _ _ _ _ _ _ _ _) _ _); exact BindsTo.of_eq (binds := [(Str.ofString "self", _), (Str.ofString "name", _), (Str.ofString "arg", _)]) rfl)
  k_with "mine binds" => ((with_reducible show BindsTo _ (fnX _ (Str.ofString "ConcreteInstr.__init__") _ _ _ _ _ _ _ _ _ _ _) _ _); refine Mine.bindsF (binds := [(Str.ofString "self", _), (Str.ofString "name", _), (Str.ofString "arg", _), (Str.ofString "lineno", _), (Str.ofString "location", _), (Str.ofString "extended_args", _)]) (by with_reducible assumption) (by k_asm) (by exact rfl) (by k_is) (by exact rfl) (by exact rfl) (by exact rfl))
  k_with "mine binds" => ((with_reducible show BindsTo _ (fnX _ (Str.ofString "ConcreteInstr._check_arg") _ _ _ _ _ _ _ _ _ _ _) _ _); exact BindsTo.of_eq (binds := [(Str.ofString "self", _), (Str.ofString "name", _), (Str.ofString "opcode", _), (Str.ofString "arg", _)]) rfl)
  k_with "mine binds" => ((with_reducible show BindsTo _ (fnX _ (Str.ofString "ConcreteInstr._set") _ _ _ _ _ _ _ _ _ _ _) _ _); exact BindsTo.of_eq (binds := [(Str.ofString "self", _), (Str.ofString "name", _), (Str.ofString "arg", _)]) rfl)
  k_with "mine binds" => ((with_reducible show BindsTo _ (fnX _ (Str.ofString "ConcreteInstr.size") _ _ _ _ _ _ _ _ _ _ _) _ _); exact BindsTo.of_eq (binds := [(Str.ofString "self", _)]) rfl)
  k_with "mine binds" => ((with_reducible show BindsTo _ (fnX _ (Str.ofString "ConcreteInstr._cmp_key") _ _ _ _ _ _ _ _ _ _ _) _ _); exact BindsTo.of_eq (binds := [(Str.ofString "self", _)]) rfl)
  k_with "mine binds" => ((with_reducible show BindsTo _ (fnX _ (Str.ofString "ConcreteInstr.get_jump_target") _ _ _ _ _ _ _ _ _ _ _) _ _); exact BindsTo.of_eq (binds := [(Str.ofString "self", _), (Str.ofString "instr_offset", _)]) rfl)
  k_with "mine binds" => ((with_reducible show BindsTo _ (fnX _ (Str.ofString "ConcreteInstr.assemble") _ _ _ _ _ _ _ _ _ _ _) _ _); exact BindsTo.of_eq (binds := [(Str.ofString "self", _)]) rfl)
  k_with "mine binds" => ((with_reducible show BindsTo _ (fnX _ (Str.ofString "ConcreteInstr.disassemble") _ _ _ _ _ _ _ _ _ _ _) _ _); exact BindsTo.of_eq (binds := [(Str.ofString "lineno", _), (Str.ofString "code", _), (Str.ofString "offset", _)]) rfl)
  k_with "mine binds" => ((with_reducible show BindsTo _ (fnX _ (Str.ofString "ConcreteInstr.use_cache_opcodes") _ _ _ _ _ _ _ _ _ _ _) _ _); exact BindsTo.of_eq (binds := [(Str.ofString "self", _)]) rfl)
  k_with "mine binds" => ((with_reducible show BindsTo _ (fnX _ (Str.ofString "_law_octets") _ _ _ _ _ _ _ _ _ _ _) _ _); exact BindsTo.of_eq (binds := [(Str.ofString "name", _), (Str.ofString "number", _), (Str.ofString "more", _)]) rfl)
  k_with "mine binds" => ((with_reducible show BindsTo _ (fnX _ (Str.ofString "_law_looks") _ _ _ _ _ _ _ _ _ _ _) _ _); exact BindsTo.of_eq (binds := [(Str.ofString "op", _), (Str.ofString "kind", _), (Str.ofString "number", _), (Str.ofString "more", _), (Str.ofString "at", _)]) rfl)
  k_with "mine binds" => ((with_reducible show BindsTo _ (fnX _ (Str.ofString "_law_made") _ _ _ _ _ _ _ _ _ _ _) _ _); exact BindsTo.of_eq (binds := [(Str.ofString "name", _), (Str.ofString "number", _)]) rfl)
  k_with "mine binds" => ((with_reducible show BindsTo _ (fnX _ (Str.ofString "_law_turned") _ _ _ _ _ _ _ _ _ _ _) _ _); exact BindsTo.of_eq (binds := [(Str.ofString "op", _), (Str.ofString "number", _)]) rfl)
  k_with "mine binds" => ((with_reducible show BindsTo _ (fnX _ (Str.ofString "_law_alone") _ _ _ _ _ _ _ _ _ _ _) _ _); exact BindsTo.of_eq (binds := [(Str.ofString "kind", _), (Str.ofString "number", _), (Str.ofString "at", _)]) rfl)
  k_with "exec While Compare cons nil" => (k_here; k_dflt (refine Mine.octJoin (by with_reducible assumption) (by with_reducible assumption) (by k_asm) ?_ ?_; refine whl_start 100 ?_))
  k_with "OctI" => k_dflt (first | refine Mine.OctI.intro0 (by k_asm) (by k_asm) (by k_mem) (by repeat constructor) (by assumption) (by repeat (first | exact Mine.sub_eq | refine Mine.sub_tl ?_)) (by (first | rw [Mine.octs0_1 (by omega)] | rw [Mine.octs0_2 (by omega) (by omega)] | rw [Mine.octs0_3 (by omega) (by omega)] | rw [Mine.octs0_4 (by omega)]); simp only [List.cons.injEq, and_true, true_and]; omega) (by refine Mine.W_eq ?_; omega) | refine Mine.OctI.intro (by k_asm) (by k_asm) (by k_mem) (by repeat constructor) (by first | exact fun _ _ _ _ => rfl | (intro y h1 h2 h3; simp only [if_neg h1, if_neg h2, if_neg h3])) (by assumption) (by repeat (first | exact Mine.sub_eq | refine Mine.sub_tl ?_)) (by (first | rw [Mine.octs0_1 (by omega)] | rw [Mine.octs0_2 (by omega) (by omega)] | rw [Mine.octs0_3 (by omega) (by omega)] | rw [Mine.octs0_4 (by omega)]); simp only [List.cons.injEq, and_true, true_and]; omega) (by refine Mine.W_eq ?_; omega))
  k_with "call type:bytes" => (k_here; (with_reducible show wpAny _ _ (call (Value.type "bytes") [Value.ref _]) _ _ _); k_dflt (refine Mine.bytesOcts (by k_asm) (by k_asm) (by rfl) (by k_mem) (by with_reducible assumption) (by (with_reducible rename _ = Mine.octs0 _ _ => qe); subst qe; first | exact Mine.octs_0.symm | exact Mine.octs_1.symm | exact Mine.octs_2.symm) (by assumption) (by assumption) (by decide) ?_; intro _ _ _ F' N'))
  unfold OctC At
  intro dp un gd cn sn sg so sm a ccd cl outer A₀ base h₀ L m news s Q E B F X N T hdp hun TD x t0 t1 t2 t3 c n more hop hc0 hc1 hn0 hn1 hm hret
  have hext := TD.ext
  obtain ⟨te, hext⟩ := hext
  have hNews : NewsIs news := True.intro
  have hCn : CnIs c n := True.intro
  w_strict k_steps
  all_goals (refine' oct_end hret ?F ?N ?sub ?a ?e1 ?e2; (case F => k_asm); (case N => k_asm); (case sub => (repeat (first | exact sub_eq | refine sub_tl ?_))); (case a => assumption); (case e2 => omega); (case e1 => rfl))
set_option maxRecDepth 100000 in
set_option maxHeartbeats 0 in
theorem asm (w : World) (p : Program) (loose : List Str) (mean : ExcName → Option Value) (mg mb : Str → Option Value) : AsmC PySem.Challenge.rw_ix0013_01.row.prog w (Mine.toy.heap_1_1 w.params) p loose mean mg mb := by
  k_with_none
  k_with "exec While Compare cons nil" => (k_here; k_dflt (refine whl_start 100 ?_))
  k_with "UnrEnd" => (k_dflt (refine Mine.unr2 (by k_asm) (by k_asm) (by k_all) ?_))
  k_with "compareOp In int ref" => (k_here; (with_reducible show wpAny _ _ (compareOp CmpOp.In (Value.int _ _) (Value.ref _)) _ _ _); k_dflt (with_reducible refine Mine.in_abs (by k_asm) (by k_asm) (by with_reducible assumption) ?_))
  k_with "callWith ref" => (k_here; (with_reducible show wpAny _ _ (callWith _ (Value.ref _) _ _ (backToKw _ _)) _ _ _); k_dflt (refine Mine.callKWM (by k_asm) (by k_asm) (by k_mem) (by k_is) (by exact rfl) ?_))
  k_with "compareOp Is" => k_dflt (first | ((with_reducible show wpAny _ _ (compareOp CmpOp.Is (Value.int _ _) (Value.ref _)) _ _ _); refine wpAny_is_other (by rfl) (by intro x; cases x) ?_) | ((with_reducible show wpAny _ _ (compareOp CmpOp.Is (Value.str _ _) (Value.ref _)) _ _ _); refine wpAny_is_other (by rfl) (by intro x; cases x) ?_))
  k_with "compareOp IsNot" => k_dflt (first | ((with_reducible show wpAny _ _ (compareOp CmpOp.IsNot (Value.int _ _) (Value.ref _)) _ _ _); refine wpAny_isNot_other (by rfl) (by intro x; cases x) ?_) | ((with_reducible show wpAny _ _ (compareOp CmpOp.IsNot (Value.str _ _) (Value.ref _)) _ _ _); refine wpAny_isNot_other (by rfl) (by intro x; cases x) ?_))
  k_with "compareOp Is ref ref" => ((with_reducible show wpAny _ _ (compareOp CmpOp.Is (Value.ref _) (Value.ref _)) _ _ _); with_reducible refine wpAny_is_ref_self ?_)
  k_with "compareOp IsNot ref ref" => ((with_reducible show wpAny _ _ (compareOp CmpOp.IsNot (Value.ref _) (Value.ref _)) _ _ _); with_reducible refine wpAny_isNot_ref_self ?_)
  k_with "loadName" => (k_here; k_dflt (refine Mine.nmLn (by kernel_rfl!) (by exact rfl) (by k_asm) (by exact rfl) ?_))
  k_with "eval Name" => k_dflt (first | refine Mine.nmL (by kernel_rfl!) (by exact rfl) (by k_asm) (by exact rfl) ?_ | refine Mine.nmK (by kernel_rfl!) (by exact rfl) (by k_asm) (by k_asm) (by k_asm) (by k_is) ?_)
  k_with "binaryOp Sub int int" => (with_reducible refine Mine.sub_g ?_; intro z hz)
  k_with "binaryOp Mult int int" => (with_reducible refine Mine.mul_g ?_; intro z hz)
  k_with "execs nil" => first | (with_reducible refine Mine.gen_toks (fun tk => ?_); with_reducible refine wpAny_execs_nil ?_) | with_reducible refine wpAny_execs_nil ?_
  k_with "execs cons" => first | (with_reducible refine Mine.gen_toks (fun tk => ?_); with_reducible refine wpAny_execs_cons ?_) | with_reducible refine wpAny_execs_cons ?_
  k_with "ite" => (k_closed; k_dflt (first | refine PySem.W.ite_pos rfl ?_ | refine PySem.W.ite_neg Bool.false_ne_true ?_ | refine PySem.W.ite_pos (by decide) ?_ | refine PySem.W.ite_neg (by decide) ?_))
  k_with "wpAt" => k_dflt (first | (ks_step "execs cons"; refine ks_wpAt_execs_cons ?_) | ((with_reducible show _root_.PySem.wpAt _ _ _ (execs _ _) _ _ _); ks_step "execs cons"; refine ks_wpAt_execs_cons ?_) | (ks_step "exec Expr"; refine ks_wpAt_Expr_any ?_) | (ks_step "eval Call"; first | ((with_reducible show _root_.PySem.wpAt _ _ _ (eval (Expr.Call _ _ [] _) _) _ _ _); refine ks_wpAt_MethodCall ?_) | refine Mine.atMethodKW ?_) | (ks_step "attributeBase Call"; refine ks_node (by k_asm) (by k_asm) (by k_asm) (by k_asm) (by k_is) (by rfl) (by rfl) (by k_inst) (by k_is) (by rfl) (by exact Mine.file_is) (by k_is) (by k_is) (by k_is) (by k_is) (by decide) (by rfl) (by rfl) (by rfl) (by rfl) (by exact Mine.top_super) (by exact Mine.boot_super) ?_; intro so' h' F' N' l1; (try k_lt l1)) | ((fail_if_success ks_step "attributeBase Call"); refine _root_.PySem.wpAt_of_wpAny ?_))
  k_with "ite" => with_reducible first | refine Mine.ite_t ?_ | refine Mine.ite_f ?_ | refine Mine.ite_nt ?_ | refine Mine.ite_nf ?_
  k_with "call type:range" => ((with_reducible rename _ = (0 : Int) ∨ _ = 1 ∨ _ = 2 => hmQ); (refine Or.elim hmQ (fun hm1 => ?_) (fun hm2 => Or.elim hm2 (fun hm1 => ?_) (fun hm1 => ?_)) <;> subst hm1))
  k_with "subscriptTail" => (k_here; (with_reducible show wpAny _ _ (subscriptTail _ _ (Value.ref _) (Value.str _ _)) _ _ _); k_dflt first | (with_reducible refine Mine.item23 (by with_reducible assumption) (by k_asm) (by k_asm) (by with_reducible assumption) ?_) | (with_reducible refine Mine.item28 (by with_reducible assumption) (by k_asm) (by k_asm) (by with_reducible assumption) ?_))
  k_with "compareOp In str ref" => (k_here; (with_reducible show wpAny _ _ (compareOp CmpOp.In (Value.str _ _) (Value.ref _)) _ _ _); k_dflt (with_reducible refine Mine.in28 (by with_reducible assumption) (by k_asm) (by k_asm) (by with_reducible assumption) ?_))
  k_with "WhlIf" => (first | (refine WhlIf.yes (decide_eq_true (by omega)) ?_) | (refine WhlIf.no (decide_eq_false (by omega)) ?_) | (refine Mine.ifDec ?_ ?_ <;> intro hw))
  k_with "binaryOp Add int int" => (with_reducible refine Mine.add_g ?_; intro z hz)
  k_with "inplaceOp Add int int" => (with_reducible refine Mine.iadd_g ?_; intro z hz)
  k_with "binaryOp Mod int int" => (with_reducible refine Mine.mod_g (by omega) ?_; intro z hz)
  k_with "binaryOp FloorDiv int int" => (with_reducible refine Mine.fdiv_g (by omega) (by decide +kernel) ?_; intro z hz)
  k_with "inplaceOp RShift int int" => (with_reducible refine Mine.irsh_g ?_; intro z hz)
  k_with "binaryOp BitAnd int int" => (with_reducible refine Mine.and_g ?_; intro z hz)
  k_with "call ref" => (k_here; k_dflt (first
    | (refine call_cls (by k_asm) (by k_asm) (by k_asm) (by k_is) (by k_is) (by k_is) ?_; intro x' d' h' F' N' l1 l2; (try k_lt l1); (try k_lt2 l2); (try k_sweep); first | k_enter | ks_enter)
    | (refine call_meth (by k_asm) (by k_mem) ?_; first | k_enter | ks_enter)
    | (refine wpAny_call ?_; first | k_enter | ks_enter)))
  k_with "mine binds" => ((with_reducible show BindsTo _ (fnX _ (Str.ofString "_check_arg_int") _ _ _ _ _ _ _ _ _ _ _) _ _); exact BindsTo.of_eq (binds := [(Str.ofString "arg", _), (Str.ofString "name", _)]) rfl)
  k_with "mine binds" => ((with_reducible show BindsTo _ (fnX _ (Str.ofString "opcode_has_argument") _ _ _ _ _ _ _ _ _ _ _) _ _); exact BindsTo.of_eq (binds := [(Str.ofString "opcode", _)]) rfl)
  k_with "mine binds" => ((with_reducible show BindsTo _ (fnX _ (Str.ofString "_check_location") _ _ _ _ _ _ _ _ _ _ _) _ _); exact BindsTo.of_eq (binds := [(Str.ofString "location", _), (Str.ofString "location_name", _), (Str.ofString "min_value", _)]) rfl)
  k_with "mine binds" => ((with_reducible show BindsTo _ (fnX _ (Str.ofString "InstrLocation.__init__") _ _ _ _ _ _ _ _ _ _ _) _ _); exact BindsTo.of_eq (binds := [(Str.ofString "self", _), (Str.ofString "lineno", _), (Str.ofString "end_lineno", _), (Str.ofString "col_offset", _), (Str.ofString "end_col_offset", _)]) rfl)
  k_with "mine binds" => ((with_reducible show BindsTo _ (fnX _ (Str.ofString "BaseInstr.__init__") _ _ _ _ _ _ _ _ _ _ _) _ _); refine Mine.bindsF (binds := [(Str.ofString "self", _), (Str.ofString "name", _), (Str.ofString "arg", _), (Str.ofString "lineno", _), (Str.ofString "location", _)]) (by with_reducible assumption) (by k_asm) (by exact rfl) (by k_is) (by exact rfl) (by exact rfl) (by exact rfl))
  k_with "mine binds" => ((with_reducible show BindsTo _ (fnX _ (Str.ofString "BaseInstr.name") _ _ _ _ _ _ _ _ _ _ _) _ _); exact BindsTo.of_eq (binds := [(Str.ofString "self", _)]) rfl)
  k_with "mine binds" => ((with_reducible show BindsTo _ (fnX _ (Str.ofString "BaseInstr.name") _ _ _ _ _ _ _ _ _ _ _) _ _); exact BindsTo.of_eq (binds := [(Str.ofString "self", _), (Str.ofString "name", _)]) rfl)
  k_with "mine binds" => ((with_reducible show BindsTo _ (fnX _ (Str.ofString "BaseInstr.arg") _ _ _ _ _ _ _ _ _ _ _) _ _); exact BindsTo.of_eq (binds := [(Str.ofString "self", _)]) rfl)
  k_with "mine binds" => ((with_reducible show BindsTo _ (fnX _ (Str.ofString "BaseInstr.arg") _ _ _ _ _ _ _ _ _ _ _) _ _); exact BindsTo.of_eq (binds := [(Str.ofString "self", _), (Str.ofString "arg", _)]) rfl)
  k_with "mine binds" => ((with_reducible show BindsTo _ (fnX _ (Str.ofString "BaseInstr.lineno") _ _ _ _ _ _ _ _ _ _ _) _ _); exact BindsTo.of_eq (binds := [(Str.ofString "self", _)]) rfl)
  k_with "mine binds" => ((with_reducible show BindsTo _ (fnX _ (Str.ofString "BaseInstr.lineno") _ _ _ _ _ _ _ _ _ _ _) _ _); exact BindsTo.of_eq (binds := [(Str.ofString "self", _), (Str.ofString "lineno", _)]) rfl)
  k_with "mine binds" => ((with_reducible show BindsTo _ (fnX _ (Str.ofString "BaseInstr.is_abs_jump") _ _ _ _ _ _ _ _ _ _ _) _ _); exact BindsTo.of_eq (binds := [(Str.ofString "self", _)]) rfl)
  k_with "mine binds" => ((with_reducible show BindsTo _ (fnX _ (Str.ofString "BaseInstr.is_forward_rel_jump") _ _ _ _ _ _ _ _ _ _ _) _ _); exact BindsTo.of_eq (binds := [(Str.ofString "self", _)]) rfl)
  k_with "mine binds" => ((with_reducible show BindsTo _ (fnX _ (Str.ofString "BaseInstr.is_backward_rel_jump") _ _ _ _ _ _ _ _ _ _ _) _ _); exact BindsTo.of_eq (binds := [(Str.ofString "self", _)]) rfl)
  k_with "mine binds" => ((with_reducible show BindsTo _ (fnX _ (Str.ofString "BaseInstr._set") _ _ _ _ _ _ _ _ _ _ _) _ _); exact BindsTo.of_eq (binds := [(Str.ofString "self", _), (Str.ofString "name", _), (Str.ofString "arg", _)]) rfl)
  k_with "mine binds" => ((with_reducible show BindsTo _ (fnX _ (Str.ofString "ConcreteInstr.__init__") _ _ _ _ _ _ _ _ _ _ _) _ _); refine Mine.bindsF (binds := [(Str.ofString "self", _), (Str.ofString "name", _), (Str.ofString "arg", _), (Str.ofString "lineno", _), (Str.ofString "location", _), (Str.ofString "extended_args", _)]) (by with_reducible assumption) (by k_asm) (by exact rfl) (by k_is) (by exact rfl) (by exact rfl) (by exact rfl))
  k_with "mine binds" => ((with_reducible show BindsTo _ (fnX _ (Str.ofString "ConcreteInstr._check_arg") _ _ _ _ _ _ _ _ _ _ _) _ _); exact BindsTo.of_eq (binds := [(Str.ofString "self", _), (Str.ofString "name", _), (Str.ofString "opcode", _), (Str.ofString "arg", _)]) rfl)
  k_with "mine binds" => ((with_reducible show BindsTo _ (fnX _ (Str.ofString "ConcreteInstr._set") _ _ _ _ _ _ _ _ _ _ _) _ _); exact BindsTo.of_eq (binds := [(Str.ofString "self", _), (Str.ofString "name", _), (Str.ofString "arg", _)]) rfl)
  k_with "mine binds" => ((with_reducible show BindsTo _ (fnX _ (Str.ofString "ConcreteInstr.size") _ _ _ _ _ _ _ _ _ _ _) _ _); exact BindsTo.of_eq (binds := [(Str.ofString "self", _)]) rfl)
  k_with "mine binds" => ((with_reducible show BindsTo _ (fnX _ (Str.ofString "ConcreteInstr._cmp_key") _ _ _ _ _ _ _ _ _ _ _) _ _); exact BindsTo.of_eq (binds := [(Str.ofString "self", _)]) rfl)
  k_with "mine binds" => ((with_reducible show BindsTo _ (fnX _ (Str.ofString "ConcreteInstr.get_jump_target") _ _ _ _ _ _ _ _ _ _ _) _ _); exact BindsTo.of_eq (binds := [(Str.ofString "self", _), (Str.ofString "instr_offset", _)]) rfl)
  k_with "mine binds" => ((with_reducible show BindsTo _ (fnX _ (Str.ofString "ConcreteInstr.assemble") _ _ _ _ _ _ _ _ _ _ _) _ _); exact BindsTo.of_eq (binds := [(Str.ofString "self", _)]) rfl)
  k_with "mine binds" => ((with_reducible show BindsTo _ (fnX _ (Str.ofString "ConcreteInstr.disassemble") _ _ _ _ _ _ _ _ _ _ _) _ _); exact BindsTo.of_eq (binds := [(Str.ofString "lineno", _), (Str.ofString "code", _), (Str.ofString "offset", _)]) rfl)
  k_with "mine binds" => ((with_reducible show BindsTo _ (fnX _ (Str.ofString "ConcreteInstr.use_cache_opcodes") _ _ _ _ _ _ _ _ _ _ _) _ _); exact BindsTo.of_eq (binds := [(Str.ofString "self", _)]) rfl)
  k_with "mine binds" => ((with_reducible show BindsTo _ (fnX _ (Str.ofString "_law_octets") _ _ _ _ _ _ _ _ _ _ _) _ _); exact BindsTo.of_eq (binds := [(Str.ofString "name", _), (Str.ofString "number", _), (Str.ofString "more", _)]) rfl)
  k_with "mine binds" => ((with_reducible show BindsTo _ (fnX _ (Str.ofString "_law_looks") _ _ _ _ _ _ _ _ _ _ _) _ _); exact BindsTo.of_eq (binds := [(Str.ofString "op", _), (Str.ofString "kind", _), (Str.ofString "number", _), (Str.ofString "more", _), (Str.ofString "at", _)]) rfl)
  k_with "mine binds" => ((with_reducible show BindsTo _ (fnX _ (Str.ofString "_law_made") _ _ _ _ _ _ _ _ _ _ _) _ _); exact BindsTo.of_eq (binds := [(Str.ofString "name", _), (Str.ofString "number", _)]) rfl)
  k_with "mine binds" => ((with_reducible show BindsTo _ (fnX _ (Str.ofString "_law_turned") _ _ _ _ _ _ _ _ _ _ _) _ _); exact BindsTo.of_eq (binds := [(Str.ofString "op", _), (Str.ofString "number", _)]) rfl)
  k_with "mine binds" => ((with_reducible show BindsTo _ (fnX _ (Str.ofString "_law_alone") _ _ _ _ _ _ _ _ _ _ _) _ _); exact BindsTo.of_eq (binds := [(Str.ofString "kind", _), (Str.ofString "number", _), (Str.ofString "at", _)]) rfl)
  k_with "exec While Compare cons nil" => ((with_reducible show wpAny _ _ (exec (Stmt.While (Expr.Compare (Expr.Name _ _) _ _ _) _ _ _) _) _ _ _); k_dflt (refine Mine.asmJoin (by with_reducible assumption) (by with_reducible assumption) (by k_asm) ?_ ?_; refine whl_start 100 ?_))
  k_with "exec While Compare cons nil" => ((with_reducible show wpAny _ _ (exec (Stmt.While (Expr.Compare (Expr.Call _ _ _ _) _ _ _) _ _ _) _) _ _ _); (with_reducible rename _ = (0 : Int) ∨ _ = 1 ∨ _ = 2 => hmQ); (refine Or.elim hmQ (fun hm1 => ?_) (fun hm2 => Or.elim hm2 (fun hm1 => ?_) (fun hm1 => ?_)) <;> (subst hm1; k_dflt (refine whl_start 100 ?_))))
  k_with "AsmI" => k_dflt (refine Mine.AsmI.intro (by k_asm) (by k_asm) (by k_mem) (by repeat constructor) (by first | exact fun _ _ _ => rfl | (intro y h1 h2; simp only [if_neg h1, if_neg h2])) (by assumption) (by repeat (first | exact Mine.sub_eq | refine Mine.sub_tl ?_)) (by (first | rw [Mine.octs0_1 (by omega)] | rw [Mine.octs0_2 (by omega) (by omega)] | rw [Mine.octs0_3 (by omega) (by omega)] | rw [Mine.octs0_4 (by omega)]); simp only [List.cons.injEq, and_true, true_and]; omega))
  k_with "getAttr ref" => ((with_reducible show wpAny _ _ (getAttr _ (Str.ofString "_extended_args") _) _ _ _); (with_reducible rename ((_ = Value.none ∧ _) ∨ _) => hE); rcases hE with ⟨hE1, hE2⟩ | ⟨e, te, hE1, hE2, hE3⟩ <;> (first | subst hE1 hE2 | subst hE1))
  k_with "call type:bytes" => (k_here; (with_reducible show wpAny _ _ (call (Value.type "bytes") [Value.ref _]) _ _ _); k_dflt (refine Mine.bytesOcts (by k_asm) (by k_asm) (by rfl) (by k_mem) (by with_reducible assumption) (by (with_reducible rename _ = Mine.octs0 _ _ => qe); subst qe; first | exact Mine.octs_0.symm | exact Mine.octs_1.symm | exact Mine.octs_2.symm) (by assumption) (by assumption) (by decide) ?_; intro _ _ _ F' N'))
  unfold AsmC At
  intro dp un gd cn sn sg so sm a ccd cl outer A₀ base h₀ L m news s Q E B F X N T hdp hun X1 D1 x k1 k2 k3 k4 k5 k6 k7 t0 t1 t2 ts c n more sz bj ext lo hx hd hc0 hc1 hn0 hn1 hsz hext hret
  unfold opDict at hd
  have hNews : NewsIs news := True.intro
  have hCn : CnIs c n := True.intro
  w_strict k_steps
  all_goals refine asm_end hret (by k_asm) (by k_asm) (by repeat (first | exact sub_eq | refine sub_tl ?_)) (by first | rfl | (rw [show more = 0 by omega]))
set_option maxRecDepth 100000 in
set_option maxHeartbeats 0 in
theorem ctor (w : World) (p : Program) (loose : List Str) (mean : ExcName → Option Value) (mg mb : Str → Option Value) : CtorC PySem.Challenge.rw_ix0013_01.row.prog w (Mine.toy.heap_1_1 w.params) p loose mean mg mb := by
  k_with_none
  k_with "exec While Compare cons nil" => (k_here; k_dflt (refine whl_start 100 ?_))
  k_with "UnrEnd" => (k_dflt (refine Mine.unr2 (by k_asm) (by k_asm) (by k_all) ?_))
  k_with "compareOp In int ref" => (k_here; (with_reducible show wpAny _ _ (compareOp CmpOp.In (Value.int _ _) (Value.ref _)) _ _ _); k_dflt (with_reducible refine Mine.in_abs (by k_asm) (by k_asm) (by with_reducible assumption) ?_))
  k_with "callWith ref" => (k_here; (with_reducible show wpAny _ _ (callWith _ (Value.ref _) _ _ (backToKw _ _)) _ _ _); k_dflt (refine Mine.callKWM (by k_asm) (by k_asm) (by k_mem) (by k_is) (by exact rfl) ?_))
  k_with "compareOp Is" => k_dflt (first | ((with_reducible show wpAny _ _ (compareOp CmpOp.Is (Value.int _ _) (Value.ref _)) _ _ _); refine wpAny_is_other (by rfl) (by intro x; cases x) ?_) | ((with_reducible show wpAny _ _ (compareOp CmpOp.Is (Value.str _ _) (Value.ref _)) _ _ _); refine wpAny_is_other (by rfl) (by intro x; cases x) ?_))
  k_with "compareOp IsNot" => k_dflt (first | ((with_reducible show wpAny _ _ (compareOp CmpOp.IsNot (Value.int _ _) (Value.ref _)) _ _ _); refine wpAny_isNot_other (by rfl) (by intro x; cases x) ?_) | ((with_reducible show wpAny _ _ (compareOp CmpOp.IsNot (Value.str _ _) (Value.ref _)) _ _ _); refine wpAny_isNot_other (by rfl) (by intro x; cases x) ?_))
  k_with "compareOp Is ref ref" => ((with_reducible show wpAny _ _ (compareOp CmpOp.Is (Value.ref _) (Value.ref _)) _ _ _); with_reducible refine wpAny_is_ref_self ?_)
  k_with "compareOp IsNot ref ref" => ((with_reducible show wpAny _ _ (compareOp CmpOp.IsNot (Value.ref _) (Value.ref _)) _ _ _); with_reducible refine wpAny_isNot_ref_self ?_)
  k_with "loadName" => (k_here; k_dflt (refine Mine.nmLn (by kernel_rfl!) (by exact rfl) (by k_asm) (by exact rfl) ?_))
  k_with "eval Name" => k_dflt (first | refine Mine.nmL (by kernel_rfl!) (by exact rfl) (by k_asm) (by exact rfl) ?_ | refine Mine.nmK (by kernel_rfl!) (by exact rfl) (by k_asm) (by k_asm) (by k_asm) (by k_is) ?_)
  k_with "binaryOp Sub int int" => (with_reducible refine Mine.sub_g ?_; intro z hz)
  k_with "binaryOp Mult int int" => (with_reducible refine Mine.mul_g ?_; intro z hz)
  k_with "execs nil" => first | (with_reducible refine Mine.gen_toks (fun tk => ?_); with_reducible refine wpAny_execs_nil ?_) | with_reducible refine wpAny_execs_nil ?_
  k_with "execs cons" => first | (with_reducible refine Mine.gen_toks (fun tk => ?_); with_reducible refine wpAny_execs_cons ?_) | with_reducible refine wpAny_execs_cons ?_
  k_with "ite" => (k_closed; k_dflt (first | refine PySem.W.ite_pos rfl ?_ | refine PySem.W.ite_neg Bool.false_ne_true ?_ | refine PySem.W.ite_pos (by decide) ?_ | refine PySem.W.ite_neg (by decide) ?_))
  k_with "wpAt" => k_dflt (first | (ks_step "execs cons"; refine ks_wpAt_execs_cons ?_) | ((with_reducible show _root_.PySem.wpAt _ _ _ (execs _ _) _ _ _); ks_step "execs cons"; refine ks_wpAt_execs_cons ?_) | (ks_step "exec Expr"; refine ks_wpAt_Expr_any ?_) | (ks_step "eval Call"; first | ((with_reducible show _root_.PySem.wpAt _ _ _ (eval (Expr.Call _ _ [] _) _) _ _ _); refine ks_wpAt_MethodCall ?_) | refine Mine.atMethodKW ?_) | (ks_step "attributeBase Call"; refine ks_node (by k_asm) (by k_asm) (by k_asm) (by k_asm) (by k_is) (by rfl) (by rfl) (by k_inst) (by k_is) (by rfl) (by exact Mine.file_is) (by k_is) (by k_is) (by k_is) (by k_is) (by decide) (by rfl) (by rfl) (by rfl) (by rfl) (by exact Mine.top_super) (by exact Mine.boot_super) ?_; intro so' h' F' N' l1; (try k_lt l1)) | ((fail_if_success ks_step "attributeBase Call"); refine _root_.PySem.wpAt_of_wpAny ?_))
  k_with "ite" => with_reducible first | refine Mine.ite_t ?_ | refine Mine.ite_f ?_ | refine Mine.ite_nt ?_ | refine Mine.ite_nf ?_
  k_with "call type:range" => ((with_reducible rename _ = (0 : Int) ∨ _ = 1 ∨ _ = 2 => hmQ); (refine Or.elim hmQ (fun hm1 => ?_) (fun hm2 => Or.elim hm2 (fun hm1 => ?_) (fun hm1 => ?_)) <;> subst hm1))
  k_with "subscriptTail" => (k_here; (with_reducible show wpAny _ _ (subscriptTail _ _ (Value.ref _) (Value.str _ _)) _ _ _); k_dflt first | (with_reducible refine Mine.item23 (by with_reducible assumption) (by k_asm) (by k_asm) (by with_reducible assumption) ?_) | (with_reducible refine Mine.item28 (by with_reducible assumption) (by k_asm) (by k_asm) (by with_reducible assumption) ?_))
  k_with "compareOp In str ref" => (k_here; (with_reducible show wpAny _ _ (compareOp CmpOp.In (Value.str _ _) (Value.ref _)) _ _ _); k_dflt (with_reducible refine Mine.in28 (by with_reducible assumption) (by k_asm) (by k_asm) (by with_reducible assumption) ?_))
  k_with "WhlIf" => (first | (refine WhlIf.yes (decide_eq_true (by omega)) ?_) | (refine WhlIf.no (decide_eq_false (by omega)) ?_) | (refine Mine.ifDec ?_ ?_ <;> intro hw))
  k_with "binaryOp Add int int" => (with_reducible refine Mine.add_g ?_; intro z hz)
  k_with "inplaceOp Add int int" => (with_reducible refine Mine.iadd_g ?_; intro z hz)
  k_with "binaryOp Mod int int" => (with_reducible refine Mine.mod_g (by omega) ?_; intro z hz)
  k_with "binaryOp FloorDiv int int" => (with_reducible refine Mine.fdiv_g (by omega) (by decide +kernel) ?_; intro z hz)
  k_with "inplaceOp RShift int int" => (with_reducible refine Mine.irsh_g ?_; intro z hz)
  k_with "binaryOp BitAnd int int" => (with_reducible refine Mine.and_g ?_; intro z hz)
  k_with "call ref" => (k_here; k_dflt (first
    | (refine call_cls (by k_asm) (by k_asm) (by k_asm) (by k_is) (by k_is) (by k_is) ?_; intro x' d' h' F' N' l1 l2; (try k_lt l1); (try k_lt2 l2); (try k_sweep); first | k_enter | ks_enter)
    | (refine call_meth (by k_asm) (by k_mem) ?_; first | k_enter | ks_enter)
    | (refine wpAny_call ?_; first | k_enter | ks_enter)))
  k_with "mine binds" => ((with_reducible show BindsTo _ (fnX _ (Str.ofString "_check_arg_int") _ _ _ _ _ _ _ _ _ _ _) _ _); exact BindsTo.of_eq (binds := [(Str.ofString "arg", _), (Str.ofString "name", _)]) rfl)
  k_with "mine binds" => ((with_reducible show BindsTo _ (fnX _ (Str.ofString "opcode_has_argument") _ _ _ _ _ _ _ _ _ _ _) _ _); exact BindsTo.of_eq (binds := [(Str.ofString "opcode", _)]) rfl)
  k_with "mine binds" => ((with_reducible show BindsTo _ (fnX _ (Str.ofString "_check_location") _ _ _ _ _ _ _ _ _ _ _) _ _); exact BindsTo.of_eq (binds := [(Str.ofString "location", _), (Str.ofString "location_name", _), (Str.ofString "min_value", _)]) rfl)
  k_with "mine binds" => ((with_reducible show BindsTo _ (fnX _ (Str.ofString "InstrLocation.__init__") _ _ _ _ _ _ _ _ _ _ _) _ _); exact BindsTo.of_eq (binds := [(Str.ofString "self", _), (Str.ofString "lineno", _), (Str.ofString "end_lineno", _), (Str.ofString "col_offset", _), (Str.ofString "end_col_offset", _)]) rfl)
  k_with "mine binds" => ((with_reducible show BindsTo _ (fnX _ (Str.ofString "BaseInstr.__init__") _ _ _ _ _ _ _ _ _ _ _) _ _); refine Mine.bindsF (binds := [(Str.ofString "self", _), (Str.ofString "name", _), (Str.ofString "arg", _), (Str.ofString "lineno", _), (Str.ofString "location", _)]) (by with_reducible assumption) (by k_asm) (by exact rfl) (by k_is) (by exact rfl) (by exact rfl) (by exact rfl))
  k_with "mine binds" => ((with_reducible show BindsTo _ (fnX _ (Str.ofString "BaseInstr.name") _ _ _ _ _ _ _ _ _ _ _) _ _); exact BindsTo.of_eq (binds := [(Str.ofString "self", _)]) rfl)
  k_with "mine binds" => ((with_reducible show BindsTo _ (fnX _ (Str.ofString "BaseInstr.name") _ _ _ _ _ _ _ _ _ _ _) _ _); exact BindsTo.of_eq (binds := [(Str.ofString "self", _), (Str.ofString "name", _)]) rfl)
  k_with "mine binds" => ((with_reducible show BindsTo _ (fnX _ (Str.ofString "BaseInstr.arg") _ _ _ _ _ _ _ _ _ _ _) _ _); exact BindsTo.of_eq (binds := [(Str.ofString "self", _)]) rfl)
  k_with "mine binds" => ((with_reducible show BindsTo _ (fnX _ (Str.ofString "BaseInstr.arg") _ _ _ _ _ _ _ _ _ _ _) _ _); exact BindsTo.of_eq (binds := [(Str.ofString "self", _), (Str.ofString "arg", _)]) rfl)
  k_with "mine binds" => ((with_reducible show BindsTo _ (fnX _ (Str.ofString "BaseInstr.lineno") _ _ _ _ _ _ _ _ _ _ _) _ _); exact BindsTo.of_eq (binds := [(Str.ofString "self", _)]) rfl)
  k_with "mine binds" => ((with_reducible show BindsTo _ (fnX _ (Str.ofString "BaseInstr.lineno") _ _ _ _ _ _ _ _ _ _ _) _ _); exact BindsTo.of_eq (binds := [(Str.ofString "self", _), (Str.ofString "lineno", _)]) rfl)
  k_with "mine binds" => ((with_reducible show BindsTo _ (fnX _ (Str.ofString "BaseInstr.is_abs_jump") _ _ _ _ _ _ _ _ _ _ _) _ _); exact BindsTo.of_eq (binds := [(Str.ofString "self", _)]) rfl)
  k_with "mine binds" => ((with_reducible show BindsTo _ (fnX _ (Str.ofString "BaseInstr.is_forward_rel_jump") _ _ _ _ _ _ _ _ _ _ _) _ _); exact BindsTo.of_eq (binds := [(Str.ofString "self", _)]) rfl)
  k_with "mine binds" => ((with_reducible show BindsTo _ (fnX _ (Str.ofString "BaseInstr.is_backward_rel_jump") _ _ _ _ _ _ _ _ _ _ _) _ _); exact BindsTo.of_eq (binds := [(Str.ofString "self", _)]) rfl)
  k_with "mine binds" => ((with_reducible show BindsTo _ (fnX _ (Str.ofString "BaseInstr._set") _ _ _ _ _ _ _ _ _ _ _) _ _); exact BindsTo.of_eq (binds := [(Str.ofString "self", _), (Str.ofString "name", _), (Str.ofString "arg", _)]) rfl)
  k_with "mine binds" => ((with_reducible show BindsTo _ (fnX _ (Str.ofString "ConcreteInstr.__init__") _ _ _ _ _ _ _ _ _ _ _) _ _); refine Mine.bindsF (binds := [(Str.ofString "self", _), (Str.ofString "name", _), (Str.ofString "arg", _), (Str.ofString "lineno", _), (Str.ofString "location", _), (Str.ofString "extended_args", _)]) (by with_reducible assumption) (by k_asm) (by exact rfl) (by k_is) (by exact rfl) (by exact rfl) (by exact rfl))
  k_with "mine binds" => ((with_reducible show BindsTo _ (fnX _ (Str.ofString "ConcreteInstr._check_arg") _ _ _ _ _ _ _ _ _ _ _) _ _); exact BindsTo.of_eq (binds := [(Str.ofString "self", _), (Str.ofString "name", _), (Str.ofString "opcode", _), (Str.ofString "arg", _)]) rfl)
  k_with "mine binds" => ((with_reducible show BindsTo _ (fnX _ (Str.ofString "ConcreteInstr._set") _ _ _ _ _ _ _ _ _ _ _) _ _); exact BindsTo.of_eq (binds := [(Str.ofString "self", _), (Str.ofString "name", _), (Str.ofString "arg", _)]) rfl)
  k_with "mine binds" => ((with_reducible show BindsTo _ (fnX _ (Str.ofString "ConcreteInstr.size") _ _ _ _ _ _ _ _ _ _ _) _ _); exact BindsTo.of_eq (binds := [(Str.ofString "self", _)]) rfl)
  k_with "mine binds" => ((with_reducible show BindsTo _ (fnX _ (Str.ofString "ConcreteInstr._cmp_key") _ _ _ _ _ _ _ _ _ _ _) _ _); exact BindsTo.of_eq (binds := [(Str.ofString "self", _)]) rfl)
  k_with "mine binds" => ((with_reducible show BindsTo _ (fnX _ (Str.ofString "ConcreteInstr.get_jump_target") _ _ _ _ _ _ _ _ _ _ _) _ _); exact BindsTo.of_eq (binds := [(Str.ofString "self", _), (Str.ofString "instr_offset", _)]) rfl)
  k_with "mine binds" => ((with_reducible show BindsTo _ (fnX _ (Str.ofString "ConcreteInstr.assemble") _ _ _ _ _ _ _ _ _ _ _) _ _); exact BindsTo.of_eq (binds := [(Str.ofString "self", _)]) rfl)
  k_with "mine binds" => ((with_reducible show BindsTo _ (fnX _ (Str.ofString "ConcreteInstr.disassemble") _ _ _ _ _ _ _ _ _ _ _) _ _); exact BindsTo.of_eq (binds := [(Str.ofString "lineno", _), (Str.ofString "code", _), (Str.ofString "offset", _)]) rfl)
  k_with "mine binds" => ((with_reducible show BindsTo _ (fnX _ (Str.ofString "ConcreteInstr.use_cache_opcodes") _ _ _ _ _ _ _ _ _ _ _) _ _); exact BindsTo.of_eq (binds := [(Str.ofString "self", _)]) rfl)
  k_with "mine binds" => ((with_reducible show BindsTo _ (fnX _ (Str.ofString "_law_octets") _ _ _ _ _ _ _ _ _ _ _) _ _); exact BindsTo.of_eq (binds := [(Str.ofString "name", _), (Str.ofString "number", _), (Str.ofString "more", _)]) rfl)
  k_with "mine binds" => ((with_reducible show BindsTo _ (fnX _ (Str.ofString "_law_looks") _ _ _ _ _ _ _ _ _ _ _) _ _); exact BindsTo.of_eq (binds := [(Str.ofString "op", _), (Str.ofString "kind", _), (Str.ofString "number", _), (Str.ofString "more", _), (Str.ofString "at", _)]) rfl)
  k_with "mine binds" => ((with_reducible show BindsTo _ (fnX _ (Str.ofString "_law_made") _ _ _ _ _ _ _ _ _ _ _) _ _); exact BindsTo.of_eq (binds := [(Str.ofString "name", _), (Str.ofString "number", _)]) rfl)
  k_with "mine binds" => ((with_reducible show BindsTo _ (fnX _ (Str.ofString "_law_turned") _ _ _ _ _ _ _ _ _ _ _) _ _); exact BindsTo.of_eq (binds := [(Str.ofString "op", _), (Str.ofString "number", _)]) rfl)
  k_with "mine binds" => ((with_reducible show BindsTo _ (fnX _ (Str.ofString "_law_alone") _ _ _ _ _ _ _ _ _ _ _) _ _); exact BindsTo.of_eq (binds := [(Str.ofString "kind", _), (Str.ofString "number", _), (Str.ofString "at", _)]) rfl)
  k_with "call ref" => ((with_reducible show wpAny _ _ (call (Value.ref 343) _) _ _ _); k_dflt (refine Mine.SetC.use (by with_reducible assumption) (by k_asm) (by k_asm) (by with_reducible assumption) (by k_asm) (by with_reducible assumption) (by ktr_room) (by ktr_units) (by with_reducible assumption) (by with_reducible assumption) (by k_mem) (by k_mem) (by repeat (first | exact Mine.sub_eq | refine Mine.sub_tl ?_)) (by assumption) (by assumption) (by with_reducible assumption) (by with_reducible assumption) (by with_reducible assumption) (by assumption) (by assumption) (by assumption) (by assumption) (by first | exact Or.inl ⟨rfl, rfl⟩ | exact Or.inr ⟨_, _, rfl, rfl⟩) ?_; intro k2' k3' k4' k5' k6' ts' h' tk' F' N'; (try k_sweep)))
  unfold CtorC At
  intro dp un gd cn sn sg so sm a ccd cl outer A₀ base h₀ L m news s Q E B F X N T hdp hun TD x t0 t1 t2 c n bj kw ext sz hop hhas hjmp hc0 hc1 hn0 hn1 hkw hret
  have hNews : NewsIs news := True.intro
  have CS := set w p loose mean mg mb
  rcases hkw with ⟨rfl, rfl, rfl⟩ | ⟨e, te, rfl, rfl, rfl⟩
  w_strict k_steps
  all_goals (refine' ctor_end hret ?F ?N ?m1 ?m2 ?sub ?a ?l ?e; (case F => k_asm); (case N => k_asm); (case m1 => first | exact List.Mem.head _ | exact List.Mem.tail _ (List.Mem.head _) | exact List.Mem.tail _ (List.Mem.tail _ (List.Mem.head _)) | k_mem); (case m2 => first | exact List.Mem.head _ | exact List.Mem.tail _ (List.Mem.head _) | exact List.Mem.tail _ (List.Mem.tail _ (List.Mem.head _)) | exact List.Mem.tail _ (List.Mem.tail _ (List.Mem.tail _ (List.Mem.head _))) | k_mem); (case sub => (repeat (first | exact sub_eq | refine sub_tl ?_))); (case a => assumption); (case l => assumption); (case e => rfl))
set_option maxRecDepth 100000 in
set_option maxHeartbeats 0 in
theorem ctorU (w : World) (p : Program) (loose : List Str) (mean : ExcName → Option Value) (mg mb : Str → Option Value) : CtorUC PySem.Challenge.rw_ix0013_01.row.prog w (Mine.toy.heap_1_1 w.params) p loose mean mg mb := by
  k_with_none
  k_with "exec While Compare cons nil" => (k_here; k_dflt (refine whl_start 100 ?_))
  k_with "UnrEnd" => (k_dflt (refine Mine.unr2 (by k_asm) (by k_asm) (by k_all) ?_))
  k_with "compareOp In int ref" => (k_here; (with_reducible show wpAny _ _ (compareOp CmpOp.In (Value.int _ _) (Value.ref _)) _ _ _); k_dflt (with_reducible refine Mine.in_abs (by k_asm) (by k_asm) (by with_reducible assumption) ?_))
  k_with "callWith ref" => (k_here; (with_reducible show wpAny _ _ (callWith _ (Value.ref _) _ _ (backToKw _ _)) _ _ _); k_dflt (refine Mine.callKWM (by k_asm) (by k_asm) (by k_mem) (by k_is) (by exact rfl) ?_))
  k_with "compareOp Is" => k_dflt (first | ((with_reducible show wpAny _ _ (compareOp CmpOp.Is (Value.int _ _) (Value.ref _)) _ _ _); refine wpAny_is_other (by rfl) (by intro x; cases x) ?_) | ((with_reducible show wpAny _ _ (compareOp CmpOp.Is (Value.str _ _) (Value.ref _)) _ _ _); refine wpAny_is_other (by rfl) (by intro x; cases x) ?_))
  k_with "compareOp IsNot" => k_dflt (first | ((with_reducible show wpAny _ _ (compareOp CmpOp.IsNot (Value.int _ _) (Value.ref _)) _ _ _); refine wpAny_isNot_other (by rfl) (by intro x; cases x) ?_) | ((with_reducible show wpAny _ _ (compareOp CmpOp.IsNot (Value.str _ _) (Value.ref _)) _ _ _); refine wpAny_isNot_other (by rfl) (by intro x; cases x) ?_))
  k_with "compareOp Is ref ref" => ((with_reducible show wpAny _ _ (compareOp CmpOp.Is (Value.ref _) (Value.ref _)) _ _ _); with_reducible refine wpAny_is_ref_self ?_)
  k_with "compareOp IsNot ref ref" => ((with_reducible show wpAny _ _ (compareOp CmpOp.IsNot (Value.ref _) (Value.ref _)) _ _ _); with_reducible refine wpAny_isNot_ref_self ?_)
  k_with "loadName" => (k_here; k_dflt (refine Mine.nmLn (by kernel_rfl!) (by exact rfl) (by k_asm) (by exact rfl) ?_))
  k_with "eval Name" => k_dflt (first | refine Mine.nmL (by kernel_rfl!) (by exact rfl) (by k_asm) (by exact rfl) ?_ | refine Mine.nmK (by kernel_rfl!) (by exact rfl) (by k_asm) (by k_asm) (by k_asm) (by k_is) ?_)
  k_with "binaryOp Sub int int" => (with_reducible refine Mine.sub_g ?_; intro z hz)
  k_with "binaryOp Mult int int" => (with_reducible refine Mine.mul_g ?_; intro z hz)
  k_with "execs nil" => first | (with_reducible refine Mine.gen_toks (fun tk => ?_); with_reducible refine wpAny_execs_nil ?_) | with_reducible refine wpAny_execs_nil ?_
  k_with "execs cons" => first | (with_reducible refine Mine.gen_toks (fun tk => ?_); with_reducible refine wpAny_execs_cons ?_) | with_reducible refine wpAny_execs_cons ?_
  k_with "ite" => (k_closed; k_dflt (first | refine PySem.W.ite_pos rfl ?_ | refine PySem.W.ite_neg Bool.false_ne_true ?_ | refine PySem.W.ite_pos (by decide) ?_ | refine PySem.W.ite_neg (by decide) ?_))
  k_with "wpAt" => k_dflt (first | (ks_step "execs cons"; refine ks_wpAt_execs_cons ?_) | ((with_reducible show _root_.PySem.wpAt _ _ _ (execs _ _) _ _ _); ks_step "execs cons"; refine ks_wpAt_execs_cons ?_) | (ks_step "exec Expr"; refine ks_wpAt_Expr_any ?_) | (ks_step "eval Call"; first | ((with_reducible show _root_.PySem.wpAt _ _ _ (eval (Expr.Call _ _ [] _) _) _ _ _); refine ks_wpAt_MethodCall ?_) | refine Mine.atMethodKW ?_) | (ks_step "attributeBase Call"; refine ks_node (by k_asm) (by k_asm) (by k_asm) (by k_asm) (by k_is) (by rfl) (by rfl) (by k_inst) (by k_is) (by rfl) (by exact Mine.file_is) (by k_is) (by k_is) (by k_is) (by k_is) (by decide) (by rfl) (by rfl) (by rfl) (by rfl) (by exact Mine.top_super) (by exact Mine.boot_super) ?_; intro so' h' F' N' l1; (try k_lt l1)) | ((fail_if_success ks_step "attributeBase Call"); refine _root_.PySem.wpAt_of_wpAny ?_))
  k_with "ite" => with_reducible first | refine Mine.ite_t ?_ | refine Mine.ite_f ?_ | refine Mine.ite_nt ?_ | refine Mine.ite_nf ?_
  k_with "call type:range" => ((with_reducible rename _ = (0 : Int) ∨ _ = 1 ∨ _ = 2 => hmQ); (refine Or.elim hmQ (fun hm1 => ?_) (fun hm2 => Or.elim hm2 (fun hm1 => ?_) (fun hm1 => ?_)) <;> subst hm1))
  k_with "subscriptTail" => (k_here; (with_reducible show wpAny _ _ (subscriptTail _ _ (Value.ref _) (Value.str _ _)) _ _ _); k_dflt first | (with_reducible refine Mine.item23 (by with_reducible assumption) (by k_asm) (by k_asm) (by with_reducible assumption) ?_) | (with_reducible refine Mine.item28 (by with_reducible assumption) (by k_asm) (by k_asm) (by with_reducible assumption) ?_))
  k_with "compareOp In str ref" => (k_here; (with_reducible show wpAny _ _ (compareOp CmpOp.In (Value.str _ _) (Value.ref _)) _ _ _); k_dflt (with_reducible refine Mine.in28 (by with_reducible assumption) (by k_asm) (by k_asm) (by with_reducible assumption) ?_))
  k_with "WhlIf" => (first | (refine WhlIf.yes (decide_eq_true (by omega)) ?_) | (refine WhlIf.no (decide_eq_false (by omega)) ?_) | (refine Mine.ifDec ?_ ?_ <;> intro hw))
  k_with "binaryOp Add int int" => (with_reducible refine Mine.add_g ?_; intro z hz)
  k_with "inplaceOp Add int int" => (with_reducible refine Mine.iadd_g ?_; intro z hz)
  k_with "binaryOp Mod int int" => (with_reducible refine Mine.mod_g (by omega) ?_; intro z hz)
  k_with "binaryOp FloorDiv int int" => (with_reducible refine Mine.fdiv_g (by omega) (by decide +kernel) ?_; intro z hz)
  k_with "inplaceOp RShift int int" => (with_reducible refine Mine.irsh_g ?_; intro z hz)
  k_with "binaryOp BitAnd int int" => (with_reducible refine Mine.and_g ?_; intro z hz)
  k_with "call ref" => (k_here; k_dflt (first
    | (refine call_cls (by k_asm) (by k_asm) (by k_asm) (by k_is) (by k_is) (by k_is) ?_; intro x' d' h' F' N' l1 l2; (try k_lt l1); (try k_lt2 l2); (try k_sweep); first | k_enter | ks_enter)
    | (refine call_meth (by k_asm) (by k_mem) ?_; first | k_enter | ks_enter)
    | (refine wpAny_call ?_; first | k_enter | ks_enter)))
  k_with "mine binds" => ((with_reducible show BindsTo _ (fnX _ (Str.ofString "_check_arg_int") _ _ _ _ _ _ _ _ _ _ _) _ _); exact BindsTo.of_eq (binds := [(Str.ofString "arg", _), (Str.ofString "name", _)]) rfl)
  k_with "mine binds" => ((with_reducible show BindsTo _ (fnX _ (Str.ofString "opcode_has_argument") _ _ _ _ _ _ _ _ _ _ _) _ _); exact BindsTo.of_eq (binds := [(Str.ofString "opcode", _)]) rfl)
  k_with "mine binds" => ((with_reducible show BindsTo _ (fnX _ (Str.ofString "_check_location") _ _ _ _ _ _ _ _ _ _ _) _ _); exact BindsTo.of_eq (binds := [(Str.ofString "location", _), (Str.ofString "location_name", _), (Str.ofString "min_value", _)]) rfl)
  k_with "mine binds" => ((with_reducible show BindsTo _ (fnX _ (Str.ofString "InstrLocation.__init__") _ _ _ _ _ _ _ _ _ _ _) _ _); exact BindsTo.of_eq (binds := [(Str.ofString "self", _), (Str.ofString "lineno", _), (Str.ofString "end_lineno", _), (Str.ofString "col_offset", _), (Str.ofString "end_col_offset", _)]) rfl)
  k_with "mine binds" => ((with_reducible show BindsTo _ (fnX _ (Str.ofString "BaseInstr.__init__") _ _ _ _ _ _ _ _ _ _ _) _ _); refine Mine.bindsF (binds := [(Str.ofString "self", _), (Str.ofString "name", _), (Str.ofString "arg", _), (Str.ofString "lineno", _), (Str.ofString "location", _)]) (by with_reducible assumption) (by k_asm) (by exact rfl) (by k_is) (by exact rfl) (by exact rfl) (by exact rfl))
  k_with "mine binds" => ((with_reducible show BindsTo _ (fnX _ (Str.ofString "BaseInstr.name") _ _ _ _ _ _ _ _ _ _ _) _ _); exact BindsTo.of_eq (binds := [(Str.ofString "self", _)]) rfl)
  k_with "mine binds" => ((with_reducible show BindsTo _ (fnX _ (Str.ofString "BaseInstr.name") _ _ _ _ _ _ _ _ _ _ _) _ _); exact BindsTo.of_eq (binds := [(Str.ofString "self", _), (Str.ofString "name", _)]) rfl)
  k_with "mine binds" => ((with_reducible show BindsTo _ (fnX _ (Str.ofString "BaseInstr.arg") _ _ _ _ _ _ _ _ _ _ _) _ _); exact BindsTo.of_eq (binds := [(Str.ofString "self", _)]) rfl)
  k_with "mine binds" => ((with_reducible show BindsTo _ (fnX _ (Str.ofString "BaseInstr.arg") _ _ _ _ _ _ _ _ _ _ _) _ _); exact BindsTo.of_eq (binds := [(Str.ofString "self", _), (Str.ofString "arg", _)]) rfl)
  k_with "mine binds" => ((with_reducible show BindsTo _ (fnX _ (Str.ofString "BaseInstr.lineno") _ _ _ _ _ _ _ _ _ _ _) _ _); exact BindsTo.of_eq (binds := [(Str.ofString "self", _)]) rfl)
  k_with "mine binds" => ((with_reducible show BindsTo _ (fnX _ (Str.ofString "BaseInstr.lineno") _ _ _ _ _ _ _ _ _ _ _) _ _); exact BindsTo.of_eq (binds := [(Str.ofString "self", _), (Str.ofString "lineno", _)]) rfl)
  k_with "mine binds" => ((with_reducible show BindsTo _ (fnX _ (Str.ofString "BaseInstr.is_abs_jump") _ _ _ _ _ _ _ _ _ _ _) _ _); exact BindsTo.of_eq (binds := [(Str.ofString "self", _)]) rfl)
  k_with "mine binds" => ((with_reducible show BindsTo _ (fnX _ (Str.ofString "BaseInstr.is_forward_rel_jump") _ _ _ _ _ _ _ _ _ _ _) _ _); exact BindsTo.of_eq (binds := [(Str.ofString "self", _)]) rfl)
  k_with "mine binds" => ((with_reducible show BindsTo _ (fnX _ (Str.ofString "BaseInstr.is_backward_rel_jump") _ _ _ _ _ _ _ _ _ _ _) _ _); exact BindsTo.of_eq (binds := [(Str.ofString "self", _)]) rfl)
  k_with "mine binds" => ((with_reducible show BindsTo _ (fnX _ (Str.ofString "BaseInstr._set") _ _ _ _ _ _ _ _ _ _ _) _ _); exact BindsTo.of_eq (binds := [(Str.ofString "self", _), (Str.ofString "name", _), (Str.ofString "arg", _)]) rfl)
  k_with "mine binds" => ((with_reducible show BindsTo _ (fnX _ (Str.ofString "ConcreteInstr.__init__") _ _ _ _ _ _ _ _ _ _ _) _ _); refine Mine.bindsF (binds := [(Str.ofString "self", _), (Str.ofString "name", _), (Str.ofString "arg", _), (Str.ofString "lineno", _), (Str.ofString "location", _), (Str.ofString "extended_args", _)]) (by with_reducible assumption) (by k_asm) (by exact rfl) (by k_is) (by exact rfl) (by exact rfl) (by exact rfl))
  k_with "mine binds" => ((with_reducible show BindsTo _ (fnX _ (Str.ofString "ConcreteInstr._check_arg") _ _ _ _ _ _ _ _ _ _ _) _ _); exact BindsTo.of_eq (binds := [(Str.ofString "self", _), (Str.ofString "name", _), (Str.ofString "opcode", _), (Str.ofString "arg", _)]) rfl)
  k_with "mine binds" => ((with_reducible show BindsTo _ (fnX _ (Str.ofString "ConcreteInstr._set") _ _ _ _ _ _ _ _ _ _ _) _ _); exact BindsTo.of_eq (binds := [(Str.ofString "self", _), (Str.ofString "name", _), (Str.ofString "arg", _)]) rfl)
  k_with "mine binds" => ((with_reducible show BindsTo _ (fnX _ (Str.ofString "ConcreteInstr.size") _ _ _ _ _ _ _ _ _ _ _) _ _); exact BindsTo.of_eq (binds := [(Str.ofString "self", _)]) rfl)
  k_with "mine binds" => ((with_reducible show BindsTo _ (fnX _ (Str.ofString "ConcreteInstr._cmp_key") _ _ _ _ _ _ _ _ _ _ _) _ _); exact BindsTo.of_eq (binds := [(Str.ofString "self", _)]) rfl)
  k_with "mine binds" => ((with_reducible show BindsTo _ (fnX _ (Str.ofString "ConcreteInstr.get_jump_target") _ _ _ _ _ _ _ _ _ _ _) _ _); exact BindsTo.of_eq (binds := [(Str.ofString "self", _), (Str.ofString "instr_offset", _)]) rfl)
  k_with "mine binds" => ((with_reducible show BindsTo _ (fnX _ (Str.ofString "ConcreteInstr.assemble") _ _ _ _ _ _ _ _ _ _ _) _ _); exact BindsTo.of_eq (binds := [(Str.ofString "self", _)]) rfl)
  k_with "mine binds" => ((with_reducible show BindsTo _ (fnX _ (Str.ofString "ConcreteInstr.disassemble") _ _ _ _ _ _ _ _ _ _ _) _ _); exact BindsTo.of_eq (binds := [(Str.ofString "lineno", _), (Str.ofString "code", _), (Str.ofString "offset", _)]) rfl)
  k_with "mine binds" => ((with_reducible show BindsTo _ (fnX _ (Str.ofString "ConcreteInstr.use_cache_opcodes") _ _ _ _ _ _ _ _ _ _ _) _ _); exact BindsTo.of_eq (binds := [(Str.ofString "self", _)]) rfl)
  k_with "mine binds" => ((with_reducible show BindsTo _ (fnX _ (Str.ofString "_law_octets") _ _ _ _ _ _ _ _ _ _ _) _ _); exact BindsTo.of_eq (binds := [(Str.ofString "name", _), (Str.ofString "number", _), (Str.ofString "more", _)]) rfl)
  k_with "mine binds" => ((with_reducible show BindsTo _ (fnX _ (Str.ofString "_law_looks") _ _ _ _ _ _ _ _ _ _ _) _ _); exact BindsTo.of_eq (binds := [(Str.ofString "op", _), (Str.ofString "kind", _), (Str.ofString "number", _), (Str.ofString "more", _), (Str.ofString "at", _)]) rfl)
  k_with "mine binds" => ((with_reducible show BindsTo _ (fnX _ (Str.ofString "_law_made") _ _ _ _ _ _ _ _ _ _ _) _ _); exact BindsTo.of_eq (binds := [(Str.ofString "name", _), (Str.ofString "number", _)]) rfl)
  k_with "mine binds" => ((with_reducible show BindsTo _ (fnX _ (Str.ofString "_law_turned") _ _ _ _ _ _ _ _ _ _ _) _ _); exact BindsTo.of_eq (binds := [(Str.ofString "op", _), (Str.ofString "number", _)]) rfl)
  k_with "mine binds" => ((with_reducible show BindsTo _ (fnX _ (Str.ofString "_law_alone") _ _ _ _ _ _ _ _ _ _ _) _ _); exact BindsTo.of_eq (binds := [(Str.ofString "kind", _), (Str.ofString "number", _), (Str.ofString "at", _)]) rfl)
  k_with "call ref" => ((with_reducible show wpAny _ _ (call (Value.ref 343) _) _ _ _); k_dflt (refine Mine.SetVC.use (by with_reducible assumption) (by with_reducible assumption) (by k_asm) (by k_asm) (by with_reducible assumption) (by k_asm) (by with_reducible assumption) (by ktr_room) (by ktr_units) (by with_reducible assumption) (by with_reducible assumption) (by k_mem) (by k_mem) (by repeat (first | exact Mine.sub_eq | refine Mine.sub_tl ?_)) (by assumption) (by assumption) (by with_reducible assumption) (by with_reducible assumption) (by with_reducible assumption) (by assumption) (by assumption) ?_; intro k2' k3' k4' k5' k6' ts' h' tk' F' N'; (try k_sweep)))
  unfold CtorUC At
  intro dp un gd cn sn sg so sm a ccd cl outer A₀ base h₀ L m news s Q E B F X N T hdp hun TD x t0 t1 c bj sz hop hga hjmp hc0 hc1 hret
  have hNews : NewsIs news := True.intro
  have CS := set w p loose mean mg mb
  have CU := setU w p loose mean mg mb
  w_strict k_steps
  all_goals (refine' ctor_end hret ?zF ?zN ?z1 ?z2 ?zs ?za ?zl ?ze; (case zF => k_asm); (case zN => k_asm); (case z1 => first | exact List.Mem.head _ | exact List.Mem.tail _ (List.Mem.head _) | exact List.Mem.tail _ (List.Mem.tail _ (List.Mem.head _)) | k_mem); (case z2 => first | exact List.Mem.head _ | exact List.Mem.tail _ (List.Mem.head _) | exact List.Mem.tail _ (List.Mem.tail _ (List.Mem.head _)) | exact List.Mem.tail _ (List.Mem.tail _ (List.Mem.tail _ (List.Mem.head _))) | k_mem); (case zs => (repeat (first | exact sub_eq | refine sub_tl ?_))); (case za => assumption); (case zl => assumption); (case ze => rfl))
set_option maxRecDepth 100000 in
set_option maxHeartbeats 0 in
theorem ctorL (w : World) (p : Program) (loose : List Str) (mean : ExcName → Option Value) (mg mb : Str → Option Value) : CtorLC PySem.Challenge.rw_ix0013_01.row.prog w (Mine.toy.heap_1_1 w.params) p loose mean mg mb := by
  k_with_none
  k_with "exec While Compare cons nil" => (k_here; k_dflt (refine whl_start 100 ?_))
  k_with "UnrEnd" => (k_dflt (refine Mine.unr2 (by k_asm) (by k_asm) (by k_all) ?_))
  k_with "compareOp In int ref" => (k_here; (with_reducible show wpAny _ _ (compareOp CmpOp.In (Value.int _ _) (Value.ref _)) _ _ _); k_dflt (with_reducible refine Mine.in_abs (by k_asm) (by k_asm) (by with_reducible assumption) ?_))
  k_with "callWith ref" => (k_here; (with_reducible show wpAny _ _ (callWith _ (Value.ref _) _ _ (backToKw _ _)) _ _ _); k_dflt (refine Mine.callKWM (by k_asm) (by k_asm) (by k_mem) (by k_is) (by exact rfl) ?_))
  k_with "compareOp Is" => k_dflt (first | ((with_reducible show wpAny _ _ (compareOp CmpOp.Is (Value.int _ _) (Value.ref _)) _ _ _); refine wpAny_is_other (by rfl) (by intro x; cases x) ?_) | ((with_reducible show wpAny _ _ (compareOp CmpOp.Is (Value.str _ _) (Value.ref _)) _ _ _); refine wpAny_is_other (by rfl) (by intro x; cases x) ?_))
  k_with "compareOp IsNot" => k_dflt (first | ((with_reducible show wpAny _ _ (compareOp CmpOp.IsNot (Value.int _ _) (Value.ref _)) _ _ _); refine wpAny_isNot_other (by rfl) (by intro x; cases x) ?_) | ((with_reducible show wpAny _ _ (compareOp CmpOp.IsNot (Value.str _ _) (Value.ref _)) _ _ _); refine wpAny_isNot_other (by rfl) (by intro x; cases x) ?_))
  k_with "compareOp Is ref ref" => ((with_reducible show wpAny _ _ (compareOp CmpOp.Is (Value.ref _) (Value.ref _)) _ _ _); with_reducible refine wpAny_is_ref_self ?_)
  k_with "compareOp IsNot ref ref" => ((with_reducible show wpAny _ _ (compareOp CmpOp.IsNot (Value.ref _) (Value.ref _)) _ _ _); with_reducible refine wpAny_isNot_ref_self ?_)
  k_with "loadName" => (k_here; k_dflt (refine Mine.nmLn (by kernel_rfl!) (by exact rfl) (by k_asm) (by exact rfl) ?_))
  k_with "eval Name" => k_dflt (first | refine Mine.nmL (by kernel_rfl!) (by exact rfl) (by k_asm) (by exact rfl) ?_ | refine Mine.nmK (by kernel_rfl!) (by exact rfl) (by k_asm) (by k_asm) (by k_asm) (by k_is) ?_)
  k_with "binaryOp Sub int int" => (with_reducible refine Mine.sub_g ?_; intro z hz)
  k_with "binaryOp Mult int int" => (with_reducible refine Mine.mul_g ?_; intro z hz)
  k_with "execs nil" => first | (with_reducible refine Mine.gen_toks (fun tk => ?_); with_reducible refine wpAny_execs_nil ?_) | with_reducible refine wpAny_execs_nil ?_
  k_with "execs cons" => first | (with_reducible refine Mine.gen_toks (fun tk => ?_); with_reducible refine wpAny_execs_cons ?_) | with_reducible refine wpAny_execs_cons ?_
  k_with "ite" => (k_closed; k_dflt (first | refine PySem.W.ite_pos rfl ?_ | refine PySem.W.ite_neg Bool.false_ne_true ?_ | refine PySem.W.ite_pos (by decide) ?_ | refine PySem.W.ite_neg (by decide) ?_))
  k_with "wpAt" => k_dflt (first | (ks_step "execs cons"; refine ks_wpAt_execs_cons ?_) | ((with_reducible show _root_.PySem.wpAt _ _ _ (execs _ _) _ _ _); ks_step "execs cons"; refine ks_wpAt_execs_cons ?_) | (ks_step "exec Expr"; refine ks_wpAt_Expr_any ?_) | (ks_step "eval Call"; first | ((with_reducible show _root_.PySem.wpAt _ _ _ (eval (Expr.Call _ _ [] _) _) _ _ _); refine ks_wpAt_MethodCall ?_) | refine Mine.atMethodKW ?_) | (ks_step "attributeBase Call"; refine ks_node (by k_asm) (by k_asm) (by k_asm) (by k_asm) (by k_is) (by rfl) (by rfl) (by k_inst) (by k_is) (by rfl) (by exact Mine.file_is) (by k_is) (by k_is) (by k_is) (by k_is) (by decide) (by rfl) (by rfl) (by rfl) (by rfl) (by exact Mine.top_super) (by exact Mine.boot_super) ?_; intro so' h' F' N' l1; (try k_lt l1)) | ((fail_if_success ks_step "attributeBase Call"); refine _root_.PySem.wpAt_of_wpAny ?_))
  k_with "ite" => with_reducible first | refine Mine.ite_t ?_ | refine Mine.ite_f ?_ | refine Mine.ite_nt ?_ | refine Mine.ite_nf ?_
  k_with "call type:range" => ((with_reducible rename _ = (0 : Int) ∨ _ = 1 ∨ _ = 2 => hmQ); (refine Or.elim hmQ (fun hm1 => ?_) (fun hm2 => Or.elim hm2 (fun hm1 => ?_) (fun hm1 => ?_)) <;> subst hm1))
  k_with "subscriptTail" => (k_here; (with_reducible show wpAny _ _ (subscriptTail _ _ (Value.ref _) (Value.str _ _)) _ _ _); k_dflt first | (with_reducible refine Mine.item23 (by with_reducible assumption) (by k_asm) (by k_asm) (by with_reducible assumption) ?_) | (with_reducible refine Mine.item28 (by with_reducible assumption) (by k_asm) (by k_asm) (by with_reducible assumption) ?_))
  k_with "compareOp In str ref" => (k_here; (with_reducible show wpAny _ _ (compareOp CmpOp.In (Value.str _ _) (Value.ref _)) _ _ _); k_dflt (with_reducible refine Mine.in28 (by with_reducible assumption) (by k_asm) (by k_asm) (by with_reducible assumption) ?_))
  k_with "WhlIf" => (first | (refine WhlIf.yes (decide_eq_true (by omega)) ?_) | (refine WhlIf.no (decide_eq_false (by omega)) ?_) | (refine Mine.ifDec ?_ ?_ <;> intro hw))
  k_with "binaryOp Add int int" => (with_reducible refine Mine.add_g ?_; intro z hz)
  k_with "inplaceOp Add int int" => (with_reducible refine Mine.iadd_g ?_; intro z hz)
  k_with "binaryOp Mod int int" => (with_reducible refine Mine.mod_g (by omega) ?_; intro z hz)
  k_with "binaryOp FloorDiv int int" => (with_reducible refine Mine.fdiv_g (by omega) (by decide +kernel) ?_; intro z hz)
  k_with "inplaceOp RShift int int" => (with_reducible refine Mine.irsh_g ?_; intro z hz)
  k_with "binaryOp BitAnd int int" => (with_reducible refine Mine.and_g ?_; intro z hz)
  k_with "call ref" => (k_here; k_dflt (first
    | (refine call_cls (by k_asm) (by k_asm) (by k_asm) (by k_is) (by k_is) (by k_is) ?_; intro x' d' h' F' N' l1 l2; (try k_lt l1); (try k_lt2 l2); (try k_sweep); first | k_enter | ks_enter)
    | (refine call_meth (by k_asm) (by k_mem) ?_; first | k_enter | ks_enter)
    | (refine wpAny_call ?_; first | k_enter | ks_enter)))
  k_with "mine binds" => ((with_reducible show BindsTo _ (fnX _ (Str.ofString "_check_arg_int") _ _ _ _ _ _ _ _ _ _ _) _ _); exact BindsTo.of_eq (binds := [(Str.ofString "arg", _), (Str.ofString "name", _)]) rfl)
  k_with "mine binds" => ((with_reducible show BindsTo _ (fnX _ (Str.ofString "opcode_has_argument") _ _ _ _ _ _ _ _ _ _ _) _ _); exact BindsTo.of_eq (binds := [(Str.ofString "opcode", _)]) rfl)
  k_with "mine binds" => ((with_reducible show BindsTo _ (fnX _ (Str.ofString "_check_location") _ _ _ _ _ _ _ _ _ _ _) _ _); exact BindsTo.of_eq (binds := [(Str.ofString "location", _), (Str.ofString "location_name", _), (Str.ofString "min_value", _)]) rfl)
  k_with "mine binds" => ((with_reducible show BindsTo _ (fnX _ (Str.ofString "InstrLocation.__init__") _ _ _ _ _ _ _ _ _ _ _) _ _); exact BindsTo.of_eq (binds := [(Str.ofString "self", _), (Str.ofString "lineno", _), (Str.ofString "end_lineno", _), (Str.ofString "col_offset", _), (Str.ofString "end_col_offset", _)]) rfl)
  k_with "mine binds" => ((with_reducible show BindsTo _ (fnX _ (Str.ofString "BaseInstr.__init__") _ _ _ _ _ _ _ _ _ _ _) _ _); refine Mine.bindsF (binds := [(Str.ofString "self", _), (Str.ofString "name", _), (Str.ofString "arg", _), (Str.ofString "lineno", _), (Str.ofString "location", _)]) (by with_reducible assumption) (by k_asm) (by exact rfl) (by k_is) (by exact rfl) (by exact rfl) (by exact rfl))
  k_with "mine binds" => ((with_reducible show BindsTo _ (fnX _ (Str.ofString "BaseInstr.name") _ _ _ _ _ _ _ _ _ _ _) _ _); exact BindsTo.of_eq (binds := [(Str.ofString "self", _)]) rfl)
  k_with "mine binds" => ((with_reducible show BindsTo _ (fnX _ (Str.ofString "BaseInstr.name") _ _ _ _ _ _ _ _ _ _ _) _ _); exact BindsTo.of_eq (binds := [(Str.ofString "self", _), (Str.ofString "name", _)]) rfl)
  k_with "mine binds" => ((with_reducible show BindsTo _ (fnX _ (Str.ofString "BaseInstr.arg") _ _ _ _ _ _ _ _ _ _ _) _ _); exact BindsTo.of_eq (binds := [(Str.ofString "self", _)]) rfl)
  k_with "mine binds" => ((with_reducible show BindsTo _ (fnX _ (Str.ofString "BaseInstr.arg") _ _ _ _ _ _ _ _ _ _ _) _ _); exact BindsTo.of_eq (binds := [(Str.ofString "self", _), (Str.ofString "arg", _)]) rfl)
  k_with "mine binds" => ((with_reducible show BindsTo _ (fnX _ (Str.ofString "BaseInstr.lineno") _ _ _ _ _ _ _ _ _ _ _) _ _); exact BindsTo.of_eq (binds := [(Str.ofString "self", _)]) rfl)
  k_with "mine binds" => ((with_reducible show BindsTo _ (fnX _ (Str.ofString "BaseInstr.lineno") _ _ _ _ _ _ _ _ _ _ _) _ _); exact BindsTo.of_eq (binds := [(Str.ofString "self", _), (Str.ofString "lineno", _)]) rfl)
  k_with "mine binds" => ((with_reducible show BindsTo _ (fnX _ (Str.ofString "BaseInstr.is_abs_jump") _ _ _ _ _ _ _ _ _ _ _) _ _); exact BindsTo.of_eq (binds := [(Str.ofString "self", _)]) rfl)
  k_with "mine binds" => ((with_reducible show BindsTo _ (fnX _ (Str.ofString "BaseInstr.is_forward_rel_jump") _ _ _ _ _ _ _ _ _ _ _) _ _); exact BindsTo.of_eq (binds := [(Str.ofString "self", _)]) rfl)
  k_with "mine binds" => ((with_reducible show BindsTo _ (fnX _ (Str.ofString "BaseInstr.is_backward_rel_jump") _ _ _ _ _ _ _ _ _ _ _) _ _); exact BindsTo.of_eq (binds := [(Str.ofString "self", _)]) rfl)
  k_with "mine binds" => ((with_reducible show BindsTo _ (fnX _ (Str.ofString "BaseInstr._set") _ _ _ _ _ _ _ _ _ _ _) _ _); exact BindsTo.of_eq (binds := [(Str.ofString "self", _), (Str.ofString "name", _), (Str.ofString "arg", _)]) rfl)
  k_with "mine binds" => ((with_reducible show BindsTo _ (fnX _ (Str.ofString "ConcreteInstr.__init__") _ _ _ _ _ _ _ _ _ _ _) _ _); refine Mine.bindsF (binds := [(Str.ofString "self", _), (Str.ofString "name", _), (Str.ofString "arg", _), (Str.ofString "lineno", _), (Str.ofString "location", _), (Str.ofString "extended_args", _)]) (by with_reducible assumption) (by k_asm) (by exact rfl) (by k_is) (by exact rfl) (by exact rfl) (by exact rfl))
  k_with "mine binds" => ((with_reducible show BindsTo _ (fnX _ (Str.ofString "ConcreteInstr._check_arg") _ _ _ _ _ _ _ _ _ _ _) _ _); exact BindsTo.of_eq (binds := [(Str.ofString "self", _), (Str.ofString "name", _), (Str.ofString "opcode", _), (Str.ofString "arg", _)]) rfl)
  k_with "mine binds" => ((with_reducible show BindsTo _ (fnX _ (Str.ofString "ConcreteInstr._set") _ _ _ _ _ _ _ _ _ _ _) _ _); exact BindsTo.of_eq (binds := [(Str.ofString "self", _), (Str.ofString "name", _), (Str.ofString "arg", _)]) rfl)
  k_with "mine binds" => ((with_reducible show BindsTo _ (fnX _ (Str.ofString "ConcreteInstr.size") _ _ _ _ _ _ _ _ _ _ _) _ _); exact BindsTo.of_eq (binds := [(Str.ofString "self", _)]) rfl)
  k_with "mine binds" => ((with_reducible show BindsTo _ (fnX _ (Str.ofString "ConcreteInstr._cmp_key") _ _ _ _ _ _ _ _ _ _ _) _ _); exact BindsTo.of_eq (binds := [(Str.ofString "self", _)]) rfl)
  k_with "mine binds" => ((with_reducible show BindsTo _ (fnX _ (Str.ofString "ConcreteInstr.get_jump_target") _ _ _ _ _ _ _ _ _ _ _) _ _); exact BindsTo.of_eq (binds := [(Str.ofString "self", _), (Str.ofString "instr_offset", _)]) rfl)
  k_with "mine binds" => ((with_reducible show BindsTo _ (fnX _ (Str.ofString "ConcreteInstr.assemble") _ _ _ _ _ _ _ _ _ _ _) _ _); exact BindsTo.of_eq (binds := [(Str.ofString "self", _)]) rfl)
  k_with "mine binds" => ((with_reducible show BindsTo _ (fnX _ (Str.ofString "ConcreteInstr.disassemble") _ _ _ _ _ _ _ _ _ _ _) _ _); exact BindsTo.of_eq (binds := [(Str.ofString "lineno", _), (Str.ofString "code", _), (Str.ofString "offset", _)]) rfl)
  k_with "mine binds" => ((with_reducible show BindsTo _ (fnX _ (Str.ofString "ConcreteInstr.use_cache_opcodes") _ _ _ _ _ _ _ _ _ _ _) _ _); exact BindsTo.of_eq (binds := [(Str.ofString "self", _)]) rfl)
  k_with "mine binds" => ((with_reducible show BindsTo _ (fnX _ (Str.ofString "_law_octets") _ _ _ _ _ _ _ _ _ _ _) _ _); exact BindsTo.of_eq (binds := [(Str.ofString "name", _), (Str.ofString "number", _), (Str.ofString "more", _)]) rfl)
  k_with "mine binds" => ((with_reducible show BindsTo _ (fnX _ (Str.ofString "_law_looks") _ _ _ _ _ _ _ _ _ _ _) _ _); exact BindsTo.of_eq (binds := [(Str.ofString "op", _), (Str.ofString "kind", _), (Str.ofString "number", _), (Str.ofString "more", _), (Str.ofString "at", _)]) rfl)
  k_with "mine binds" => ((with_reducible show BindsTo _ (fnX _ (Str.ofString "_law_made") _ _ _ _ _ _ _ _ _ _ _) _ _); exact BindsTo.of_eq (binds := [(Str.ofString "name", _), (Str.ofString "number", _)]) rfl)
  k_with "mine binds" => ((with_reducible show BindsTo _ (fnX _ (Str.ofString "_law_turned") _ _ _ _ _ _ _ _ _ _ _) _ _); exact BindsTo.of_eq (binds := [(Str.ofString "op", _), (Str.ofString "number", _)]) rfl)
  k_with "mine binds" => ((with_reducible show BindsTo _ (fnX _ (Str.ofString "_law_alone") _ _ _ _ _ _ _ _ _ _ _) _ _); exact BindsTo.of_eq (binds := [(Str.ofString "kind", _), (Str.ofString "number", _), (Str.ofString "at", _)]) rfl)
  k_with "call ref" => ((with_reducible show wpAny _ _ (call (Value.ref 343) _) _ _ _); k_dflt (refine Mine.SetVC.use (by with_reducible assumption) (by with_reducible assumption) (by k_asm) (by k_asm) (by with_reducible assumption) (by k_asm) (by with_reducible assumption) (by ktr_room) (by ktr_units) (by with_reducible assumption) (by with_reducible assumption) (by k_mem) (by k_mem) (by repeat (first | exact Mine.sub_eq | refine Mine.sub_tl ?_)) (by assumption) (by assumption) (by with_reducible assumption) (by with_reducible assumption) (by with_reducible assumption) (by assumption) (by assumption) ?_; intro k2' k3' k4' k5' k6' ts' h' tk' F' N'; (try k_sweep)))
  unfold CtorLC At
  intro dp un gd cn sn sg so sm a ccd cl outer A₀ base h₀ L m news s Q E B F X N T hdp hun TD x t0 t1 tl c bj v sz hop hga hjmp hc0 hc1 hret
  have hNews : NewsIs news := True.intro
  have CS := set w p loose mean mg mb
  have CU := setU w p loose mean mg mb
  w_strict k_steps
  all_goals (refine' ctorL_end hret ?zF ?zN ?z1 ?z2 ?z3 ?z4 ?zs; (case zF => k_asm); (case zN => k_asm); (case z1 => exact List.Mem.tail _ (List.Mem.tail _ (List.Mem.head _))); (case z2 => exact List.Mem.tail _ (List.Mem.tail _ (List.Mem.tail _ (List.Mem.head _)))); (case z3 => exact List.Mem.head _); (case z4 => exact List.Mem.tail _ (List.Mem.head _)); (case zs => (repeat (first | exact sub_eq | refine sub_tl ?_))))
set_option maxRecDepth 100000 in
set_option maxHeartbeats 0 in
theorem dis (w : World) (p : Program) (loose : List Str) (mean : ExcName → Option Value) (mg mb : Str → Option Value) : DisC PySem.Challenge.rw_ix0013_01.row.prog w (Mine.toy.heap_1_1 w.params) p loose mean mg mb := by
  k_with_none
  k_with "exec While Compare cons nil" => (k_here; k_dflt (refine whl_start 100 ?_))
  k_with "UnrEnd" => (k_dflt (refine Mine.unr2 (by k_asm) (by k_asm) (by k_all) ?_))
  k_with "compareOp In int ref" => (k_here; (with_reducible show wpAny _ _ (compareOp CmpOp.In (Value.int _ _) (Value.ref _)) _ _ _); k_dflt (with_reducible refine Mine.in_abs (by k_asm) (by k_asm) (by with_reducible assumption) ?_))
  k_with "callWith ref" => (k_here; (with_reducible show wpAny _ _ (callWith _ (Value.ref _) _ _ (backToKw _ _)) _ _ _); k_dflt (refine Mine.callKWM (by k_asm) (by k_asm) (by k_mem) (by k_is) (by exact rfl) ?_))
  k_with "compareOp Is" => k_dflt (first | ((with_reducible show wpAny _ _ (compareOp CmpOp.Is (Value.int _ _) (Value.ref _)) _ _ _); refine wpAny_is_other (by rfl) (by intro x; cases x) ?_) | ((with_reducible show wpAny _ _ (compareOp CmpOp.Is (Value.str _ _) (Value.ref _)) _ _ _); refine wpAny_is_other (by rfl) (by intro x; cases x) ?_))
  k_with "compareOp IsNot" => k_dflt (first | ((with_reducible show wpAny _ _ (compareOp CmpOp.IsNot (Value.int _ _) (Value.ref _)) _ _ _); refine wpAny_isNot_other (by rfl) (by intro x; cases x) ?_) | ((with_reducible show wpAny _ _ (compareOp CmpOp.IsNot (Value.str _ _) (Value.ref _)) _ _ _); refine wpAny_isNot_other (by rfl) (by intro x; cases x) ?_))
  k_with "compareOp Is ref ref" => ((with_reducible show wpAny _ _ (compareOp CmpOp.Is (Value.ref _) (Value.ref _)) _ _ _); with_reducible refine wpAny_is_ref_self ?_)
  k_with "compareOp IsNot ref ref" => ((with_reducible show wpAny _ _ (compareOp CmpOp.IsNot (Value.ref _) (Value.ref _)) _ _ _); with_reducible refine wpAny_isNot_ref_self ?_)
  k_with "loadName" => (k_here; k_dflt (refine Mine.nmLn (by kernel_rfl!) (by exact rfl) (by k_asm) (by exact rfl) ?_))
  k_with "eval Name" => k_dflt (first | refine Mine.nmL (by kernel_rfl!) (by exact rfl) (by k_asm) (by exact rfl) ?_ | refine Mine.nmK (by kernel_rfl!) (by exact rfl) (by k_asm) (by k_asm) (by k_asm) (by k_is) ?_)
  k_with "binaryOp Sub int int" => (with_reducible refine Mine.sub_g ?_; intro z hz)
  k_with "binaryOp Mult int int" => (with_reducible refine Mine.mul_g ?_; intro z hz)
  k_with "execs nil" => first | (with_reducible refine Mine.gen_toks (fun tk => ?_); with_reducible refine wpAny_execs_nil ?_) | with_reducible refine wpAny_execs_nil ?_
  k_with "execs cons" => first | (with_reducible refine Mine.gen_toks (fun tk => ?_); with_reducible refine wpAny_execs_cons ?_) | with_reducible refine wpAny_execs_cons ?_
  k_with "ite" => (k_closed; k_dflt (first | refine PySem.W.ite_pos rfl ?_ | refine PySem.W.ite_neg Bool.false_ne_true ?_ | refine PySem.W.ite_pos (by decide) ?_ | refine PySem.W.ite_neg (by decide) ?_))
  k_with "wpAt" => k_dflt (first | (ks_step "execs cons"; refine ks_wpAt_execs_cons ?_) | ((with_reducible show _root_.PySem.wpAt _ _ _ (execs _ _) _ _ _); ks_step "execs cons"; refine ks_wpAt_execs_cons ?_) | (ks_step "exec Expr"; refine ks_wpAt_Expr_any ?_) | (ks_step "eval Call"; first | ((with_reducible show _root_.PySem.wpAt _ _ _ (eval (Expr.Call _ _ [] _) _) _ _ _); refine ks_wpAt_MethodCall ?_) | refine Mine.atMethodKW ?_) | (ks_step "attributeBase Call"; refine ks_node (by k_asm) (by k_asm) (by k_asm) (by k_asm) (by k_is) (by rfl) (by rfl) (by k_inst) (by k_is) (by rfl) (by exact Mine.file_is) (by k_is) (by k_is) (by k_is) (by k_is) (by decide) (by rfl) (by rfl) (by rfl) (by rfl) (by exact Mine.top_super) (by exact Mine.boot_super) ?_; intro so' h' F' N' l1; (try k_lt l1)) | ((fail_if_success ks_step "attributeBase Call"); refine _root_.PySem.wpAt_of_wpAny ?_))
  k_with "ite" => with_reducible first | refine Mine.ite_t ?_ | refine Mine.ite_f ?_ | refine Mine.ite_nt ?_ | refine Mine.ite_nf ?_
  k_with "call type:range" => ((with_reducible rename _ = (0 : Int) ∨ _ = 1 ∨ _ = 2 => hmQ); (refine Or.elim hmQ (fun hm1 => ?_) (fun hm2 => Or.elim hm2 (fun hm1 => ?_) (fun hm1 => ?_)) <;> subst hm1))
  k_with "subscriptTail" => (k_here; (with_reducible show wpAny _ _ (subscriptTail _ _ (Value.ref _) (Value.str _ _)) _ _ _); k_dflt first | (with_reducible refine Mine.item23 (by with_reducible assumption) (by k_asm) (by k_asm) (by with_reducible assumption) ?_) | (with_reducible refine Mine.item28 (by with_reducible assumption) (by k_asm) (by k_asm) (by with_reducible assumption) ?_))
  k_with "compareOp In str ref" => (k_here; (with_reducible show wpAny _ _ (compareOp CmpOp.In (Value.str _ _) (Value.ref _)) _ _ _); k_dflt (with_reducible refine Mine.in28 (by with_reducible assumption) (by k_asm) (by k_asm) (by with_reducible assumption) ?_))
  k_with "WhlIf" => (first | (refine WhlIf.yes (decide_eq_true (by omega)) ?_) | (refine WhlIf.no (decide_eq_false (by omega)) ?_) | (refine Mine.ifDec ?_ ?_ <;> intro hw))
  k_with "binaryOp Add int int" => (with_reducible refine Mine.add_g ?_; intro z hz)
  k_with "inplaceOp Add int int" => (with_reducible refine Mine.iadd_g ?_; intro z hz)
  k_with "binaryOp Mod int int" => (with_reducible refine Mine.mod_g (by omega) ?_; intro z hz)
  k_with "binaryOp FloorDiv int int" => (with_reducible refine Mine.fdiv_g (by omega) (by decide +kernel) ?_; intro z hz)
  k_with "inplaceOp RShift int int" => (with_reducible refine Mine.irsh_g ?_; intro z hz)
  k_with "binaryOp BitAnd int int" => (with_reducible refine Mine.and_g ?_; intro z hz)
  k_with "call ref" => (k_here; k_dflt (first
    | (refine call_cls (by k_asm) (by k_asm) (by k_asm) (by k_is) (by k_is) (by k_is) ?_; intro x' d' h' F' N' l1 l2; (try k_lt l1); (try k_lt2 l2); (try k_sweep); first | k_enter | ks_enter)
    | (refine call_meth (by k_asm) (by k_mem) ?_; first | k_enter | ks_enter)
    | (refine wpAny_call ?_; first | k_enter | ks_enter)))
  k_with "mine binds" => ((with_reducible show BindsTo _ (fnX _ (Str.ofString "_check_arg_int") _ _ _ _ _ _ _ _ _ _ _) _ _); exact BindsTo.of_eq (binds := [(Str.ofString "arg", _), (Str.ofString "name", _)]) rfl)
  k_with "mine binds" => ((with_reducible show BindsTo _ (fnX _ (Str.ofString "opcode_has_argument") _ _ _ _ _ _ _ _ _ _ _) _ _); exact BindsTo.of_eq (binds := [(Str.ofString "opcode", _)]) rfl)
  k_with "mine binds" => ((with_reducible show BindsTo _ (fnX _ (Str.ofString "_check_location") _ _ _ _ _ _ _ _ _ _ _) _ _); exact BindsTo.of_eq (binds := [(Str.ofString "location", _), (Str.ofString "location_name", _), (Str.ofString "min_value", _)]) rfl)
  k_with "mine binds" => ((with_reducible show BindsTo _ (fnX _ (Str.ofString "InstrLocation.__init__") _ _ _ _ _ _ _ _ _ _ _) _ _); exact BindsTo.of_eq (binds := [(Str.ofString "self", _), (Str.ofString "lineno", _), (Str.ofString "end_lineno", _), (Str.ofString "col_offset", _), (Str.ofString "end_col_offset", _)]) rfl)
  k_with "mine binds" => ((with_reducible show BindsTo _ (fnX _ (Str.ofString "BaseInstr.__init__") _ _ _ _ _ _ _ _ _ _ _) _ _); refine Mine.bindsF (binds := [(Str.ofString "self", _), (Str.ofString "name", _), (Str.ofString "arg", _), (Str.ofString "lineno", _), (Str.ofString "location", _)]) (by with_reducible assumption) (by k_asm) (by exact rfl) (by k_is) (by exact rfl) (by exact rfl) (by exact rfl))
  k_with "mine binds" => ((with_reducible show BindsTo _ (fnX _ (Str.ofString "BaseInstr.name") _ _ _ _ _ _ _ _ _ _ _) _ _); exact BindsTo.of_eq (binds := [(Str.ofString "self", _)]) rfl)
  k_with "mine binds" => ((with_reducible show BindsTo _ (fnX _ (Str.ofString "BaseInstr.name") _ _ _ _ _ _ _ _ _ _ _) _ _); exact BindsTo.of_eq (binds := [(Str.ofString "self", _), (Str.ofString "name", _)]) rfl)
  k_with "mine binds" => ((with_reducible show BindsTo _ (fnX _ (Str.ofString "BaseInstr.arg") _ _ _ _ _ _ _ _ _ _ _) _ _); exact BindsTo.of_eq (binds := [(Str.ofString "self", _)]) rfl)
  k_with "mine binds" => ((with_reducible show BindsTo _ (fnX _ (Str.ofString "BaseInstr.arg") _ _ _ _ _ _ _ _ _ _ _) _ _); exact BindsTo.of_eq (binds := [(Str.ofString "self", _), (Str.ofString "arg", _)]) rfl)
  k_with "mine binds" => ((with_reducible show BindsTo _ (fnX _ (Str.ofString "BaseInstr.lineno") _ _ _ _ _ _ _ _ _ _ _) _ _); exact BindsTo.of_eq (binds := [(Str.ofString "self", _)]) rfl)
  k_with "mine binds" => ((with_reducible show BindsTo _ (fnX _ (Str.ofString "BaseInstr.lineno") _ _ _ _ _ _ _ _ _ _ _) _ _); exact BindsTo.of_eq (binds := [(Str.ofString "self", _), (Str.ofString "lineno", _)]) rfl)
  k_with "mine binds" => ((with_reducible show BindsTo _ (fnX _ (Str.ofString "BaseInstr.is_abs_jump") _ _ _ _ _ _ _ _ _ _ _) _ _); exact BindsTo.of_eq (binds := [(Str.ofString "self", _)]) rfl)
  k_with "mine binds" => ((with_reducible show BindsTo _ (fnX _ (Str.ofString "BaseInstr.is_forward_rel_jump") _ _ _ _ _ _ _ _ _ _ _) _ _); exact BindsTo.of_eq (binds := [(Str.ofString "self", _)]) rfl)
  k_with "mine binds" => ((with_reducible show BindsTo _ (fnX _ (Str.ofString "BaseInstr.is_backward_rel_jump") _ _ _ _ _ _ _ _ _ _ _) _ _); exact BindsTo.of_eq (binds := [(Str.ofString "self", _)]) rfl)
  k_with "mine binds" => ((with_reducible show BindsTo _ (fnX _ (Str.ofString "BaseInstr._set") _ _ _ _ _ _ _ _ _ _ _) _ _); exact BindsTo.of_eq (binds := [(Str.ofString "self", _), (Str.ofString "name", _), (Str.ofString "arg", _)]) rfl)
  k_with "mine binds" => ((with_reducible show BindsTo _ (fnX _ (Str.ofString "ConcreteInstr.__init__") _ _ _ _ _ _ _ _ _ _ _) _ _); refine Mine.bindsF (binds := [(Str.ofString "self", _), (Str.ofString "name", _), (Str.ofString "arg", _), (Str.ofString "lineno", _), (Str.ofString "location", _), (Str.ofString "extended_args", _)]) (by with_reducible assumption) (by k_asm) (by exact rfl) (by k_is) (by exact rfl) (by exact rfl) (by exact rfl))
  k_with "mine binds" => ((with_reducible show BindsTo _ (fnX _ (Str.ofString "ConcreteInstr._check_arg") _ _ _ _ _ _ _ _ _ _ _) _ _); exact BindsTo.of_eq (binds := [(Str.ofString "self", _), (Str.ofString "name", _), (Str.ofString "opcode", _), (Str.ofString "arg", _)]) rfl)
  k_with "mine binds" => ((with_reducible show BindsTo _ (fnX _ (Str.ofString "ConcreteInstr._set") _ _ _ _ _ _ _ _ _ _ _) _ _); exact BindsTo.of_eq (binds := [(Str.ofString "self", _), (Str.ofString "name", _), (Str.ofString "arg", _)]) rfl)
  k_with "mine binds" => ((with_reducible show BindsTo _ (fnX _ (Str.ofString "ConcreteInstr.size") _ _ _ _ _ _ _ _ _ _ _) _ _); exact BindsTo.of_eq (binds := [(Str.ofString "self", _)]) rfl)
  k_with "mine binds" => ((with_reducible show BindsTo _ (fnX _ (Str.ofString "ConcreteInstr._cmp_key") _ _ _ _ _ _ _ _ _ _ _) _ _); exact BindsTo.of_eq (binds := [(Str.ofString "self", _)]) rfl)
  k_with "mine binds" => ((with_reducible show BindsTo _ (fnX _ (Str.ofString "ConcreteInstr.get_jump_target") _ _ _ _ _ _ _ _ _ _ _) _ _); exact BindsTo.of_eq (binds := [(Str.ofString "self", _), (Str.ofString "instr_offset", _)]) rfl)
  k_with "mine binds" => ((with_reducible show BindsTo _ (fnX _ (Str.ofString "ConcreteInstr.assemble") _ _ _ _ _ _ _ _ _ _ _) _ _); exact BindsTo.of_eq (binds := [(Str.ofString "self", _)]) rfl)
  k_with "mine binds" => ((with_reducible show BindsTo _ (fnX _ (Str.ofString "ConcreteInstr.disassemble") _ _ _ _ _ _ _ _ _ _ _) _ _); exact BindsTo.of_eq (binds := [(Str.ofString "lineno", _), (Str.ofString "code", _), (Str.ofString "offset", _)]) rfl)
  k_with "mine binds" => ((with_reducible show BindsTo _ (fnX _ (Str.ofString "ConcreteInstr.use_cache_opcodes") _ _ _ _ _ _ _ _ _ _ _) _ _); exact BindsTo.of_eq (binds := [(Str.ofString "self", _)]) rfl)
  k_with "mine binds" => ((with_reducible show BindsTo _ (fnX _ (Str.ofString "_law_octets") _ _ _ _ _ _ _ _ _ _ _) _ _); exact BindsTo.of_eq (binds := [(Str.ofString "name", _), (Str.ofString "number", _), (Str.ofString "more", _)]) rfl)
  k_with "mine binds" => ((with_reducible show BindsTo _ (fnX _ (Str.ofString "_law_looks") _ _ _ _ _ _ _ _ _ _ _) _ _); exact BindsTo.of_eq (binds := [(Str.ofString "op", _), (Str.ofString "kind", _), (Str.ofString "number", _), (Str.ofString "more", _), (Str.ofString "at", _)]) rfl)
  k_with "mine binds" => ((with_reducible show BindsTo _ (fnX _ (Str.ofString "_law_made") _ _ _ _ _ _ _ _ _ _ _) _ _); exact BindsTo.of_eq (binds := [(Str.ofString "name", _), (Str.ofString "number", _)]) rfl)
  k_with "mine binds" => ((with_reducible show BindsTo _ (fnX _ (Str.ofString "_law_turned") _ _ _ _ _ _ _ _ _ _ _) _ _); exact BindsTo.of_eq (binds := [(Str.ofString "op", _), (Str.ofString "number", _)]) rfl)
  k_with "mine binds" => ((with_reducible show BindsTo _ (fnX _ (Str.ofString "_law_alone") _ _ _ _ _ _ _ _ _ _ _) _ _); exact BindsTo.of_eq (binds := [(Str.ofString "kind", _), (Str.ofString "number", _), (Str.ofString "at", _)]) rfl)
  k_with "binaryOp Mult int int" => (with_reducible refine mul_int ?_ (by mul_fits))
  k_with "binaryOp Add int int" => (with_reducible refine add_int ?_)
  k_with "subscriptTail" => (k_here; (with_reducible show wpAny _ _ (subscriptTail _ _ (Value.bytes _ _) (Value.int _ _)) _ _ _); k_dflt (refine Mine.itemB (by with_reducible assumption) (by with_reducible assumption) (by omega) (by omega) (by with_reducible assumption) ?_; intro _ _))
  k_with "subscriptTail" => (k_here; (with_reducible show wpAny _ _ (subscriptTail _ _ (Value.ref 22) (Value.int _ _)) _ _ _); k_dflt (refine Mine.item_listK (by k_asm) (by k_asm) (by with_reducible assumption) (by omega) (by omega) ?_))
  k_with "call ref" => ((with_reducible show wpAny _ _ (call (Value.ref 412) _ _) _ _ _); k_dflt (refine Mine.CtorLC.use (by with_reducible assumption) (by k_asm) (by k_asm) (by with_reducible assumption) (by k_asm) (by with_reducible assumption) (by ktr_room) (by ktr_units) (by with_reducible assumption) (by with_reducible assumption) (by first | exact Mine.GoodArg.one (by with_reducible assumption) (by assumption) (by assumption) | exact Mine.GoodArg.no (by with_reducible assumption)) (by with_reducible assumption) (by assumption) (by assumption) ?_; intro x' d' y' e' k1' k2' k3' k4' k5' k6' k7' ts' j1' j2' j3' j4' h' tk' F' N'; (try k_sweep)))
  unfold DisC At
  intro dp un gd cn sn sg so sm a ccd cl outer A₀ base h₀ L m news s Q E B F X N T hdp hun TD b ks off x t0 tl tb tf tx c n bj has hop hnm hhas hjmp hc0 hc1 hb hf0 hf1 hlen hkc hkn hret
  have hNews : NewsIs news := True.intro
  have CL := ctorL w p loose mean mg mb
  have hq := bInts_in hb (2 * off + 1).toNat
  rw [hkn] at hq
  have hq0 := hq.1
  have hq1 := hq.2
  cases has
  w_strict k_steps
  all_goals exact dis_end hret (by k_asm) (by k_asm) (by first | exact rfl | exact ⟨_, rfl⟩)
set_option maxRecDepth 100000 in
set_option maxHeartbeats 0 in
theorem useC (w : World) (p : Program) (loose : List Str) (mean : ExcName → Option Value) (mg mb : Str → Option Value) : UseC PySem.Challenge.rw_ix0013_01.row.prog w (Mine.toy.heap_1_1 w.params) p loose mean mg mb := by
  k_with_none
  k_with "exec While Compare cons nil" => (k_here; k_dflt (refine whl_start 100 ?_))
  k_with "UnrEnd" => (k_dflt (refine Mine.unr2 (by k_asm) (by k_asm) (by k_all) ?_))
  k_with "compareOp In int ref" => (k_here; (with_reducible show wpAny _ _ (compareOp CmpOp.In (Value.int _ _) (Value.ref _)) _ _ _); k_dflt (with_reducible refine Mine.in_abs (by k_asm) (by k_asm) (by with_reducible assumption) ?_))
  k_with "callWith ref" => (k_here; (with_reducible show wpAny _ _ (callWith _ (Value.ref _) _ _ (backToKw _ _)) _ _ _); k_dflt (refine Mine.callKWM (by k_asm) (by k_asm) (by k_mem) (by k_is) (by exact rfl) ?_))
  k_with "compareOp Is" => k_dflt (first | ((with_reducible show wpAny _ _ (compareOp CmpOp.Is (Value.int _ _) (Value.ref _)) _ _ _); refine wpAny_is_other (by rfl) (by intro x; cases x) ?_) | ((with_reducible show wpAny _ _ (compareOp CmpOp.Is (Value.str _ _) (Value.ref _)) _ _ _); refine wpAny_is_other (by rfl) (by intro x; cases x) ?_))
  k_with "compareOp IsNot" => k_dflt (first | ((with_reducible show wpAny _ _ (compareOp CmpOp.IsNot (Value.int _ _) (Value.ref _)) _ _ _); refine wpAny_isNot_other (by rfl) (by intro x; cases x) ?_) | ((with_reducible show wpAny _ _ (compareOp CmpOp.IsNot (Value.str _ _) (Value.ref _)) _ _ _); refine wpAny_isNot_other (by rfl) (by intro x; cases x) ?_))
  k_with "compareOp Is ref ref" => ((with_reducible show wpAny _ _ (compareOp CmpOp.Is (Value.ref _) (Value.ref _)) _ _ _); with_reducible refine wpAny_is_ref_self ?_)
  k_with "compareOp IsNot ref ref" => ((with_reducible show wpAny _ _ (compareOp CmpOp.IsNot (Value.ref _) (Value.ref _)) _ _ _); with_reducible refine wpAny_isNot_ref_self ?_)
  k_with "loadName" => (k_here; k_dflt (refine Mine.nmLn (by kernel_rfl!) (by exact rfl) (by k_asm) (by exact rfl) ?_))
  k_with "eval Name" => k_dflt (first | refine Mine.nmL (by kernel_rfl!) (by exact rfl) (by k_asm) (by exact rfl) ?_ | refine Mine.nmK (by kernel_rfl!) (by exact rfl) (by k_asm) (by k_asm) (by k_asm) (by k_is) ?_)
  k_with "binaryOp Sub int int" => (with_reducible refine Mine.sub_g ?_; intro z hz)
  k_with "binaryOp Mult int int" => (with_reducible refine Mine.mul_g ?_; intro z hz)
  k_with "execs nil" => first | (with_reducible refine Mine.gen_toks (fun tk => ?_); with_reducible refine wpAny_execs_nil ?_) | with_reducible refine wpAny_execs_nil ?_
  k_with "execs cons" => first | (with_reducible refine Mine.gen_toks (fun tk => ?_); with_reducible refine wpAny_execs_cons ?_) | with_reducible refine wpAny_execs_cons ?_
  k_with "ite" => (k_closed; k_dflt (first | refine PySem.W.ite_pos rfl ?_ | refine PySem.W.ite_neg Bool.false_ne_true ?_ | refine PySem.W.ite_pos (by decide) ?_ | refine PySem.W.ite_neg (by decide) ?_))
  k_with "wpAt" => k_dflt (first | (ks_step "execs cons"; refine ks_wpAt_execs_cons ?_) | ((with_reducible show _root_.PySem.wpAt _ _ _ (execs _ _) _ _ _); ks_step "execs cons"; refine ks_wpAt_execs_cons ?_) | (ks_step "exec Expr"; refine ks_wpAt_Expr_any ?_) | (ks_step "eval Call"; first | ((with_reducible show _root_.PySem.wpAt _ _ _ (eval (Expr.Call _ _ [] _) _) _ _ _); refine ks_wpAt_MethodCall ?_) | refine Mine.atMethodKW ?_) | (ks_step "attributeBase Call"; refine ks_node (by k_asm) (by k_asm) (by k_asm) (by k_asm) (by k_is) (by rfl) (by rfl) (by k_inst) (by k_is) (by rfl) (by exact Mine.file_is) (by k_is) (by k_is) (by k_is) (by k_is) (by decide) (by rfl) (by rfl) (by rfl) (by rfl) (by exact Mine.top_super) (by exact Mine.boot_super) ?_; intro so' h' F' N' l1; (try k_lt l1)) | ((fail_if_success ks_step "attributeBase Call"); refine _root_.PySem.wpAt_of_wpAny ?_))
  k_with "ite" => with_reducible first | refine Mine.ite_t ?_ | refine Mine.ite_f ?_ | refine Mine.ite_nt ?_ | refine Mine.ite_nf ?_
  k_with "call type:range" => ((with_reducible rename _ = (0 : Int) ∨ _ = 1 ∨ _ = 2 => hmQ); (refine Or.elim hmQ (fun hm1 => ?_) (fun hm2 => Or.elim hm2 (fun hm1 => ?_) (fun hm1 => ?_)) <;> subst hm1))
  k_with "subscriptTail" => (k_here; (with_reducible show wpAny _ _ (subscriptTail _ _ (Value.ref _) (Value.str _ _)) _ _ _); k_dflt first | (with_reducible refine Mine.item23 (by with_reducible assumption) (by k_asm) (by k_asm) (by with_reducible assumption) ?_) | (with_reducible refine Mine.item28 (by with_reducible assumption) (by k_asm) (by k_asm) (by with_reducible assumption) ?_))
  k_with "compareOp In str ref" => (k_here; (with_reducible show wpAny _ _ (compareOp CmpOp.In (Value.str _ _) (Value.ref _)) _ _ _); k_dflt (with_reducible refine Mine.in28 (by with_reducible assumption) (by k_asm) (by k_asm) (by with_reducible assumption) ?_))
  k_with "WhlIf" => (first | (refine WhlIf.yes (decide_eq_true (by omega)) ?_) | (refine WhlIf.no (decide_eq_false (by omega)) ?_) | (refine Mine.ifDec ?_ ?_ <;> intro hw))
  k_with "binaryOp Add int int" => (with_reducible refine Mine.add_g ?_; intro z hz)
  k_with "inplaceOp Add int int" => (with_reducible refine Mine.iadd_g ?_; intro z hz)
  k_with "binaryOp Mod int int" => (with_reducible refine Mine.mod_g (by omega) ?_; intro z hz)
  k_with "binaryOp FloorDiv int int" => (with_reducible refine Mine.fdiv_g (by omega) (by decide +kernel) ?_; intro z hz)
  k_with "inplaceOp RShift int int" => (with_reducible refine Mine.irsh_g ?_; intro z hz)
  k_with "binaryOp BitAnd int int" => (with_reducible refine Mine.and_g ?_; intro z hz)
  k_with "call ref" => (k_here; k_dflt (first
    | (refine call_cls (by k_asm) (by k_asm) (by k_asm) (by k_is) (by k_is) (by k_is) ?_; intro x' d' h' F' N' l1 l2; (try k_lt l1); (try k_lt2 l2); (try k_sweep); first | k_enter | ks_enter)
    | (refine call_meth (by k_asm) (by k_mem) ?_; first | k_enter | ks_enter)
    | (refine wpAny_call ?_; first | k_enter | ks_enter)))
  k_with "mine binds" => ((with_reducible show BindsTo _ (fnX _ (Str.ofString "_check_arg_int") _ _ _ _ _ _ _ _ _ _ _) _ _); exact BindsTo.of_eq (binds := [(Str.ofString "arg", _), (Str.ofString "name", _)]) rfl)
  k_with "mine binds" => ((with_reducible show BindsTo _ (fnX _ (Str.ofString "opcode_has_argument") _ _ _ _ _ _ _ _ _ _ _) _ _); exact BindsTo.of_eq (binds := [(Str.ofString "opcode", _)]) rfl)
  k_with "mine binds" => ((with_reducible show BindsTo _ (fnX _ (Str.ofString "_check_location") _ _ _ _ _ _ _ _ _ _ _) _ _); exact BindsTo.of_eq (binds := [(Str.ofString "location", _), (Str.ofString "location_name", _), (Str.ofString "min_value", _)]) rfl)
  k_with "mine binds" => ((with_reducible show BindsTo _ (fnX _ (Str.ofString "InstrLocation.__init__") _ _ _ _ _ _ _ _ _ _ _) _ _); exact BindsTo.of_eq (binds := [(Str.ofString "self", _), (Str.ofString "lineno", _), (Str.ofString "end_lineno", _), (Str.ofString "col_offset", _), (Str.ofString "end_col_offset", _)]) rfl)
  k_with "mine binds" => ((with_reducible show BindsTo _ (fnX _ (Str.ofString "BaseInstr.__init__") _ _ _ _ _ _ _ _ _ _ _) _ _); refine Mine.bindsF (binds := [(Str.ofString "self", _), (Str.ofString "name", _), (Str.ofString "arg", _), (Str.ofString "lineno", _), (Str.ofString "location", _)]) (by with_reducible assumption) (by k_asm) (by exact rfl) (by k_is) (by exact rfl) (by exact rfl) (by exact rfl))
  k_with "mine binds" => ((with_reducible show BindsTo _ (fnX _ (Str.ofString "BaseInstr.name") _ _ _ _ _ _ _ _ _ _ _) _ _); exact BindsTo.of_eq (binds := [(Str.ofString "self", _)]) rfl)
  k_with "mine binds" => ((with_reducible show BindsTo _ (fnX _ (Str.ofString "BaseInstr.name") _ _ _ _ _ _ _ _ _ _ _) _ _); exact BindsTo.of_eq (binds := [(Str.ofString "self", _), (Str.ofString "name", _)]) rfl)
  k_with "mine binds" => ((with_reducible show BindsTo _ (fnX _ (Str.ofString "BaseInstr.arg") _ _ _ _ _ _ _ _ _ _ _) _ _); exact BindsTo.of_eq (binds := [(Str.ofString "self", _)]) rfl)
  k_with "mine binds" => ((with_reducible show BindsTo _ (fnX _ (Str.ofString "BaseInstr.arg") _ _ _ _ _ _ _ _ _ _ _) _ _); exact BindsTo.of_eq (binds := [(Str.ofString "self", _), (Str.ofString "arg", _)]) rfl)
  k_with "mine binds" => ((with_reducible show BindsTo _ (fnX _ (Str.ofString "BaseInstr.lineno") _ _ _ _ _ _ _ _ _ _ _) _ _); exact BindsTo.of_eq (binds := [(Str.ofString "self", _)]) rfl)
  k_with "mine binds" => ((with_reducible show BindsTo _ (fnX _ (Str.ofString "BaseInstr.lineno") _ _ _ _ _ _ _ _ _ _ _) _ _); exact BindsTo.of_eq (binds := [(Str.ofString "self", _), (Str.ofString "lineno", _)]) rfl)
  k_with "mine binds" => ((with_reducible show BindsTo _ (fnX _ (Str.ofString "BaseInstr.is_abs_jump") _ _ _ _ _ _ _ _ _ _ _) _ _); exact BindsTo.of_eq (binds := [(Str.ofString "self", _)]) rfl)
  k_with "mine binds" => ((with_reducible show BindsTo _ (fnX _ (Str.ofString "BaseInstr.is_forward_rel_jump") _ _ _ _ _ _ _ _ _ _ _) _ _); exact BindsTo.of_eq (binds := [(Str.ofString "self", _)]) rfl)
  k_with "mine binds" => ((with_reducible show BindsTo _ (fnX _ (Str.ofString "BaseInstr.is_backward_rel_jump") _ _ _ _ _ _ _ _ _ _ _) _ _); exact BindsTo.of_eq (binds := [(Str.ofString "self", _)]) rfl)
  k_with "mine binds" => ((with_reducible show BindsTo _ (fnX _ (Str.ofString "BaseInstr._set") _ _ _ _ _ _ _ _ _ _ _) _ _); exact BindsTo.of_eq (binds := [(Str.ofString "self", _), (Str.ofString "name", _), (Str.ofString "arg", _)]) rfl)
  k_with "mine binds" => ((with_reducible show BindsTo _ (fnX _ (Str.ofString "ConcreteInstr.__init__") _ _ _ _ _ _ _ _ _ _ _) _ _); refine Mine.bindsF (binds := [(Str.ofString "self", _), (Str.ofString "name", _), (Str.ofString "arg", _), (Str.ofString "lineno", _), (Str.ofString "location", _), (Str.ofString "extended_args", _)]) (by with_reducible assumption) (by k_asm) (by exact rfl) (by k_is) (by exact rfl) (by exact rfl) (by exact rfl))
  k_with "mine binds" => ((with_reducible show BindsTo _ (fnX _ (Str.ofString "ConcreteInstr._check_arg") _ _ _ _ _ _ _ _ _ _ _) _ _); exact BindsTo.of_eq (binds := [(Str.ofString "self", _), (Str.ofString "name", _), (Str.ofString "opcode", _), (Str.ofString "arg", _)]) rfl)
  k_with "mine binds" => ((with_reducible show BindsTo _ (fnX _ (Str.ofString "ConcreteInstr._set") _ _ _ _ _ _ _ _ _ _ _) _ _); exact BindsTo.of_eq (binds := [(Str.ofString "self", _), (Str.ofString "name", _), (Str.ofString "arg", _)]) rfl)
  k_with "mine binds" => ((with_reducible show BindsTo _ (fnX _ (Str.ofString "ConcreteInstr.size") _ _ _ _ _ _ _ _ _ _ _) _ _); exact BindsTo.of_eq (binds := [(Str.ofString "self", _)]) rfl)
  k_with "mine binds" => ((with_reducible show BindsTo _ (fnX _ (Str.ofString "ConcreteInstr._cmp_key") _ _ _ _ _ _ _ _ _ _ _) _ _); exact BindsTo.of_eq (binds := [(Str.ofString "self", _)]) rfl)
  k_with "mine binds" => ((with_reducible show BindsTo _ (fnX _ (Str.ofString "ConcreteInstr.get_jump_target") _ _ _ _ _ _ _ _ _ _ _) _ _); exact BindsTo.of_eq (binds := [(Str.ofString "self", _), (Str.ofString "instr_offset", _)]) rfl)
  k_with "mine binds" => ((with_reducible show BindsTo _ (fnX _ (Str.ofString "ConcreteInstr.assemble") _ _ _ _ _ _ _ _ _ _ _) _ _); exact BindsTo.of_eq (binds := [(Str.ofString "self", _)]) rfl)
  k_with "mine binds" => ((with_reducible show BindsTo _ (fnX _ (Str.ofString "ConcreteInstr.disassemble") _ _ _ _ _ _ _ _ _ _ _) _ _); exact BindsTo.of_eq (binds := [(Str.ofString "lineno", _), (Str.ofString "code", _), (Str.ofString "offset", _)]) rfl)
  k_with "mine binds" => ((with_reducible show BindsTo _ (fnX _ (Str.ofString "ConcreteInstr.use_cache_opcodes") _ _ _ _ _ _ _ _ _ _ _) _ _); exact BindsTo.of_eq (binds := [(Str.ofString "self", _)]) rfl)
  k_with "mine binds" => ((with_reducible show BindsTo _ (fnX _ (Str.ofString "_law_octets") _ _ _ _ _ _ _ _ _ _ _) _ _); exact BindsTo.of_eq (binds := [(Str.ofString "name", _), (Str.ofString "number", _), (Str.ofString "more", _)]) rfl)
  k_with "mine binds" => ((with_reducible show BindsTo _ (fnX _ (Str.ofString "_law_looks") _ _ _ _ _ _ _ _ _ _ _) _ _); exact BindsTo.of_eq (binds := [(Str.ofString "op", _), (Str.ofString "kind", _), (Str.ofString "number", _), (Str.ofString "more", _), (Str.ofString "at", _)]) rfl)
  k_with "mine binds" => ((with_reducible show BindsTo _ (fnX _ (Str.ofString "_law_made") _ _ _ _ _ _ _ _ _ _ _) _ _); exact BindsTo.of_eq (binds := [(Str.ofString "name", _), (Str.ofString "number", _)]) rfl)
  k_with "mine binds" => ((with_reducible show BindsTo _ (fnX _ (Str.ofString "_law_turned") _ _ _ _ _ _ _ _ _ _ _) _ _); exact BindsTo.of_eq (binds := [(Str.ofString "op", _), (Str.ofString "number", _)]) rfl)
  k_with "mine binds" => ((with_reducible show BindsTo _ (fnX _ (Str.ofString "_law_alone") _ _ _ _ _ _ _ _ _ _ _) _ _); exact BindsTo.of_eq (binds := [(Str.ofString "kind", _), (Str.ofString "number", _), (Str.ofString "at", _)]) rfl)
  k_with "compareOp In str ref" => (k_here; (with_reducible show wpAny _ _ (compareOp CmpOp.In (Value.str _ _) (Value.ref 28)) _ _ _); k_dflt (first | with_reducible refine Mine.in28t (by with_reducible assumption) (by k_asm) (by k_asm) (by with_reducible assumption) ?_ | with_reducible refine Mine.in28f (by with_reducible assumption) (by k_asm) (by k_asm) (by with_reducible assumption) ?_))
  unfold UseC At
  intro dp un gd cn sn sg so sm a ccd cl outer A₀ base h₀ L m news s Q E B F X N T hdp hun TD X1 D1 k1 k2 k3 k4 k5 k6 k7 t1 ext op ij ar sz lo x cch x1 d1 hca hret
  have hNews : NewsIs news := True.intro
  rcases hca with ⟨rfl, hca⟩ | ⟨tc, hca⟩
  w_strict k_steps
  all_goals (refine' end_sub (hret _) ?zF ?zN ?zs; (case zF => k_asm); (case zN => k_asm); (case zs => (repeat (first | exact sub_eq | refine sub_tl ?_))))
set_option maxRecDepth 100000 in
set_option maxHeartbeats 0 in
theorem jumpC (w : World) (p : Program) (loose : List Str) (mean : ExcName → Option Value) (mg mb : Str → Option Value) : JumpC PySem.Challenge.rw_ix0013_01.row.prog w (Mine.toy.heap_1_1 w.params) p loose mean mg mb := by
  k_with_none
  k_with "exec While Compare cons nil" => (k_here; k_dflt (refine whl_start 100 ?_))
  k_with "UnrEnd" => (k_dflt (refine Mine.unr2 (by k_asm) (by k_asm) (by k_all) ?_))
  k_with "compareOp In int ref" => (k_here; (with_reducible show wpAny _ _ (compareOp CmpOp.In (Value.int _ _) (Value.ref _)) _ _ _); k_dflt (with_reducible refine Mine.in_abs (by k_asm) (by k_asm) (by with_reducible assumption) ?_))
  k_with "callWith ref" => (k_here; (with_reducible show wpAny _ _ (callWith _ (Value.ref _) _ _ (backToKw _ _)) _ _ _); k_dflt (refine Mine.callKWM (by k_asm) (by k_asm) (by k_mem) (by k_is) (by exact rfl) ?_))
  k_with "compareOp Is" => k_dflt (first | ((with_reducible show wpAny _ _ (compareOp CmpOp.Is (Value.int _ _) (Value.ref _)) _ _ _); refine wpAny_is_other (by rfl) (by intro x; cases x) ?_) | ((with_reducible show wpAny _ _ (compareOp CmpOp.Is (Value.str _ _) (Value.ref _)) _ _ _); refine wpAny_is_other (by rfl) (by intro x; cases x) ?_))
  k_with "compareOp IsNot" => k_dflt (first | ((with_reducible show wpAny _ _ (compareOp CmpOp.IsNot (Value.int _ _) (Value.ref _)) _ _ _); refine wpAny_isNot_other (by rfl) (by intro x; cases x) ?_) | ((with_reducible show wpAny _ _ (compareOp CmpOp.IsNot (Value.str _ _) (Value.ref _)) _ _ _); refine wpAny_isNot_other (by rfl) (by intro x; cases x) ?_))
  k_with "compareOp Is ref ref" => ((with_reducible show wpAny _ _ (compareOp CmpOp.Is (Value.ref _) (Value.ref _)) _ _ _); with_reducible refine wpAny_is_ref_self ?_)
  k_with "compareOp IsNot ref ref" => ((with_reducible show wpAny _ _ (compareOp CmpOp.IsNot (Value.ref _) (Value.ref _)) _ _ _); with_reducible refine wpAny_isNot_ref_self ?_)
  k_with "loadName" => (k_here; k_dflt (refine Mine.nmLn (by kernel_rfl!) (by exact rfl) (by k_asm) (by exact rfl) ?_))
  k_with "eval Name" => k_dflt (first | refine Mine.nmL (by kernel_rfl!) (by exact rfl) (by k_asm) (by exact rfl) ?_ | refine Mine.nmK (by kernel_rfl!) (by exact rfl) (by k_asm) (by k_asm) (by k_asm) (by k_is) ?_)
  k_with "binaryOp Sub int int" => (with_reducible refine Mine.sub_g ?_; intro z hz)
  k_with "binaryOp Mult int int" => (with_reducible refine Mine.mul_g ?_; intro z hz)
  k_with "execs nil" => first | (with_reducible refine Mine.gen_toks (fun tk => ?_); with_reducible refine wpAny_execs_nil ?_) | with_reducible refine wpAny_execs_nil ?_
  k_with "execs cons" => first | (with_reducible refine Mine.gen_toks (fun tk => ?_); with_reducible refine wpAny_execs_cons ?_) | with_reducible refine wpAny_execs_cons ?_
  k_with "ite" => (k_closed; k_dflt (first | refine PySem.W.ite_pos rfl ?_ | refine PySem.W.ite_neg Bool.false_ne_true ?_ | refine PySem.W.ite_pos (by decide) ?_ | refine PySem.W.ite_neg (by decide) ?_))
  k_with "wpAt" => k_dflt (first | (ks_step "execs cons"; refine ks_wpAt_execs_cons ?_) | ((with_reducible show _root_.PySem.wpAt _ _ _ (execs _ _) _ _ _); ks_step "execs cons"; refine ks_wpAt_execs_cons ?_) | (ks_step "exec Expr"; refine ks_wpAt_Expr_any ?_) | (ks_step "eval Call"; first | ((with_reducible show _root_.PySem.wpAt _ _ _ (eval (Expr.Call _ _ [] _) _) _ _ _); refine ks_wpAt_MethodCall ?_) | refine Mine.atMethodKW ?_) | (ks_step "attributeBase Call"; refine ks_node (by k_asm) (by k_asm) (by k_asm) (by k_asm) (by k_is) (by rfl) (by rfl) (by k_inst) (by k_is) (by rfl) (by exact Mine.file_is) (by k_is) (by k_is) (by k_is) (by k_is) (by decide) (by rfl) (by rfl) (by rfl) (by rfl) (by exact Mine.top_super) (by exact Mine.boot_super) ?_; intro so' h' F' N' l1; (try k_lt l1)) | ((fail_if_success ks_step "attributeBase Call"); refine _root_.PySem.wpAt_of_wpAny ?_))
  k_with "ite" => with_reducible first | refine Mine.ite_t ?_ | refine Mine.ite_f ?_ | refine Mine.ite_nt ?_ | refine Mine.ite_nf ?_
  k_with "call type:range" => ((with_reducible rename _ = (0 : Int) ∨ _ = 1 ∨ _ = 2 => hmQ); (refine Or.elim hmQ (fun hm1 => ?_) (fun hm2 => Or.elim hm2 (fun hm1 => ?_) (fun hm1 => ?_)) <;> subst hm1))
  k_with "subscriptTail" => (k_here; (with_reducible show wpAny _ _ (subscriptTail _ _ (Value.ref _) (Value.str _ _)) _ _ _); k_dflt first | (with_reducible refine Mine.item23 (by with_reducible assumption) (by k_asm) (by k_asm) (by with_reducible assumption) ?_) | (with_reducible refine Mine.item28 (by with_reducible assumption) (by k_asm) (by k_asm) (by with_reducible assumption) ?_))
  k_with "compareOp In str ref" => (k_here; (with_reducible show wpAny _ _ (compareOp CmpOp.In (Value.str _ _) (Value.ref _)) _ _ _); k_dflt (with_reducible refine Mine.in28 (by with_reducible assumption) (by k_asm) (by k_asm) (by with_reducible assumption) ?_))
  k_with "WhlIf" => (first | (refine WhlIf.yes (decide_eq_true (by omega)) ?_) | (refine WhlIf.no (decide_eq_false (by omega)) ?_) | (refine Mine.ifDec ?_ ?_ <;> intro hw))
  k_with "binaryOp Add int int" => (with_reducible refine Mine.add_g ?_; intro z hz)
  k_with "inplaceOp Add int int" => (with_reducible refine Mine.iadd_g ?_; intro z hz)
  k_with "binaryOp Mod int int" => (with_reducible refine Mine.mod_g (by omega) ?_; intro z hz)
  k_with "binaryOp FloorDiv int int" => (with_reducible refine Mine.fdiv_g (by omega) (by decide +kernel) ?_; intro z hz)
  k_with "inplaceOp RShift int int" => (with_reducible refine Mine.irsh_g ?_; intro z hz)
  k_with "binaryOp BitAnd int int" => (with_reducible refine Mine.and_g ?_; intro z hz)
  k_with "call ref" => (k_here; k_dflt (first
    | (refine call_cls (by k_asm) (by k_asm) (by k_asm) (by k_is) (by k_is) (by k_is) ?_; intro x' d' h' F' N' l1 l2; (try k_lt l1); (try k_lt2 l2); (try k_sweep); first | k_enter | ks_enter)
    | (refine call_meth (by k_asm) (by k_mem) ?_; first | k_enter | ks_enter)
    | (refine wpAny_call ?_; first | k_enter | ks_enter)))
  k_with "mine binds" => ((with_reducible show BindsTo _ (fnX _ (Str.ofString "_check_arg_int") _ _ _ _ _ _ _ _ _ _ _) _ _); exact BindsTo.of_eq (binds := [(Str.ofString "arg", _), (Str.ofString "name", _)]) rfl)
  k_with "mine binds" => ((with_reducible show BindsTo _ (fnX _ (Str.ofString "opcode_has_argument") _ _ _ _ _ _ _ _ _ _ _) _ _); exact BindsTo.of_eq (binds := [(Str.ofString "opcode", _)]) rfl)
  k_with "mine binds" => ((with_reducible show BindsTo _ (fnX _ (Str.ofString "_check_location") _ _ _ _ _ _ _ _ _ _ _) _ _); exact BindsTo.of_eq (binds := [(Str.ofString "location", _), (Str.ofString "location_name", _), (Str.ofString "min_value", _)]) rfl)
  k_with "mine binds" => ((with_reducible show BindsTo _ (fnX _ (Str.ofString "InstrLocation.__init__") _ _ _ _ _ _ _ _ _ _ _) _ _); exact BindsTo.of_eq (binds := [(Str.ofString "self", _), (Str.ofString "lineno", _), (Str.ofString "end_lineno", _), (Str.ofString "col_offset", _), (Str.ofString "end_col_offset", _)]) rfl)
  k_with "mine binds" => ((with_reducible show BindsTo _ (fnX _ (Str.ofString "BaseInstr.__init__") _ _ _ _ _ _ _ _ _ _ _) _ _); refine Mine.bindsF (binds := [(Str.ofString "self", _), (Str.ofString "name", _), (Str.ofString "arg", _), (Str.ofString "lineno", _), (Str.ofString "location", _)]) (by with_reducible assumption) (by k_asm) (by exact rfl) (by k_is) (by exact rfl) (by exact rfl) (by exact rfl))
  k_with "mine binds" => ((with_reducible show BindsTo _ (fnX _ (Str.ofString "BaseInstr.name") _ _ _ _ _ _ _ _ _ _ _) _ _); exact BindsTo.of_eq (binds := [(Str.ofString "self", _)]) rfl)
  k_with "mine binds" => ((with_reducible show BindsTo _ (fnX _ (Str.ofString "BaseInstr.name") _ _ _ _ _ _ _ _ _ _ _) _ _); exact BindsTo.of_eq (binds := [(Str.ofString "self", _), (Str.ofString "name", _)]) rfl)
  k_with "mine binds" => ((with_reducible show BindsTo _ (fnX _ (Str.ofString "BaseInstr.arg") _ _ _ _ _ _ _ _ _ _ _) _ _); exact BindsTo.of_eq (binds := [(Str.ofString "self", _)]) rfl)
  k_with "mine binds" => ((with_reducible show BindsTo _ (fnX _ (Str.ofString "BaseInstr.arg") _ _ _ _ _ _ _ _ _ _ _) _ _); exact BindsTo.of_eq (binds := [(Str.ofString "self", _), (Str.ofString "arg", _)]) rfl)
  k_with "mine binds" => ((with_reducible show BindsTo _ (fnX _ (Str.ofString "BaseInstr.lineno") _ _ _ _ _ _ _ _ _ _ _) _ _); exact BindsTo.of_eq (binds := [(Str.ofString "self", _)]) rfl)
  k_with "mine binds" => ((with_reducible show BindsTo _ (fnX _ (Str.ofString "BaseInstr.lineno") _ _ _ _ _ _ _ _ _ _ _) _ _); exact BindsTo.of_eq (binds := [(Str.ofString "self", _), (Str.ofString "lineno", _)]) rfl)
  k_with "mine binds" => ((with_reducible show BindsTo _ (fnX _ (Str.ofString "BaseInstr.is_abs_jump") _ _ _ _ _ _ _ _ _ _ _) _ _); exact BindsTo.of_eq (binds := [(Str.ofString "self", _)]) rfl)
  k_with "mine binds" => ((with_reducible show BindsTo _ (fnX _ (Str.ofString "BaseInstr.is_forward_rel_jump") _ _ _ _ _ _ _ _ _ _ _) _ _); exact BindsTo.of_eq (binds := [(Str.ofString "self", _)]) rfl)
  k_with "mine binds" => ((with_reducible show BindsTo _ (fnX _ (Str.ofString "BaseInstr.is_backward_rel_jump") _ _ _ _ _ _ _ _ _ _ _) _ _); exact BindsTo.of_eq (binds := [(Str.ofString "self", _)]) rfl)
  k_with "mine binds" => ((with_reducible show BindsTo _ (fnX _ (Str.ofString "BaseInstr._set") _ _ _ _ _ _ _ _ _ _ _) _ _); exact BindsTo.of_eq (binds := [(Str.ofString "self", _), (Str.ofString "name", _), (Str.ofString "arg", _)]) rfl)
  k_with "mine binds" => ((with_reducible show BindsTo _ (fnX _ (Str.ofString "ConcreteInstr.__init__") _ _ _ _ _ _ _ _ _ _ _) _ _); refine Mine.bindsF (binds := [(Str.ofString "self", _), (Str.ofString "name", _), (Str.ofString "arg", _), (Str.ofString "lineno", _), (Str.ofString "location", _), (Str.ofString "extended_args", _)]) (by with_reducible assumption) (by k_asm) (by exact rfl) (by k_is) (by exact rfl) (by exact rfl) (by exact rfl))
  k_with "mine binds" => ((with_reducible show BindsTo _ (fnX _ (Str.ofString "ConcreteInstr._check_arg") _ _ _ _ _ _ _ _ _ _ _) _ _); exact BindsTo.of_eq (binds := [(Str.ofString "self", _), (Str.ofString "name", _), (Str.ofString "opcode", _), (Str.ofString "arg", _)]) rfl)
  k_with "mine binds" => ((with_reducible show BindsTo _ (fnX _ (Str.ofString "ConcreteInstr._set") _ _ _ _ _ _ _ _ _ _ _) _ _); exact BindsTo.of_eq (binds := [(Str.ofString "self", _), (Str.ofString "name", _), (Str.ofString "arg", _)]) rfl)
  k_with "mine binds" => ((with_reducible show BindsTo _ (fnX _ (Str.ofString "ConcreteInstr.size") _ _ _ _ _ _ _ _ _ _ _) _ _); exact BindsTo.of_eq (binds := [(Str.ofString "self", _)]) rfl)
  k_with "mine binds" => ((with_reducible show BindsTo _ (fnX _ (Str.ofString "ConcreteInstr._cmp_key") _ _ _ _ _ _ _ _ _ _ _) _ _); exact BindsTo.of_eq (binds := [(Str.ofString "self", _)]) rfl)
  k_with "mine binds" => ((with_reducible show BindsTo _ (fnX _ (Str.ofString "ConcreteInstr.get_jump_target") _ _ _ _ _ _ _ _ _ _ _) _ _); exact BindsTo.of_eq (binds := [(Str.ofString "self", _), (Str.ofString "instr_offset", _)]) rfl)
  k_with "mine binds" => ((with_reducible show BindsTo _ (fnX _ (Str.ofString "ConcreteInstr.assemble") _ _ _ _ _ _ _ _ _ _ _) _ _); exact BindsTo.of_eq (binds := [(Str.ofString "self", _)]) rfl)
  k_with "mine binds" => ((with_reducible show BindsTo _ (fnX _ (Str.ofString "ConcreteInstr.disassemble") _ _ _ _ _ _ _ _ _ _ _) _ _); exact BindsTo.of_eq (binds := [(Str.ofString "lineno", _), (Str.ofString "code", _), (Str.ofString "offset", _)]) rfl)
  k_with "mine binds" => ((with_reducible show BindsTo _ (fnX _ (Str.ofString "ConcreteInstr.use_cache_opcodes") _ _ _ _ _ _ _ _ _ _ _) _ _); exact BindsTo.of_eq (binds := [(Str.ofString "self", _)]) rfl)
  k_with "mine binds" => ((with_reducible show BindsTo _ (fnX _ (Str.ofString "_law_octets") _ _ _ _ _ _ _ _ _ _ _) _ _); exact BindsTo.of_eq (binds := [(Str.ofString "name", _), (Str.ofString "number", _), (Str.ofString "more", _)]) rfl)
  k_with "mine binds" => ((with_reducible show BindsTo _ (fnX _ (Str.ofString "_law_looks") _ _ _ _ _ _ _ _ _ _ _) _ _); exact BindsTo.of_eq (binds := [(Str.ofString "op", _), (Str.ofString "kind", _), (Str.ofString "number", _), (Str.ofString "more", _), (Str.ofString "at", _)]) rfl)
  k_with "mine binds" => ((with_reducible show BindsTo _ (fnX _ (Str.ofString "_law_made") _ _ _ _ _ _ _ _ _ _ _) _ _); exact BindsTo.of_eq (binds := [(Str.ofString "name", _), (Str.ofString "number", _)]) rfl)
  k_with "mine binds" => ((with_reducible show BindsTo _ (fnX _ (Str.ofString "_law_turned") _ _ _ _ _ _ _ _ _ _ _) _ _); exact BindsTo.of_eq (binds := [(Str.ofString "op", _), (Str.ofString "number", _)]) rfl)
  k_with "mine binds" => ((with_reducible show BindsTo _ (fnX _ (Str.ofString "_law_alone") _ _ _ _ _ _ _ _ _ _ _) _ _); exact BindsTo.of_eq (binds := [(Str.ofString "kind", _), (Str.ofString "number", _), (Str.ofString "at", _)]) rfl)
  k_with "call ref" => ((with_reducible show wpAny _ _ (call (Value.ref 409) _) _ _ _); k_dflt (refine Mine.UseC.use (by with_reducible assumption) (by k_asm) (by k_asm) (by with_reducible assumption) (by k_asm) (by with_reducible assumption) (by ktr_room) (by ktr_units) (by with_reducible assumption) (by k_mem) (by k_mem) (by with_reducible assumption) ?_; intro t' h' tk' F' N'; (try k_sweep)))
  unfold JumpC At
  intro dp un gd cn sn sg so sm a ccd cl outer A₀ base h₀ L m news s Q E B F X N T hdp hun TD X1 D1 k1 k2 k3 k4 k5 k6 k7 t0 t1 ts ta ext ij ar lo x c cch dir at_ wd n x1 d1 hca hdir har hret
  have hNews : NewsIs news := True.intro
  have UC := useC w p loose mean mg mb
  obtain ⟨hab, hdir⟩ := hdir
  rcases hdir with ⟨rfl, hfw, hbw⟩ | ⟨rfl, hfw⟩ | ⟨rfl, hfw, hbw⟩
  rotate_left
  · obtain ⟨t2, rfl⟩ := har.resolve_left (by decide)
    w_strict k_steps
    all_goals (refine' jump_end hret ?zF ?zN ?zs ?zv; (case zF => k_asm); (case zN => k_asm); (case zs => (repeat (first | exact sub_eq | refine sub_tl ?_))); (case zv => exact JumpV.f (by omega)))
  · obtain ⟨t2, rfl⟩ := har.resolve_left (by decide)
    w_strict k_steps
    all_goals (refine' jump_end hret ?zF ?zN ?zs ?zv; (case zF => k_asm); (case zN => k_asm); (case zs => (repeat (first | exact sub_eq | refine sub_tl ?_))); (case zv => exact JumpV.b (by omega)))
  · clear har
    w_strict k_steps
    all_goals (refine' jump_end hret ?zF ?zN ?zs ?zv; (case zF => k_asm); (case zN => k_asm); (case zs => (repeat (first | exact sub_eq | refine sub_tl ?_))); (case zv => exact JumpV.n))
set_option maxRecDepth 100000 in
set_option maxHeartbeats 0 in
theorem looks (w : World) (p : Program) (loose : List Str) (mean : ExcName → Option Value) (mg mb : Str → Option Value) : LooksC PySem.Challenge.rw_ix0013_01.row.prog w (Mine.toy.heap_1_1 w.params) p loose mean mg mb := by
  k_with_none
  k_with "exec While Compare cons nil" => (k_here; k_dflt (refine whl_start 100 ?_))
  k_with "UnrEnd" => (k_dflt (refine Mine.unr2 (by k_asm) (by k_asm) (by k_all) ?_))
  k_with "compareOp In int ref" => (k_here; (with_reducible show wpAny _ _ (compareOp CmpOp.In (Value.int _ _) (Value.ref _)) _ _ _); k_dflt (with_reducible refine Mine.in_abs (by k_asm) (by k_asm) (by with_reducible assumption) ?_))
  k_with "callWith ref" => (k_here; (with_reducible show wpAny _ _ (callWith _ (Value.ref _) _ _ (backToKw _ _)) _ _ _); k_dflt (refine Mine.callKWM (by k_asm) (by k_asm) (by k_mem) (by k_is) (by exact rfl) ?_))
  k_with "compareOp Is" => k_dflt (first | ((with_reducible show wpAny _ _ (compareOp CmpOp.Is (Value.int _ _) (Value.ref _)) _ _ _); refine wpAny_is_other (by rfl) (by intro x; cases x) ?_) | ((with_reducible show wpAny _ _ (compareOp CmpOp.Is (Value.str _ _) (Value.ref _)) _ _ _); refine wpAny_is_other (by rfl) (by intro x; cases x) ?_))
  k_with "compareOp IsNot" => k_dflt (first | ((with_reducible show wpAny _ _ (compareOp CmpOp.IsNot (Value.int _ _) (Value.ref _)) _ _ _); refine wpAny_isNot_other (by rfl) (by intro x; cases x) ?_) | ((with_reducible show wpAny _ _ (compareOp CmpOp.IsNot (Value.str _ _) (Value.ref _)) _ _ _); refine wpAny_isNot_other (by rfl) (by intro x; cases x) ?_))
  k_with "compareOp Is ref ref" => ((with_reducible show wpAny _ _ (compareOp CmpOp.Is (Value.ref _) (Value.ref _)) _ _ _); with_reducible refine wpAny_is_ref_self ?_)
  k_with "compareOp IsNot ref ref" => ((with_reducible show wpAny _ _ (compareOp CmpOp.IsNot (Value.ref _) (Value.ref _)) _ _ _); with_reducible refine wpAny_isNot_ref_self ?_)
  k_with "loadName" => (k_here; k_dflt (refine Mine.nmLn (by kernel_rfl!) (by exact rfl) (by k_asm) (by exact rfl) ?_))
  k_with "eval Name" => k_dflt (first | refine Mine.nmL (by kernel_rfl!) (by exact rfl) (by k_asm) (by exact rfl) ?_ | refine Mine.nmK (by kernel_rfl!) (by exact rfl) (by k_asm) (by k_asm) (by k_asm) (by k_is) ?_)
  k_with "binaryOp Sub int int" => (with_reducible refine Mine.sub_g ?_; intro z hz)
  k_with "binaryOp Mult int int" => (with_reducible refine Mine.mul_g ?_; intro z hz)
  k_with "execs nil" => first | (with_reducible refine Mine.gen_toks (fun tk => ?_); with_reducible refine wpAny_execs_nil ?_) | with_reducible refine wpAny_execs_nil ?_
  k_with "execs cons" => first | (with_reducible refine Mine.gen_toks (fun tk => ?_); with_reducible refine wpAny_execs_cons ?_) | with_reducible refine wpAny_execs_cons ?_
  k_with "ite" => (k_closed; k_dflt (first | refine PySem.W.ite_pos rfl ?_ | refine PySem.W.ite_neg Bool.false_ne_true ?_ | refine PySem.W.ite_pos (by decide) ?_ | refine PySem.W.ite_neg (by decide) ?_))
  k_with "wpAt" => k_dflt (first | (ks_step "execs cons"; refine ks_wpAt_execs_cons ?_) | ((with_reducible show _root_.PySem.wpAt _ _ _ (execs _ _) _ _ _); ks_step "execs cons"; refine ks_wpAt_execs_cons ?_) | (ks_step "exec Expr"; refine ks_wpAt_Expr_any ?_) | (ks_step "eval Call"; first | ((with_reducible show _root_.PySem.wpAt _ _ _ (eval (Expr.Call _ _ [] _) _) _ _ _); refine ks_wpAt_MethodCall ?_) | refine Mine.atMethodKW ?_) | (ks_step "attributeBase Call"; refine ks_node (by k_asm) (by k_asm) (by k_asm) (by k_asm) (by k_is) (by rfl) (by rfl) (by k_inst) (by k_is) (by rfl) (by exact Mine.file_is) (by k_is) (by k_is) (by k_is) (by k_is) (by decide) (by rfl) (by rfl) (by rfl) (by rfl) (by exact Mine.top_super) (by exact Mine.boot_super) ?_; intro so' h' F' N' l1; (try k_lt l1)) | ((fail_if_success ks_step "attributeBase Call"); refine _root_.PySem.wpAt_of_wpAny ?_))
  k_with "ite" => with_reducible first | refine Mine.ite_t ?_ | refine Mine.ite_f ?_ | refine Mine.ite_nt ?_ | refine Mine.ite_nf ?_
  k_with "call type:range" => ((with_reducible rename _ = (0 : Int) ∨ _ = 1 ∨ _ = 2 => hmQ); (refine Or.elim hmQ (fun hm1 => ?_) (fun hm2 => Or.elim hm2 (fun hm1 => ?_) (fun hm1 => ?_)) <;> subst hm1))
  k_with "subscriptTail" => (k_here; (with_reducible show wpAny _ _ (subscriptTail _ _ (Value.ref _) (Value.str _ _)) _ _ _); k_dflt first | (with_reducible refine Mine.item23 (by with_reducible assumption) (by k_asm) (by k_asm) (by with_reducible assumption) ?_) | (with_reducible refine Mine.item28 (by with_reducible assumption) (by k_asm) (by k_asm) (by with_reducible assumption) ?_))
  k_with "compareOp In str ref" => (k_here; (with_reducible show wpAny _ _ (compareOp CmpOp.In (Value.str _ _) (Value.ref _)) _ _ _); k_dflt (with_reducible refine Mine.in28 (by with_reducible assumption) (by k_asm) (by k_asm) (by with_reducible assumption) ?_))
  k_with "WhlIf" => (first | (refine WhlIf.yes (decide_eq_true (by omega)) ?_) | (refine WhlIf.no (decide_eq_false (by omega)) ?_) | (refine Mine.ifDec ?_ ?_ <;> intro hw))
  k_with "binaryOp Add int int" => (with_reducible refine Mine.add_g ?_; intro z hz)
  k_with "inplaceOp Add int int" => (with_reducible refine Mine.iadd_g ?_; intro z hz)
  k_with "binaryOp Mod int int" => (with_reducible refine Mine.mod_g (by omega) ?_; intro z hz)
  k_with "binaryOp FloorDiv int int" => (with_reducible refine Mine.fdiv_g (by omega) (by decide +kernel) ?_; intro z hz)
  k_with "inplaceOp RShift int int" => (with_reducible refine Mine.irsh_g ?_; intro z hz)
  k_with "binaryOp BitAnd int int" => (with_reducible refine Mine.and_g ?_; intro z hz)
  k_with "call ref" => (k_here; k_dflt (first
    | (refine call_cls (by k_asm) (by k_asm) (by k_asm) (by k_is) (by k_is) (by k_is) ?_; intro x' d' h' F' N' l1 l2; (try k_lt l1); (try k_lt2 l2); (try k_sweep); first | k_enter | ks_enter)
    | (refine call_meth (by k_asm) (by k_mem) ?_; first | k_enter | ks_enter)
    | (refine wpAny_call ?_; first | k_enter | ks_enter)))
  k_with "mine binds" => ((with_reducible show BindsTo _ (fnX _ (Str.ofString "_check_arg_int") _ _ _ _ _ _ _ _ _ _ _) _ _); exact BindsTo.of_eq (binds := [(Str.ofString "arg", _), (Str.ofString "name", _)]) rfl)
  k_with "mine binds" => ((with_reducible show BindsTo _ (fnX _ (Str.ofString "opcode_has_argument") _ _ _ _ _ _ _ _ _ _ _) _ _); exact BindsTo.of_eq (binds := [(Str.ofString "opcode", _)]) rfl)
  k_with "mine binds" => ((with_reducible show BindsTo _ (fnX _ (Str.ofString "_check_location") _ _ _ _ _ _ _ _ _ _ _) _ _); exact BindsTo.of_eq (binds := [(Str.ofString "location", _), (Str.ofString "location_name", _), (Str.ofString "min_value", _)]) rfl)
  k_with "mine binds" => ((with_reducible show BindsTo _ (fnX _ (Str.ofString "InstrLocation.__init__") _ _ _ _ _ _ _ _ _ _ _) _ _); exact BindsTo.of_eq (binds := [(Str.ofString "self", _), (Str.ofString "lineno", _), (Str.ofString "end_lineno", _), (Str.ofString "col_offset", _), (Str.ofString "end_col_offset", _)]) rfl)
  k_with "mine binds" => ((with_reducible show BindsTo _ (fnX _ (Str.ofString "BaseInstr.__init__") _ _ _ _ _ _ _ _ _ _ _) _ _); refine Mine.bindsF (binds := [(Str.ofString "self", _), (Str.ofString "name", _), (Str.ofString "arg", _), (Str.ofString "lineno", _), (Str.ofString "location", _)]) (by with_reducible assumption) (by k_asm) (by exact rfl) (by k_is) (by exact rfl) (by exact rfl) (by exact rfl))
  k_with "mine binds" => ((with_reducible show BindsTo _ (fnX _ (Str.ofString "BaseInstr.name") _ _ _ _ _ _ _ _ _ _ _) _ _); exact BindsTo.of_eq (binds := [(Str.ofString "self", _)]) rfl)
  k_with "mine binds" => ((with_reducible show BindsTo _ (fnX _ (Str.ofString "BaseInstr.name") _ _ _ _ _ _ _ _ _ _ _) _ _); exact BindsTo.of_eq (binds := [(Str.ofString "self", _), (Str.ofString "name", _)]) rfl)
  k_with "mine binds" => ((with_reducible show BindsTo _ (fnX _ (Str.ofString "BaseInstr.arg") _ _ _ _ _ _ _ _ _ _ _) _ _); exact BindsTo.of_eq (binds := [(Str.ofString "self", _)]) rfl)
  k_with "mine binds" => ((with_reducible show BindsTo _ (fnX _ (Str.ofString "BaseInstr.arg") _ _ _ _ _ _ _ _ _ _ _) _ _); exact BindsTo.of_eq (binds := [(Str.ofString "self", _), (Str.ofString "arg", _)]) rfl)
  k_with "mine binds" => ((with_reducible show BindsTo _ (fnX _ (Str.ofString "BaseInstr.lineno") _ _ _ _ _ _ _ _ _ _ _) _ _); exact BindsTo.of_eq (binds := [(Str.ofString "self", _)]) rfl)
  k_with "mine binds" => ((with_reducible show BindsTo _ (fnX _ (Str.ofString "BaseInstr.lineno") _ _ _ _ _ _ _ _ _ _ _) _ _); exact BindsTo.of_eq (binds := [(Str.ofString "self", _), (Str.ofString "lineno", _)]) rfl)
  k_with "mine binds" => ((with_reducible show BindsTo _ (fnX _ (Str.ofString "BaseInstr.is_abs_jump") _ _ _ _ _ _ _ _ _ _ _) _ _); exact BindsTo.of_eq (binds := [(Str.ofString "self", _)]) rfl)
  k_with "mine binds" => ((with_reducible show BindsTo _ (fnX _ (Str.ofString "BaseInstr.is_forward_rel_jump") _ _ _ _ _ _ _ _ _ _ _) _ _); exact BindsTo.of_eq (binds := [(Str.ofString "self", _)]) rfl)
  k_with "mine binds" => ((with_reducible show BindsTo _ (fnX _ (Str.ofString "BaseInstr.is_backward_rel_jump") _ _ _ _ _ _ _ _ _ _ _) _ _); exact BindsTo.of_eq (binds := [(Str.ofString "self", _)]) rfl)
  k_with "mine binds" => ((with_reducible show BindsTo _ (fnX _ (Str.ofString "BaseInstr._set") _ _ _ _ _ _ _ _ _ _ _) _ _); exact BindsTo.of_eq (binds := [(Str.ofString "self", _), (Str.ofString "name", _), (Str.ofString "arg", _)]) rfl)
  k_with "mine binds" => ((with_reducible show BindsTo _ (fnX _ (Str.ofString "ConcreteInstr.__init__") _ _ _ _ _ _ _ _ _ _ _) _ _); refine Mine.bindsF (binds := [(Str.ofString "self", _), (Str.ofString "name", _), (Str.ofString "arg", _), (Str.ofString "lineno", _), (Str.ofString "location", _), (Str.ofString "extended_args", _)]) (by with_reducible assumption) (by k_asm) (by exact rfl) (by k_is) (by exact rfl) (by exact rfl) (by exact rfl))
  k_with "mine binds" => ((with_reducible show BindsTo _ (fnX _ (Str.ofString "ConcreteInstr._check_arg") _ _ _ _ _ _ _ _ _ _ _) _ _); exact BindsTo.of_eq (binds := [(Str.ofString "self", _), (Str.ofString "name", _), (Str.ofString "opcode", _), (Str.ofString "arg", _)]) rfl)
  k_with "mine binds" => ((with_reducible show BindsTo _ (fnX _ (Str.ofString "ConcreteInstr._set") _ _ _ _ _ _ _ _ _ _ _) _ _); exact BindsTo.of_eq (binds := [(Str.ofString "self", _), (Str.ofString "name", _), (Str.ofString "arg", _)]) rfl)
  k_with "mine binds" => ((with_reducible show BindsTo _ (fnX _ (Str.ofString "ConcreteInstr.size") _ _ _ _ _ _ _ _ _ _ _) _ _); exact BindsTo.of_eq (binds := [(Str.ofString "self", _)]) rfl)
  k_with "mine binds" => ((with_reducible show BindsTo _ (fnX _ (Str.ofString "ConcreteInstr._cmp_key") _ _ _ _ _ _ _ _ _ _ _) _ _); exact BindsTo.of_eq (binds := [(Str.ofString "self", _)]) rfl)
  k_with "mine binds" => ((with_reducible show BindsTo _ (fnX _ (Str.ofString "ConcreteInstr.get_jump_target") _ _ _ _ _ _ _ _ _ _ _) _ _); exact BindsTo.of_eq (binds := [(Str.ofString "self", _), (Str.ofString "instr_offset", _)]) rfl)
  k_with "mine binds" => ((with_reducible show BindsTo _ (fnX _ (Str.ofString "ConcreteInstr.assemble") _ _ _ _ _ _ _ _ _ _ _) _ _); exact BindsTo.of_eq (binds := [(Str.ofString "self", _)]) rfl)
  k_with "mine binds" => ((with_reducible show BindsTo _ (fnX _ (Str.ofString "ConcreteInstr.disassemble") _ _ _ _ _ _ _ _ _ _ _) _ _); exact BindsTo.of_eq (binds := [(Str.ofString "lineno", _), (Str.ofString "code", _), (Str.ofString "offset", _)]) rfl)
  k_with "mine binds" => ((with_reducible show BindsTo _ (fnX _ (Str.ofString "ConcreteInstr.use_cache_opcodes") _ _ _ _ _ _ _ _ _ _ _) _ _); exact BindsTo.of_eq (binds := [(Str.ofString "self", _)]) rfl)
  k_with "mine binds" => ((with_reducible show BindsTo _ (fnX _ (Str.ofString "_law_octets") _ _ _ _ _ _ _ _ _ _ _) _ _); exact BindsTo.of_eq (binds := [(Str.ofString "name", _), (Str.ofString "number", _), (Str.ofString "more", _)]) rfl)
  k_with "mine binds" => ((with_reducible show BindsTo _ (fnX _ (Str.ofString "_law_looks") _ _ _ _ _ _ _ _ _ _ _) _ _); exact BindsTo.of_eq (binds := [(Str.ofString "op", _), (Str.ofString "kind", _), (Str.ofString "number", _), (Str.ofString "more", _), (Str.ofString "at", _)]) rfl)
  k_with "mine binds" => ((with_reducible show BindsTo _ (fnX _ (Str.ofString "_law_made") _ _ _ _ _ _ _ _ _ _ _) _ _); exact BindsTo.of_eq (binds := [(Str.ofString "name", _), (Str.ofString "number", _)]) rfl)
  k_with "mine binds" => ((with_reducible show BindsTo _ (fnX _ (Str.ofString "_law_turned") _ _ _ _ _ _ _ _ _ _ _) _ _); exact BindsTo.of_eq (binds := [(Str.ofString "op", _), (Str.ofString "number", _)]) rfl)
  k_with "mine binds" => ((with_reducible show BindsTo _ (fnX _ (Str.ofString "_law_alone") _ _ _ _ _ _ _ _ _ _ _) _ _); exact BindsTo.of_eq (binds := [(Str.ofString "kind", _), (Str.ofString "number", _), (Str.ofString "at", _)]) rfl)
  k_with "call ref" => ((with_reducible show wpAny _ _ (call (Value.ref 428) _) _ _ _); k_dflt (refine Mine.OctC.use (by with_reducible assumption) (by k_asm) (by k_asm) (by with_reducible assumption) (by k_asm) (by with_reducible assumption) (by ktr_room) (by ktr_units) (by with_reducible assumption) (by with_reducible assumption) (by assumption) (by assumption) (by assumption) (by assumption) (by assumption) ?_; intro T' tb' tw' h' tk' F' l1 N'; (try k_sweep)))
  k_with "call ref" => ((with_reducible show wpAny _ _ (call (Value.ref 372) _) _ _ _); k_dflt (refine Mine.AsmC.use (by with_reducible assumption) (by k_asm) (by k_asm) (by with_reducible assumption) (by k_asm) (by with_reducible assumption) (by ktr_room) (by ktr_units) (by k_mem) (by k_mem) (by assumption) (by assumption) (by assumption) (by assumption) (by first | rfl | assumption) (by assumption) ?_; intro tb' h' tk' F' N'; (try k_sweep)))
  k_with "call ref" => ((with_reducible show wpAny _ _ (call (Value.ref 409) _) _ _ _); k_dflt (refine Mine.UseC.use (by with_reducible assumption) (by k_asm) (by k_asm) (by with_reducible assumption) (by k_asm) (by with_reducible assumption) (by ktr_room) (by ktr_units) (by with_reducible assumption) (by k_mem) (by k_mem) (by with_reducible assumption) ?_; intro t' h' tk' F' N'; (try k_sweep)))
  k_with "call ref" => ((with_reducible show wpAny _ _ (call (Value.ref 365) _) _ _ _); k_dflt (refine Mine.JumpC.use (by with_reducible assumption) (by k_asm) (by k_asm) (by with_reducible assumption) (by k_asm) (by with_reducible assumption) (by ktr_room) (by ktr_units) (by with_reducible assumption) (by k_mem) (by k_mem) (by with_reducible assumption) (by with_reducible assumption) (by exact Or.inr ⟨_, rfl⟩) ?_; intro v' h' tk' hv' F' N'; (try k_sweep); (rcases hv' with ⟨hd0, rfl⟩ | ⟨hd0, t', rfl⟩ | ⟨hd0, t', rfl⟩ <;> first | (exfalso; omega) | subst hd0)))
  k_with "call ref" => ((with_reducible show wpAny _ _ (call (Value.ref 399) _) _ _ _); k_dflt (refine Mine.DisC.looks (by with_reducible assumption) (by k_asm) (by k_asm) (by with_reducible assumption) (by k_asm) (by with_reducible assumption) (by ktr_room) (by ktr_units) (by with_reducible assumption) (by with_reducible assumption) (by with_reducible assumption) (by with_reducible assumption) (by with_reducible assumption) (by assumption) (by assumption) (by assumption) (by omega) ?_; intro x' d' y' e' k1' k2' k3' k4' k5' k6' k7' ts' j1' j2' j3' j4' t' sz' h' tk' F' N'; (try k_sweep)))
  k_with "ite" => (k_dflt (first | refine PySem.W.ite_neg (by simp only [bne_self_eq_false, Bool.false_eq_true, not_false_eq_true]) ?_ | refine PySem.W.ite_pos (by simp only [beq_self_eq_true]) ?_ | refine PySem.W.ite_pos (by simp only [decide_eq_true_eq, beq_iff_eq, bne_iff_ne, ne_eq]; omega) ?_ | refine PySem.W.ite_neg (by simp only [decide_eq_true_eq, beq_iff_eq, bne_iff_ne, ne_eq]; omega) ?_))
  k_with "subscriptTail" => (k_here; (with_reducible show wpAny _ _ (subscriptTail _ (PySem.Expr.Constant _ _ _) (Value.ref _) (Value.int _ _)) _ _ _); k_dflt (refine item_tupleT (News.isTup (by k_asm) (by k_mem)) (by decide) (by decide) (by rfl) (by rfl) ?_))
  unfold LooksC At
  intro dp un gd cn sn sg so sm a ccd cl outer A₀ base h₀ L m news s Q E B F X N T hdp hun TD X1 D1 U1 k1 k2 k3 k4 k5 k6 k7 t0 t1 t2 ts tx ta tb td tn tm tat ext lo x c cch dir n more sz at_ bj x1 d1 u1 hk hhas hn0 hn1 hsz hmo hext hret
  have hNews : NewsIs news := True.intro
  have OC := oct w p loose mean mg mb
  have AC := asm w p loose mean mg mb
  have UC := useC w p loose mean mg mb
  have JC := jumpC w p loose mean mg mb
  have DC := dis w p loose mean mg mb
  subst hsz
  obtain ⟨hop, hnm, hjmp, hca, hdi, hc0, hc1, hxl⟩ := hk
  w_strict k_steps
  all_goals (refine' true_end hret ?zF ?zN ?zs ?zb; (case zF => k_asm); (case zN => k_asm); (case zs => (repeat (first | exact sub_eq | refine sub_tl ?_))); (case zb => first | rfl | (simp only [beq_iff_eq]; omega) | (exfalso; omega)))
set_option maxRecDepth 100000 in
set_option maxHeartbeats 0 in
theorem checkErr (w : World) (p : Program) (loose : List Str) (mean : ExcName → Option Value) (mg mb : Str → Option Value) : CheckErrC PySem.Challenge.rw_ix0013_01.row.prog w (Mine.toy.heap_1_1 w.params) p loose mean mg mb := by
  k_with_none
  k_with "exec While Compare cons nil" => (k_here; k_dflt (refine whl_start 100 ?_))
  k_with "UnrEnd" => (k_dflt (refine Mine.unr2 (by k_asm) (by k_asm) (by k_all) ?_))
  k_with "compareOp In int ref" => (k_here; (with_reducible show wpAny _ _ (compareOp CmpOp.In (Value.int _ _) (Value.ref _)) _ _ _); k_dflt (with_reducible refine Mine.in_abs (by k_asm) (by k_asm) (by with_reducible assumption) ?_))
  k_with "callWith ref" => (k_here; (with_reducible show wpAny _ _ (callWith _ (Value.ref _) _ _ (backToKw _ _)) _ _ _); k_dflt (refine Mine.callKWM (by k_asm) (by k_asm) (by k_mem) (by k_is) (by exact rfl) ?_))
  k_with "compareOp Is" => k_dflt (first | ((with_reducible show wpAny _ _ (compareOp CmpOp.Is (Value.int _ _) (Value.ref _)) _ _ _); refine wpAny_is_other (by rfl) (by intro x; cases x) ?_) | ((with_reducible show wpAny _ _ (compareOp CmpOp.Is (Value.str _ _) (Value.ref _)) _ _ _); refine wpAny_is_other (by rfl) (by intro x; cases x) ?_))
  k_with "compareOp IsNot" => k_dflt (first | ((with_reducible show wpAny _ _ (compareOp CmpOp.IsNot (Value.int _ _) (Value.ref _)) _ _ _); refine wpAny_isNot_other (by rfl) (by intro x; cases x) ?_) | ((with_reducible show wpAny _ _ (compareOp CmpOp.IsNot (Value.str _ _) (Value.ref _)) _ _ _); refine wpAny_isNot_other (by rfl) (by intro x; cases x) ?_))
  k_with "compareOp Is ref ref" => ((with_reducible show wpAny _ _ (compareOp CmpOp.Is (Value.ref _) (Value.ref _)) _ _ _); with_reducible refine wpAny_is_ref_self ?_)
  k_with "compareOp IsNot ref ref" => ((with_reducible show wpAny _ _ (compareOp CmpOp.IsNot (Value.ref _) (Value.ref _)) _ _ _); with_reducible refine wpAny_isNot_ref_self ?_)
  k_with "loadName" => (k_here; k_dflt (refine Mine.nmLn (by kernel_rfl!) (by exact rfl) (by k_asm) (by exact rfl) ?_))
  k_with "eval Name" => k_dflt (first | refine Mine.nmL (by kernel_rfl!) (by exact rfl) (by k_asm) (by exact rfl) ?_ | refine Mine.nmK (by kernel_rfl!) (by exact rfl) (by k_asm) (by k_asm) (by k_asm) (by k_is) ?_)
  k_with "binaryOp Sub int int" => (with_reducible refine Mine.sub_g ?_; intro z hz)
  k_with "binaryOp Mult int int" => (with_reducible refine Mine.mul_g ?_; intro z hz)
  k_with "execs nil" => first | (with_reducible refine Mine.gen_toks (fun tk => ?_); with_reducible refine wpAny_execs_nil ?_) | with_reducible refine wpAny_execs_nil ?_
  k_with "execs cons" => first | (with_reducible refine Mine.gen_toks (fun tk => ?_); with_reducible refine wpAny_execs_cons ?_) | with_reducible refine wpAny_execs_cons ?_
  k_with "ite" => (k_closed; k_dflt (first | refine PySem.W.ite_pos rfl ?_ | refine PySem.W.ite_neg Bool.false_ne_true ?_ | refine PySem.W.ite_pos (by decide) ?_ | refine PySem.W.ite_neg (by decide) ?_))
  k_with "wpAt" => k_dflt (first | (ks_step "execs cons"; refine ks_wpAt_execs_cons ?_) | ((with_reducible show _root_.PySem.wpAt _ _ _ (execs _ _) _ _ _); ks_step "execs cons"; refine ks_wpAt_execs_cons ?_) | (ks_step "exec Expr"; refine ks_wpAt_Expr_any ?_) | (ks_step "eval Call"; first | ((with_reducible show _root_.PySem.wpAt _ _ _ (eval (Expr.Call _ _ [] _) _) _ _ _); refine ks_wpAt_MethodCall ?_) | refine Mine.atMethodKW ?_) | (ks_step "attributeBase Call"; refine ks_node (by k_asm) (by k_asm) (by k_asm) (by k_asm) (by k_is) (by rfl) (by rfl) (by k_inst) (by k_is) (by rfl) (by exact Mine.file_is) (by k_is) (by k_is) (by k_is) (by k_is) (by decide) (by rfl) (by rfl) (by rfl) (by rfl) (by exact Mine.top_super) (by exact Mine.boot_super) ?_; intro so' h' F' N' l1; (try k_lt l1)) | ((fail_if_success ks_step "attributeBase Call"); refine _root_.PySem.wpAt_of_wpAny ?_))
  k_with "ite" => with_reducible first | refine Mine.ite_t ?_ | refine Mine.ite_f ?_ | refine Mine.ite_nt ?_ | refine Mine.ite_nf ?_
  k_with "call type:range" => ((with_reducible rename _ = (0 : Int) ∨ _ = 1 ∨ _ = 2 => hmQ); (refine Or.elim hmQ (fun hm1 => ?_) (fun hm2 => Or.elim hm2 (fun hm1 => ?_) (fun hm1 => ?_)) <;> subst hm1))
  k_with "subscriptTail" => (k_here; (with_reducible show wpAny _ _ (subscriptTail _ _ (Value.ref _) (Value.str _ _)) _ _ _); k_dflt first | (with_reducible refine Mine.item23 (by with_reducible assumption) (by k_asm) (by k_asm) (by with_reducible assumption) ?_) | (with_reducible refine Mine.item28 (by with_reducible assumption) (by k_asm) (by k_asm) (by with_reducible assumption) ?_))
  k_with "compareOp In str ref" => (k_here; (with_reducible show wpAny _ _ (compareOp CmpOp.In (Value.str _ _) (Value.ref _)) _ _ _); k_dflt (with_reducible refine Mine.in28 (by with_reducible assumption) (by k_asm) (by k_asm) (by with_reducible assumption) ?_))
  k_with "WhlIf" => (first | (refine WhlIf.yes (decide_eq_true (by omega)) ?_) | (refine WhlIf.no (decide_eq_false (by omega)) ?_) | (refine Mine.ifDec ?_ ?_ <;> intro hw))
  k_with "binaryOp Add int int" => (with_reducible refine Mine.add_g ?_; intro z hz)
  k_with "inplaceOp Add int int" => (with_reducible refine Mine.iadd_g ?_; intro z hz)
  k_with "binaryOp Mod int int" => (with_reducible refine Mine.mod_g (by omega) ?_; intro z hz)
  k_with "binaryOp FloorDiv int int" => (with_reducible refine Mine.fdiv_g (by omega) (by decide +kernel) ?_; intro z hz)
  k_with "inplaceOp RShift int int" => (with_reducible refine Mine.irsh_g ?_; intro z hz)
  k_with "binaryOp BitAnd int int" => (with_reducible refine Mine.and_g ?_; intro z hz)
  k_with "call ref" => (k_here; k_dflt (first
    | (refine call_cls (by k_asm) (by k_asm) (by k_asm) (by k_is) (by k_is) (by k_is) ?_; intro x' d' h' F' N' l1 l2; (try k_lt l1); (try k_lt2 l2); (try k_sweep); first | k_enter | ks_enter)
    | (refine call_meth (by k_asm) (by k_mem) ?_; first | k_enter | ks_enter)
    | (refine wpAny_call ?_; first | k_enter | ks_enter)))
  k_with "mine binds" => ((with_reducible show BindsTo _ (fnX _ (Str.ofString "_check_arg_int") _ _ _ _ _ _ _ _ _ _ _) _ _); exact BindsTo.of_eq (binds := [(Str.ofString "arg", _), (Str.ofString "name", _)]) rfl)
  k_with "mine binds" => ((with_reducible show BindsTo _ (fnX _ (Str.ofString "opcode_has_argument") _ _ _ _ _ _ _ _ _ _ _) _ _); exact BindsTo.of_eq (binds := [(Str.ofString "opcode", _)]) rfl)
  k_with "mine binds" => ((with_reducible show BindsTo _ (fnX _ (Str.ofString "_check_location") _ _ _ _ _ _ _ _ _ _ _) _ _); exact BindsTo.of_eq (binds := [(Str.ofString "location", _), (Str.ofString "location_name", _), (Str.ofString "min_value", _)]) rfl)
  k_with "mine binds" => ((with_reducible show BindsTo _ (fnX _ (Str.ofString "InstrLocation.__init__") _ _ _ _ _ _ _ _ _ _ _) _ _); exact BindsTo.of_eq (binds := [(Str.ofString "self", _), (Str.ofString "lineno", _), (Str.ofString "end_lineno", _), (Str.ofString "col_offset", _), (Str.ofString "end_col_offset", _)]) rfl)
  k_with "mine binds" => ((with_reducible show BindsTo _ (fnX _ (Str.ofString "BaseInstr.__init__") _ _ _ _ _ _ _ _ _ _ _) _ _); refine Mine.bindsF (binds := [(Str.ofString "self", _), (Str.ofString "name", _), (Str.ofString "arg", _), (Str.ofString "lineno", _), (Str.ofString "location", _)]) (by with_reducible assumption) (by k_asm) (by exact rfl) (by k_is) (by exact rfl) (by exact rfl) (by exact rfl))
  k_with "mine binds" => ((with_reducible show BindsTo _ (fnX _ (Str.ofString "BaseInstr.name") _ _ _ _ _ _ _ _ _ _ _) _ _); exact BindsTo.of_eq (binds := [(Str.ofString "self", _)]) rfl)
  k_with "mine binds" => ((with_reducible show BindsTo _ (fnX _ (Str.ofString "BaseInstr.name") _ _ _ _ _ _ _ _ _ _ _) _ _); exact BindsTo.of_eq (binds := [(Str.ofString "self", _), (Str.ofString "name", _)]) rfl)
  k_with "mine binds" => ((with_reducible show BindsTo _ (fnX _ (Str.ofString "BaseInstr.arg") _ _ _ _ _ _ _ _ _ _ _) _ _); exact BindsTo.of_eq (binds := [(Str.ofString "self", _)]) rfl)
  k_with "mine binds" => ((with_reducible show BindsTo _ (fnX _ (Str.ofString "BaseInstr.arg") _ _ _ _ _ _ _ _ _ _ _) _ _); exact BindsTo.of_eq (binds := [(Str.ofString "self", _), (Str.ofString "arg", _)]) rfl)
  k_with "mine binds" => ((with_reducible show BindsTo _ (fnX _ (Str.ofString "BaseInstr.lineno") _ _ _ _ _ _ _ _ _ _ _) _ _); exact BindsTo.of_eq (binds := [(Str.ofString "self", _)]) rfl)
  k_with "mine binds" => ((with_reducible show BindsTo _ (fnX _ (Str.ofString "BaseInstr.lineno") _ _ _ _ _ _ _ _ _ _ _) _ _); exact BindsTo.of_eq (binds := [(Str.ofString "self", _), (Str.ofString "lineno", _)]) rfl)
  k_with "mine binds" => ((with_reducible show BindsTo _ (fnX _ (Str.ofString "BaseInstr.is_abs_jump") _ _ _ _ _ _ _ _ _ _ _) _ _); exact BindsTo.of_eq (binds := [(Str.ofString "self", _)]) rfl)
  k_with "mine binds" => ((with_reducible show BindsTo _ (fnX _ (Str.ofString "BaseInstr.is_forward_rel_jump") _ _ _ _ _ _ _ _ _ _ _) _ _); exact BindsTo.of_eq (binds := [(Str.ofString "self", _)]) rfl)
  k_with "mine binds" => ((with_reducible show BindsTo _ (fnX _ (Str.ofString "BaseInstr.is_backward_rel_jump") _ _ _ _ _ _ _ _ _ _ _) _ _); exact BindsTo.of_eq (binds := [(Str.ofString "self", _)]) rfl)
  k_with "mine binds" => ((with_reducible show BindsTo _ (fnX _ (Str.ofString "BaseInstr._set") _ _ _ _ _ _ _ _ _ _ _) _ _); exact BindsTo.of_eq (binds := [(Str.ofString "self", _), (Str.ofString "name", _), (Str.ofString "arg", _)]) rfl)
  k_with "mine binds" => ((with_reducible show BindsTo _ (fnX _ (Str.ofString "ConcreteInstr.__init__") _ _ _ _ _ _ _ _ _ _ _) _ _); refine Mine.bindsF (binds := [(Str.ofString "self", _), (Str.ofString "name", _), (Str.ofString "arg", _), (Str.ofString "lineno", _), (Str.ofString "location", _), (Str.ofString "extended_args", _)]) (by with_reducible assumption) (by k_asm) (by exact rfl) (by k_is) (by exact rfl) (by exact rfl) (by exact rfl))
  k_with "mine binds" => ((with_reducible show BindsTo _ (fnX _ (Str.ofString "ConcreteInstr._check_arg") _ _ _ _ _ _ _ _ _ _ _) _ _); exact BindsTo.of_eq (binds := [(Str.ofString "self", _), (Str.ofString "name", _), (Str.ofString "opcode", _), (Str.ofString "arg", _)]) rfl)
  k_with "mine binds" => ((with_reducible show BindsTo _ (fnX _ (Str.ofString "ConcreteInstr._set") _ _ _ _ _ _ _ _ _ _ _) _ _); exact BindsTo.of_eq (binds := [(Str.ofString "self", _), (Str.ofString "name", _), (Str.ofString "arg", _)]) rfl)
  k_with "mine binds" => ((with_reducible show BindsTo _ (fnX _ (Str.ofString "ConcreteInstr.size") _ _ _ _ _ _ _ _ _ _ _) _ _); exact BindsTo.of_eq (binds := [(Str.ofString "self", _)]) rfl)
  k_with "mine binds" => ((with_reducible show BindsTo _ (fnX _ (Str.ofString "ConcreteInstr._cmp_key") _ _ _ _ _ _ _ _ _ _ _) _ _); exact BindsTo.of_eq (binds := [(Str.ofString "self", _)]) rfl)
  k_with "mine binds" => ((with_reducible show BindsTo _ (fnX _ (Str.ofString "ConcreteInstr.get_jump_target") _ _ _ _ _ _ _ _ _ _ _) _ _); exact BindsTo.of_eq (binds := [(Str.ofString "self", _), (Str.ofString "instr_offset", _)]) rfl)
  k_with "mine binds" => ((with_reducible show BindsTo _ (fnX _ (Str.ofString "ConcreteInstr.assemble") _ _ _ _ _ _ _ _ _ _ _) _ _); exact BindsTo.of_eq (binds := [(Str.ofString "self", _)]) rfl)
  k_with "mine binds" => ((with_reducible show BindsTo _ (fnX _ (Str.ofString "ConcreteInstr.disassemble") _ _ _ _ _ _ _ _ _ _ _) _ _); exact BindsTo.of_eq (binds := [(Str.ofString "lineno", _), (Str.ofString "code", _), (Str.ofString "offset", _)]) rfl)
  k_with "mine binds" => ((with_reducible show BindsTo _ (fnX _ (Str.ofString "ConcreteInstr.use_cache_opcodes") _ _ _ _ _ _ _ _ _ _ _) _ _); exact BindsTo.of_eq (binds := [(Str.ofString "self", _)]) rfl)
  k_with "mine binds" => ((with_reducible show BindsTo _ (fnX _ (Str.ofString "_law_octets") _ _ _ _ _ _ _ _ _ _ _) _ _); exact BindsTo.of_eq (binds := [(Str.ofString "name", _), (Str.ofString "number", _), (Str.ofString "more", _)]) rfl)
  k_with "mine binds" => ((with_reducible show BindsTo _ (fnX _ (Str.ofString "_law_looks") _ _ _ _ _ _ _ _ _ _ _) _ _); exact BindsTo.of_eq (binds := [(Str.ofString "op", _), (Str.ofString "kind", _), (Str.ofString "number", _), (Str.ofString "more", _), (Str.ofString "at", _)]) rfl)
  k_with "mine binds" => ((with_reducible show BindsTo _ (fnX _ (Str.ofString "_law_made") _ _ _ _ _ _ _ _ _ _ _) _ _); exact BindsTo.of_eq (binds := [(Str.ofString "name", _), (Str.ofString "number", _)]) rfl)
  k_with "mine binds" => ((with_reducible show BindsTo _ (fnX _ (Str.ofString "_law_turned") _ _ _ _ _ _ _ _ _ _ _) _ _); exact BindsTo.of_eq (binds := [(Str.ofString "op", _), (Str.ofString "number", _)]) rfl)
  k_with "mine binds" => ((with_reducible show BindsTo _ (fnX _ (Str.ofString "_law_alone") _ _ _ _ _ _ _ _ _ _ _) _ _); exact BindsTo.of_eq (binds := [(Str.ofString "kind", _), (Str.ofString "number", _), (Str.ofString "at", _)]) rfl)
  k_with "leaving ref" => (k_here; first
    | (refine' leave_newS ?k1 ?k0 ?k2 ?k3 ?_; (case k0 => assumption); (case k2 => assumption); (case k1 => assumption); (case k3 => k_asm); k_whole; intro h' S' R' U'; (try dsimp only [InitBack] at S' R' U' ⊢))
    | (k_dflt (refine' Mine.leave_onSX ?k1 ?k2 ?k3 ?k4 ?_; (case k3 => assumption); (case k2 => assumption); (case k1 => assumption); (case k4 => assumption); k_whole; intro h' S' U'; (try dsimp only [InitBack] at S' U' ⊢))))
  k_with "binaryOp Add str str" => k_dflt (refine PyProof.Rows.add_str ?_ (by rw [sizeLine_eq]; simp only [Str.length_append]; (repeat (first | (rw [show Str.length (Str.ofString "operation ") = 10 by decide +kernel]) | (rw [show Str.length (Str.ofString " requires an argument") = 21 by decide +kernel]) | (rw [show Str.length (Str.ofString " has no argument") = 16 by decide +kernel]))); omega); intro _ _)
  k_with "ite" => (k_dflt (first | refine PySem.W.ite_pos (by simp only [decide_eq_true_eq, beq_iff_eq]; omega) ?_ | refine PySem.W.ite_neg (by simp only [decide_eq_true_eq, beq_iff_eq]; omega) ?_))
  unfold CheckErrC AtE
  intro dp un gd cn sn sg so sm a ccd cl outer A₀ base h₀ L m news s Q E B F X N T hdp hun X1 x t0 t1 c v r ex hxl hbad hret
  have hNews : NewsIs news := True.intro
  rcases hbad with ⟨hhas, ⟨n, t2, rfl, hn, rfl, rfl⟩ | ⟨n, t2, rfl, hn, hn1, rfl, rfl⟩ | ⟨t2, rfl, rfl, rfl⟩ | ⟨rfl, rfl, rfl⟩⟩ | ⟨hhas, hc, n, t2, rfl, rfl, rfl⟩
  w_strict k_steps
  all_goals (refine' hret _ _ _ (Flies.intro ?R ?F ?U ?sub); (case R => assumption); (case F => assumption); (case U => assumption); (case sub => (repeat (first | exact sub_eq | refine sub_tl ?_))))
set_option maxRecDepth 100000 in
set_option maxHeartbeats 0 in
theorem setErr (w : World) (p : Program) (loose : List Str) (mean : ExcName → Option Value) (mg mb : Str → Option Value) : SetErrC PySem.Challenge.rw_ix0013_01.row.prog w (Mine.toy.heap_1_1 w.params) p loose mean mg mb := by
  k_with_none
  k_with "exec While Compare cons nil" => (k_here; k_dflt (refine whl_start 100 ?_))
  k_with "UnrEnd" => (k_dflt (refine Mine.unr2 (by k_asm) (by k_asm) (by k_all) ?_))
  k_with "compareOp In int ref" => (k_here; (with_reducible show wpAny _ _ (compareOp CmpOp.In (Value.int _ _) (Value.ref _)) _ _ _); k_dflt (with_reducible refine Mine.in_abs (by k_asm) (by k_asm) (by with_reducible assumption) ?_))
  k_with "callWith ref" => (k_here; (with_reducible show wpAny _ _ (callWith _ (Value.ref _) _ _ (backToKw _ _)) _ _ _); k_dflt (refine Mine.callKWM (by k_asm) (by k_asm) (by k_mem) (by k_is) (by exact rfl) ?_))
  k_with "compareOp Is" => k_dflt (first | ((with_reducible show wpAny _ _ (compareOp CmpOp.Is (Value.int _ _) (Value.ref _)) _ _ _); refine wpAny_is_other (by rfl) (by intro x; cases x) ?_) | ((with_reducible show wpAny _ _ (compareOp CmpOp.Is (Value.str _ _) (Value.ref _)) _ _ _); refine wpAny_is_other (by rfl) (by intro x; cases x) ?_))
  k_with "compareOp IsNot" => k_dflt (first | ((with_reducible show wpAny _ _ (compareOp CmpOp.IsNot (Value.int _ _) (Value.ref _)) _ _ _); refine wpAny_isNot_other (by rfl) (by intro x; cases x) ?_) | ((with_reducible show wpAny _ _ (compareOp CmpOp.IsNot (Value.str _ _) (Value.ref _)) _ _ _); refine wpAny_isNot_other (by rfl) (by intro x; cases x) ?_))
  k_with "compareOp Is ref ref" => ((with_reducible show wpAny _ _ (compareOp CmpOp.Is (Value.ref _) (Value.ref _)) _ _ _); with_reducible refine wpAny_is_ref_self ?_)
  k_with "compareOp IsNot ref ref" => ((with_reducible show wpAny _ _ (compareOp CmpOp.IsNot (Value.ref _) (Value.ref _)) _ _ _); with_reducible refine wpAny_isNot_ref_self ?_)
  k_with "loadName" => (k_here; k_dflt (refine Mine.nmLn (by kernel_rfl!) (by exact rfl) (by k_asm) (by exact rfl) ?_))
  k_with "eval Name" => k_dflt (first | refine Mine.nmL (by kernel_rfl!) (by exact rfl) (by k_asm) (by exact rfl) ?_ | refine Mine.nmK (by kernel_rfl!) (by exact rfl) (by k_asm) (by k_asm) (by k_asm) (by k_is) ?_)
  k_with "binaryOp Sub int int" => (with_reducible refine Mine.sub_g ?_; intro z hz)
  k_with "binaryOp Mult int int" => (with_reducible refine Mine.mul_g ?_; intro z hz)
  k_with "execs nil" => first | (with_reducible refine Mine.gen_toks (fun tk => ?_); with_reducible refine wpAny_execs_nil ?_) | with_reducible refine wpAny_execs_nil ?_
  k_with "execs cons" => first | (with_reducible refine Mine.gen_toks (fun tk => ?_); with_reducible refine wpAny_execs_cons ?_) | with_reducible refine wpAny_execs_cons ?_
  k_with "ite" => (k_closed; k_dflt (first | refine PySem.W.ite_pos rfl ?_ | refine PySem.W.ite_neg Bool.false_ne_true ?_ | refine PySem.W.ite_pos (by decide) ?_ | refine PySem.W.ite_neg (by decide) ?_))
  k_with "wpAt" => k_dflt (first | (ks_step "execs cons"; refine ks_wpAt_execs_cons ?_) | ((with_reducible show _root_.PySem.wpAt _ _ _ (execs _ _) _ _ _); ks_step "execs cons"; refine ks_wpAt_execs_cons ?_) | (ks_step "exec Expr"; refine ks_wpAt_Expr_any ?_) | (ks_step "eval Call"; first | ((with_reducible show _root_.PySem.wpAt _ _ _ (eval (Expr.Call _ _ [] _) _) _ _ _); refine ks_wpAt_MethodCall ?_) | refine Mine.atMethodKW ?_) | (ks_step "attributeBase Call"; refine ks_node (by k_asm) (by k_asm) (by k_asm) (by k_asm) (by k_is) (by rfl) (by rfl) (by k_inst) (by k_is) (by rfl) (by exact Mine.file_is) (by k_is) (by k_is) (by k_is) (by k_is) (by decide) (by rfl) (by rfl) (by rfl) (by rfl) (by exact Mine.top_super) (by exact Mine.boot_super) ?_; intro so' h' F' N' l1; (try k_lt l1)) | ((fail_if_success ks_step "attributeBase Call"); refine _root_.PySem.wpAt_of_wpAny ?_))
  k_with "ite" => with_reducible first | refine Mine.ite_t ?_ | refine Mine.ite_f ?_ | refine Mine.ite_nt ?_ | refine Mine.ite_nf ?_
  k_with "call type:range" => ((with_reducible rename _ = (0 : Int) ∨ _ = 1 ∨ _ = 2 => hmQ); (refine Or.elim hmQ (fun hm1 => ?_) (fun hm2 => Or.elim hm2 (fun hm1 => ?_) (fun hm1 => ?_)) <;> subst hm1))
  k_with "subscriptTail" => (k_here; (with_reducible show wpAny _ _ (subscriptTail _ _ (Value.ref _) (Value.str _ _)) _ _ _); k_dflt first | (with_reducible refine Mine.item23 (by with_reducible assumption) (by k_asm) (by k_asm) (by with_reducible assumption) ?_) | (with_reducible refine Mine.item28 (by with_reducible assumption) (by k_asm) (by k_asm) (by with_reducible assumption) ?_))
  k_with "compareOp In str ref" => (k_here; (with_reducible show wpAny _ _ (compareOp CmpOp.In (Value.str _ _) (Value.ref _)) _ _ _); k_dflt (with_reducible refine Mine.in28 (by with_reducible assumption) (by k_asm) (by k_asm) (by with_reducible assumption) ?_))
  k_with "WhlIf" => (first | (refine WhlIf.yes (decide_eq_true (by omega)) ?_) | (refine WhlIf.no (decide_eq_false (by omega)) ?_) | (refine Mine.ifDec ?_ ?_ <;> intro hw))
  k_with "binaryOp Add int int" => (with_reducible refine Mine.add_g ?_; intro z hz)
  k_with "inplaceOp Add int int" => (with_reducible refine Mine.iadd_g ?_; intro z hz)
  k_with "binaryOp Mod int int" => (with_reducible refine Mine.mod_g (by omega) ?_; intro z hz)
  k_with "binaryOp FloorDiv int int" => (with_reducible refine Mine.fdiv_g (by omega) (by decide +kernel) ?_; intro z hz)
  k_with "inplaceOp RShift int int" => (with_reducible refine Mine.irsh_g ?_; intro z hz)
  k_with "binaryOp BitAnd int int" => (with_reducible refine Mine.and_g ?_; intro z hz)
  k_with "call ref" => (k_here; k_dflt (first
    | (refine call_cls (by k_asm) (by k_asm) (by k_asm) (by k_is) (by k_is) (by k_is) ?_; intro x' d' h' F' N' l1 l2; (try k_lt l1); (try k_lt2 l2); (try k_sweep); first | k_enter | ks_enter)
    | (refine call_meth (by k_asm) (by k_mem) ?_; first | k_enter | ks_enter)
    | (refine wpAny_call ?_; first | k_enter | ks_enter)))
  k_with "mine binds" => ((with_reducible show BindsTo _ (fnX _ (Str.ofString "_check_arg_int") _ _ _ _ _ _ _ _ _ _ _) _ _); exact BindsTo.of_eq (binds := [(Str.ofString "arg", _), (Str.ofString "name", _)]) rfl)
  k_with "mine binds" => ((with_reducible show BindsTo _ (fnX _ (Str.ofString "opcode_has_argument") _ _ _ _ _ _ _ _ _ _ _) _ _); exact BindsTo.of_eq (binds := [(Str.ofString "opcode", _)]) rfl)
  k_with "mine binds" => ((with_reducible show BindsTo _ (fnX _ (Str.ofString "_check_location") _ _ _ _ _ _ _ _ _ _ _) _ _); exact BindsTo.of_eq (binds := [(Str.ofString "location", _), (Str.ofString "location_name", _), (Str.ofString "min_value", _)]) rfl)
  k_with "mine binds" => ((with_reducible show BindsTo _ (fnX _ (Str.ofString "InstrLocation.__init__") _ _ _ _ _ _ _ _ _ _ _) _ _); exact BindsTo.of_eq (binds := [(Str.ofString "self", _), (Str.ofString "lineno", _), (Str.ofString "end_lineno", _), (Str.ofString "col_offset", _), (Str.ofString "end_col_offset", _)]) rfl)
  k_with "mine binds" => ((with_reducible show BindsTo _ (fnX _ (Str.ofString "BaseInstr.__init__") _ _ _ _ _ _ _ _ _ _ _) _ _); refine Mine.bindsF (binds := [(Str.ofString "self", _), (Str.ofString "name", _), (Str.ofString "arg", _), (Str.ofString "lineno", _), (Str.ofString "location", _)]) (by with_reducible assumption) (by k_asm) (by exact rfl) (by k_is) (by exact rfl) (by exact rfl) (by exact rfl))
  k_with "mine binds" => ((with_reducible show BindsTo _ (fnX _ (Str.ofString "BaseInstr.name") _ _ _ _ _ _ _ _ _ _ _) _ _); exact BindsTo.of_eq (binds := [(Str.ofString "self", _)]) rfl)
  k_with "mine binds" => ((with_reducible show BindsTo _ (fnX _ (Str.ofString "BaseInstr.name") _ _ _ _ _ _ _ _ _ _ _) _ _); exact BindsTo.of_eq (binds := [(Str.ofString "self", _), (Str.ofString "name", _)]) rfl)
  k_with "mine binds" => ((with_reducible show BindsTo _ (fnX _ (Str.ofString "BaseInstr.arg") _ _ _ _ _ _ _ _ _ _ _) _ _); exact BindsTo.of_eq (binds := [(Str.ofString "self", _)]) rfl)
  k_with "mine binds" => ((with_reducible show BindsTo _ (fnX _ (Str.ofString "BaseInstr.arg") _ _ _ _ _ _ _ _ _ _ _) _ _); exact BindsTo.of_eq (binds := [(Str.ofString "self", _), (Str.ofString "arg", _)]) rfl)
  k_with "mine binds" => ((with_reducible show BindsTo _ (fnX _ (Str.ofString "BaseInstr.lineno") _ _ _ _ _ _ _ _ _ _ _) _ _); exact BindsTo.of_eq (binds := [(Str.ofString "self", _)]) rfl)
  k_with "mine binds" => ((with_reducible show BindsTo _ (fnX _ (Str.ofString "BaseInstr.lineno") _ _ _ _ _ _ _ _ _ _ _) _ _); exact BindsTo.of_eq (binds := [(Str.ofString "self", _), (Str.ofString "lineno", _)]) rfl)
  k_with "mine binds" => ((with_reducible show BindsTo _ (fnX _ (Str.ofString "BaseInstr.is_abs_jump") _ _ _ _ _ _ _ _ _ _ _) _ _); exact BindsTo.of_eq (binds := [(Str.ofString "self", _)]) rfl)
  k_with "mine binds" => ((with_reducible show BindsTo _ (fnX _ (Str.ofString "BaseInstr.is_forward_rel_jump") _ _ _ _ _ _ _ _ _ _ _) _ _); exact BindsTo.of_eq (binds := [(Str.ofString "self", _)]) rfl)
  k_with "mine binds" => ((with_reducible show BindsTo _ (fnX _ (Str.ofString "BaseInstr.is_backward_rel_jump") _ _ _ _ _ _ _ _ _ _ _) _ _); exact BindsTo.of_eq (binds := [(Str.ofString "self", _)]) rfl)
  k_with "mine binds" => ((with_reducible show BindsTo _ (fnX _ (Str.ofString "BaseInstr._set") _ _ _ _ _ _ _ _ _ _ _) _ _); exact BindsTo.of_eq (binds := [(Str.ofString "self", _), (Str.ofString "name", _), (Str.ofString "arg", _)]) rfl)
  k_with "mine binds" => ((with_reducible show BindsTo _ (fnX _ (Str.ofString "ConcreteInstr.__init__") _ _ _ _ _ _ _ _ _ _ _) _ _); refine Mine.bindsF (binds := [(Str.ofString "self", _), (Str.ofString "name", _), (Str.ofString "arg", _), (Str.ofString "lineno", _), (Str.ofString "location", _), (Str.ofString "extended_args", _)]) (by with_reducible assumption) (by k_asm) (by exact rfl) (by k_is) (by exact rfl) (by exact rfl) (by exact rfl))
  k_with "mine binds" => ((with_reducible show BindsTo _ (fnX _ (Str.ofString "ConcreteInstr._check_arg") _ _ _ _ _ _ _ _ _ _ _) _ _); exact BindsTo.of_eq (binds := [(Str.ofString "self", _), (Str.ofString "name", _), (Str.ofString "opcode", _), (Str.ofString "arg", _)]) rfl)
  k_with "mine binds" => ((with_reducible show BindsTo _ (fnX _ (Str.ofString "ConcreteInstr._set") _ _ _ _ _ _ _ _ _ _ _) _ _); exact BindsTo.of_eq (binds := [(Str.ofString "self", _), (Str.ofString "name", _), (Str.ofString "arg", _)]) rfl)
  k_with "mine binds" => ((with_reducible show BindsTo _ (fnX _ (Str.ofString "ConcreteInstr.size") _ _ _ _ _ _ _ _ _ _ _) _ _); exact BindsTo.of_eq (binds := [(Str.ofString "self", _)]) rfl)
  k_with "mine binds" => ((with_reducible show BindsTo _ (fnX _ (Str.ofString "ConcreteInstr._cmp_key") _ _ _ _ _ _ _ _ _ _ _) _ _); exact BindsTo.of_eq (binds := [(Str.ofString "self", _)]) rfl)
  k_with "mine binds" => ((with_reducible show BindsTo _ (fnX _ (Str.ofString "ConcreteInstr.get_jump_target") _ _ _ _ _ _ _ _ _ _ _) _ _); exact BindsTo.of_eq (binds := [(Str.ofString "self", _), (Str.ofString "instr_offset", _)]) rfl)
  k_with "mine binds" => ((with_reducible show BindsTo _ (fnX _ (Str.ofString "ConcreteInstr.assemble") _ _ _ _ _ _ _ _ _ _ _) _ _); exact BindsTo.of_eq (binds := [(Str.ofString "self", _)]) rfl)
  k_with "mine binds" => ((with_reducible show BindsTo _ (fnX _ (Str.ofString "ConcreteInstr.disassemble") _ _ _ _ _ _ _ _ _ _ _) _ _); exact BindsTo.of_eq (binds := [(Str.ofString "lineno", _), (Str.ofString "code", _), (Str.ofString "offset", _)]) rfl)
  k_with "mine binds" => ((with_reducible show BindsTo _ (fnX _ (Str.ofString "ConcreteInstr.use_cache_opcodes") _ _ _ _ _ _ _ _ _ _ _) _ _); exact BindsTo.of_eq (binds := [(Str.ofString "self", _)]) rfl)
  k_with "mine binds" => ((with_reducible show BindsTo _ (fnX _ (Str.ofString "_law_octets") _ _ _ _ _ _ _ _ _ _ _) _ _); exact BindsTo.of_eq (binds := [(Str.ofString "name", _), (Str.ofString "number", _), (Str.ofString "more", _)]) rfl)
  k_with "mine binds" => ((with_reducible show BindsTo _ (fnX _ (Str.ofString "_law_looks") _ _ _ _ _ _ _ _ _ _ _) _ _); exact BindsTo.of_eq (binds := [(Str.ofString "op", _), (Str.ofString "kind", _), (Str.ofString "number", _), (Str.ofString "more", _), (Str.ofString "at", _)]) rfl)
  k_with "mine binds" => ((with_reducible show BindsTo _ (fnX _ (Str.ofString "_law_made") _ _ _ _ _ _ _ _ _ _ _) _ _); exact BindsTo.of_eq (binds := [(Str.ofString "name", _), (Str.ofString "number", _)]) rfl)
  k_with "mine binds" => ((with_reducible show BindsTo _ (fnX _ (Str.ofString "_law_turned") _ _ _ _ _ _ _ _ _ _ _) _ _); exact BindsTo.of_eq (binds := [(Str.ofString "op", _), (Str.ofString "number", _)]) rfl)
  k_with "mine binds" => ((with_reducible show BindsTo _ (fnX _ (Str.ofString "_law_alone") _ _ _ _ _ _ _ _ _ _ _) _ _); exact BindsTo.of_eq (binds := [(Str.ofString "kind", _), (Str.ofString "number", _), (Str.ofString "at", _)]) rfl)
  k_with "leaving ref" => (k_here; first
    | (refine' leave_newS ?k1 ?k0 ?k2 ?k3 ?_; (case k0 => assumption); (case k2 => assumption); (case k1 => assumption); (case k3 => k_asm); k_whole; intro h' S' R' U'; (try dsimp only [InitBack] at S' R' U' ⊢))
    | (k_dflt (refine' Mine.leave_onSX ?k1 ?k2 ?k3 ?k4 ?_; (case k3 => assumption); (case k2 => assumption); (case k1 => assumption); (case k4 => assumption); k_whole; intro h' S' U'; (try dsimp only [InitBack] at S' U' ⊢))))
  k_with "binaryOp Add str str" => k_dflt (refine PyProof.Rows.add_str ?_ (by rw [sizeLine_eq]; simp only [Str.length_append]; (repeat (first | (rw [show Str.length (Str.ofString "operation ") = 10 by decide +kernel]) | (rw [show Str.length (Str.ofString " requires an argument") = 21 by decide +kernel]) | (rw [show Str.length (Str.ofString " has no argument") = 16 by decide +kernel]))); omega); intro _ _)
  k_with "call ref" => ((with_reducible show wpAny _ _ (call (Value.ref 335) _) _ _ _); k_dflt (refine Mine.CheckErrC.use (by with_reducible assumption) (by k_asm) (by k_asm) (by with_reducible assumption) (by k_asm) (by with_reducible assumption) (by ktr_room) (by ktr_units) (by with_reducible assumption) (by with_reducible assumption) ?_; intro e' h' tk' g' F' S' U'))
  unfold SetErrC AtE
  intro dp un gd cn sn sg so sm a ccd cl outer A₀ base h₀ L m news s Q E B F X N T hdp hun TD X1 D1 o x t0 t1 c v r ex x1 d1 hso hop hxl hbad hret
  have hNews : NewsIs news := True.intro
  have CE := checkErr w p loose mean mg mb
  rcases hso with ⟨k1, rfl⟩ | ⟨k1, k2, k3, k4, k5, k6, k7, ext, nm, op, ij, ar, sz, lo, rfl⟩
  w_strict k_steps
  all_goals (refine' hret _ _ _ (Flies.intro ?R ?F ?U ?sub); (case R => assumption); (case F => assumption); (case U => assumption); (case sub => (repeat (first | exact sub_eq | refine sub_tl ?_))))
set_option maxRecDepth 100000 in
set_option maxHeartbeats 0 in
theorem made (w : World) (p : Program) (loose : List Str) (mean : ExcName → Option Value) (mg mb : Str → Option Value) : MadeC PySem.Challenge.rw_ix0013_01.row.prog w (Mine.toy.heap_1_1 w.params) p loose mean mg mb := by
  k_with_none
  k_with "exec While Compare cons nil" => (k_here; k_dflt (refine whl_start 100 ?_))
  k_with "UnrEnd" => (k_dflt (refine Mine.unr2 (by k_asm) (by k_asm) (by k_all) ?_))
  k_with "compareOp In int ref" => (k_here; (with_reducible show wpAny _ _ (compareOp CmpOp.In (Value.int _ _) (Value.ref _)) _ _ _); k_dflt (with_reducible refine Mine.in_abs (by k_asm) (by k_asm) (by with_reducible assumption) ?_))
  k_with "callWith ref" => (k_here; (with_reducible show wpAny _ _ (callWith _ (Value.ref _) _ _ (backToKw _ _)) _ _ _); k_dflt (refine Mine.callKWM (by k_asm) (by k_asm) (by k_mem) (by k_is) (by exact rfl) ?_))
  k_with "compareOp Is" => k_dflt (first | ((with_reducible show wpAny _ _ (compareOp CmpOp.Is (Value.int _ _) (Value.ref _)) _ _ _); refine wpAny_is_other (by rfl) (by intro x; cases x) ?_) | ((with_reducible show wpAny _ _ (compareOp CmpOp.Is (Value.str _ _) (Value.ref _)) _ _ _); refine wpAny_is_other (by rfl) (by intro x; cases x) ?_))
  k_with "compareOp IsNot" => k_dflt (first | ((with_reducible show wpAny _ _ (compareOp CmpOp.IsNot (Value.int _ _) (Value.ref _)) _ _ _); refine wpAny_isNot_other (by rfl) (by intro x; cases x) ?_) | ((with_reducible show wpAny _ _ (compareOp CmpOp.IsNot (Value.str _ _) (Value.ref _)) _ _ _); refine wpAny_isNot_other (by rfl) (by intro x; cases x) ?_))
  k_with "compareOp Is ref ref" => ((with_reducible show wpAny _ _ (compareOp CmpOp.Is (Value.ref _) (Value.ref _)) _ _ _); with_reducible refine wpAny_is_ref_self ?_)
  k_with "compareOp IsNot ref ref" => ((with_reducible show wpAny _ _ (compareOp CmpOp.IsNot (Value.ref _) (Value.ref _)) _ _ _); with_reducible refine wpAny_isNot_ref_self ?_)
  k_with "loadName" => (k_here; k_dflt (refine Mine.nmLn (by kernel_rfl!) (by exact rfl) (by k_asm) (by exact rfl) ?_))
  k_with "eval Name" => k_dflt (first | refine Mine.nmL (by kernel_rfl!) (by exact rfl) (by k_asm) (by exact rfl) ?_ | refine Mine.nmK (by kernel_rfl!) (by exact rfl) (by k_asm) (by k_asm) (by k_asm) (by k_is) ?_)
  k_with "binaryOp Sub int int" => (with_reducible refine Mine.sub_g ?_; intro z hz)
  k_with "binaryOp Mult int int" => (with_reducible refine Mine.mul_g ?_; intro z hz)
  k_with "execs nil" => first | (with_reducible refine Mine.gen_toks (fun tk => ?_); with_reducible refine wpAny_execs_nil ?_) | with_reducible refine wpAny_execs_nil ?_
  k_with "execs cons" => first | (with_reducible refine Mine.gen_toks (fun tk => ?_); with_reducible refine wpAny_execs_cons ?_) | with_reducible refine wpAny_execs_cons ?_
  k_with "ite" => (k_closed; k_dflt (first | refine PySem.W.ite_pos rfl ?_ | refine PySem.W.ite_neg Bool.false_ne_true ?_ | refine PySem.W.ite_pos (by decide) ?_ | refine PySem.W.ite_neg (by decide) ?_))
  k_with "wpAt" => k_dflt (first | (ks_step "execs cons"; refine ks_wpAt_execs_cons ?_) | ((with_reducible show _root_.PySem.wpAt _ _ _ (execs _ _) _ _ _); ks_step "execs cons"; refine ks_wpAt_execs_cons ?_) | (ks_step "exec Expr"; refine ks_wpAt_Expr_any ?_) | (ks_step "eval Call"; first | ((with_reducible show _root_.PySem.wpAt _ _ _ (eval (Expr.Call _ _ [] _) _) _ _ _); refine ks_wpAt_MethodCall ?_) | refine Mine.atMethodKW ?_) | (ks_step "attributeBase Call"; refine ks_node (by k_asm) (by k_asm) (by k_asm) (by k_asm) (by k_is) (by rfl) (by rfl) (by k_inst) (by k_is) (by rfl) (by exact Mine.file_is) (by k_is) (by k_is) (by k_is) (by k_is) (by decide) (by rfl) (by rfl) (by rfl) (by rfl) (by exact Mine.top_super) (by exact Mine.boot_super) ?_; intro so' h' F' N' l1; (try k_lt l1)) | ((fail_if_success ks_step "attributeBase Call"); refine _root_.PySem.wpAt_of_wpAny ?_))
  k_with "ite" => with_reducible first | refine Mine.ite_t ?_ | refine Mine.ite_f ?_ | refine Mine.ite_nt ?_ | refine Mine.ite_nf ?_
  k_with "call type:range" => ((with_reducible rename _ = (0 : Int) ∨ _ = 1 ∨ _ = 2 => hmQ); (refine Or.elim hmQ (fun hm1 => ?_) (fun hm2 => Or.elim hm2 (fun hm1 => ?_) (fun hm1 => ?_)) <;> subst hm1))
  k_with "subscriptTail" => (k_here; (with_reducible show wpAny _ _ (subscriptTail _ _ (Value.ref _) (Value.str _ _)) _ _ _); k_dflt first | (with_reducible refine Mine.item23 (by with_reducible assumption) (by k_asm) (by k_asm) (by with_reducible assumption) ?_) | (with_reducible refine Mine.item28 (by with_reducible assumption) (by k_asm) (by k_asm) (by with_reducible assumption) ?_))
  k_with "compareOp In str ref" => (k_here; (with_reducible show wpAny _ _ (compareOp CmpOp.In (Value.str _ _) (Value.ref _)) _ _ _); k_dflt (with_reducible refine Mine.in28 (by with_reducible assumption) (by k_asm) (by k_asm) (by with_reducible assumption) ?_))
  k_with "WhlIf" => (first | (refine WhlIf.yes (decide_eq_true (by omega)) ?_) | (refine WhlIf.no (decide_eq_false (by omega)) ?_) | (refine Mine.ifDec ?_ ?_ <;> intro hw))
  k_with "binaryOp Add int int" => (with_reducible refine Mine.add_g ?_; intro z hz)
  k_with "inplaceOp Add int int" => (with_reducible refine Mine.iadd_g ?_; intro z hz)
  k_with "binaryOp Mod int int" => (with_reducible refine Mine.mod_g (by omega) ?_; intro z hz)
  k_with "binaryOp FloorDiv int int" => (with_reducible refine Mine.fdiv_g (by omega) (by decide +kernel) ?_; intro z hz)
  k_with "inplaceOp RShift int int" => (with_reducible refine Mine.irsh_g ?_; intro z hz)
  k_with "binaryOp BitAnd int int" => (with_reducible refine Mine.and_g ?_; intro z hz)
  k_with "call ref" => (k_here; k_dflt (first
    | (refine call_cls (by k_asm) (by k_asm) (by k_asm) (by k_is) (by k_is) (by k_is) ?_; intro x' d' h' F' N' l1 l2; (try k_lt l1); (try k_lt2 l2); (try k_sweep); first | k_enter | ks_enter)
    | (refine call_meth (by k_asm) (by k_mem) ?_; first | k_enter | ks_enter)
    | (refine wpAny_call ?_; first | k_enter | ks_enter)))
  k_with "mine binds" => ((with_reducible show BindsTo _ (fnX _ (Str.ofString "_check_arg_int") _ _ _ _ _ _ _ _ _ _ _) _ _); exact BindsTo.of_eq (binds := [(Str.ofString "arg", _), (Str.ofString "name", _)]) rfl)
  k_with "mine binds" => ((with_reducible show BindsTo _ (fnX _ (Str.ofString "opcode_has_argument") _ _ _ _ _ _ _ _ _ _ _) _ _); exact BindsTo.of_eq (binds := [(Str.ofString "opcode", _)]) rfl)
  k_with "mine binds" => ((with_reducible show BindsTo _ (fnX _ (Str.ofString "_check_location") _ _ _ _ _ _ _ _ _ _ _) _ _); exact BindsTo.of_eq (binds := [(Str.ofString "location", _), (Str.ofString "location_name", _), (Str.ofString "min_value", _)]) rfl)
  k_with "mine binds" => ((with_reducible show BindsTo _ (fnX _ (Str.ofString "InstrLocation.__init__") _ _ _ _ _ _ _ _ _ _ _) _ _); exact BindsTo.of_eq (binds := [(Str.ofString "self", _), (Str.ofString "lineno", _), (Str.ofString "end_lineno", _), (Str.ofString "col_offset", _), (Str.ofString "end_col_offset", _)]) rfl)
  k_with "mine binds" => ((with_reducible show BindsTo _ (fnX _ (Str.ofString "BaseInstr.__init__") _ _ _ _ _ _ _ _ _ _ _) _ _); refine Mine.bindsF (binds := [(Str.ofString "self", _), (Str.ofString "name", _), (Str.ofString "arg", _), (Str.ofString "lineno", _), (Str.ofString "location", _)]) (by with_reducible assumption) (by k_asm) (by exact rfl) (by k_is) (by exact rfl) (by exact rfl) (by exact rfl))
  k_with "mine binds" => ((with_reducible show BindsTo _ (fnX _ (Str.ofString "BaseInstr.name") _ _ _ _ _ _ _ _ _ _ _) _ _); exact BindsTo.of_eq (binds := [(Str.ofString "self", _)]) rfl)
  k_with "mine binds" => ((with_reducible show BindsTo _ (fnX _ (Str.ofString "BaseInstr.name") _ _ _ _ _ _ _ _ _ _ _) _ _); exact BindsTo.of_eq (binds := [(Str.ofString "self", _), (Str.ofString "name", _)]) rfl)
  k_with "mine binds" => ((with_reducible show BindsTo _ (fnX _ (Str.ofString "BaseInstr.arg") _ _ _ _ _ _ _ _ _ _ _) _ _); exact BindsTo.of_eq (binds := [(Str.ofString "self", _)]) rfl)
  k_with "mine binds" => ((with_reducible show BindsTo _ (fnX _ (Str.ofString "BaseInstr.arg") _ _ _ _ _ _ _ _ _ _ _) _ _); exact BindsTo.of_eq (binds := [(Str.ofString "self", _), (Str.ofString "arg", _)]) rfl)
  k_with "mine binds" => ((with_reducible show BindsTo _ (fnX _ (Str.ofString "BaseInstr.lineno") _ _ _ _ _ _ _ _ _ _ _) _ _); exact BindsTo.of_eq (binds := [(Str.ofString "self", _)]) rfl)
  k_with "mine binds" => ((with_reducible show BindsTo _ (fnX _ (Str.ofString "BaseInstr.lineno") _ _ _ _ _ _ _ _ _ _ _) _ _); exact BindsTo.of_eq (binds := [(Str.ofString "self", _), (Str.ofString "lineno", _)]) rfl)
  k_with "mine binds" => ((with_reducible show BindsTo _ (fnX _ (Str.ofString "BaseInstr.is_abs_jump") _ _ _ _ _ _ _ _ _ _ _) _ _); exact BindsTo.of_eq (binds := [(Str.ofString "self", _)]) rfl)
  k_with "mine binds" => ((with_reducible show BindsTo _ (fnX _ (Str.ofString "BaseInstr.is_forward_rel_jump") _ _ _ _ _ _ _ _ _ _ _) _ _); exact BindsTo.of_eq (binds := [(Str.ofString "self", _)]) rfl)
  k_with "mine binds" => ((with_reducible show BindsTo _ (fnX _ (Str.ofString "BaseInstr.is_backward_rel_jump") _ _ _ _ _ _ _ _ _ _ _) _ _); exact BindsTo.of_eq (binds := [(Str.ofString "self", _)]) rfl)
  k_with "mine binds" => ((with_reducible show BindsTo _ (fnX _ (Str.ofString "BaseInstr._set") _ _ _ _ _ _ _ _ _ _ _) _ _); exact BindsTo.of_eq (binds := [(Str.ofString "self", _), (Str.ofString "name", _), (Str.ofString "arg", _)]) rfl)
  k_with "mine binds" => ((with_reducible show BindsTo _ (fnX _ (Str.ofString "ConcreteInstr.__init__") _ _ _ _ _ _ _ _ _ _ _) _ _); refine Mine.bindsF (binds := [(Str.ofString "self", _), (Str.ofString "name", _), (Str.ofString "arg", _), (Str.ofString "lineno", _), (Str.ofString "location", _), (Str.ofString "extended_args", _)]) (by with_reducible assumption) (by k_asm) (by exact rfl) (by k_is) (by exact rfl) (by exact rfl) (by exact rfl))
  k_with "mine binds" => ((with_reducible show BindsTo _ (fnX _ (Str.ofString "ConcreteInstr._check_arg") _ _ _ _ _ _ _ _ _ _ _) _ _); exact BindsTo.of_eq (binds := [(Str.ofString "self", _), (Str.ofString "name", _), (Str.ofString "opcode", _), (Str.ofString "arg", _)]) rfl)
  k_with "mine binds" => ((with_reducible show BindsTo _ (fnX _ (Str.ofString "ConcreteInstr._set") _ _ _ _ _ _ _ _ _ _ _) _ _); exact BindsTo.of_eq (binds := [(Str.ofString "self", _), (Str.ofString "name", _), (Str.ofString "arg", _)]) rfl)
  k_with "mine binds" => ((with_reducible show BindsTo _ (fnX _ (Str.ofString "ConcreteInstr.size") _ _ _ _ _ _ _ _ _ _ _) _ _); exact BindsTo.of_eq (binds := [(Str.ofString "self", _)]) rfl)
  k_with "mine binds" => ((with_reducible show BindsTo _ (fnX _ (Str.ofString "ConcreteInstr._cmp_key") _ _ _ _ _ _ _ _ _ _ _) _ _); exact BindsTo.of_eq (binds := [(Str.ofString "self", _)]) rfl)
  k_with "mine binds" => ((with_reducible show BindsTo _ (fnX _ (Str.ofString "ConcreteInstr.get_jump_target") _ _ _ _ _ _ _ _ _ _ _) _ _); exact BindsTo.of_eq (binds := [(Str.ofString "self", _), (Str.ofString "instr_offset", _)]) rfl)
  k_with "mine binds" => ((with_reducible show BindsTo _ (fnX _ (Str.ofString "ConcreteInstr.assemble") _ _ _ _ _ _ _ _ _ _ _) _ _); exact BindsTo.of_eq (binds := [(Str.ofString "self", _)]) rfl)
  k_with "mine binds" => ((with_reducible show BindsTo _ (fnX _ (Str.ofString "ConcreteInstr.disassemble") _ _ _ _ _ _ _ _ _ _ _) _ _); exact BindsTo.of_eq (binds := [(Str.ofString "lineno", _), (Str.ofString "code", _), (Str.ofString "offset", _)]) rfl)
  k_with "mine binds" => ((with_reducible show BindsTo _ (fnX _ (Str.ofString "ConcreteInstr.use_cache_opcodes") _ _ _ _ _ _ _ _ _ _ _) _ _); exact BindsTo.of_eq (binds := [(Str.ofString "self", _)]) rfl)
  k_with "mine binds" => ((with_reducible show BindsTo _ (fnX _ (Str.ofString "_law_octets") _ _ _ _ _ _ _ _ _ _ _) _ _); exact BindsTo.of_eq (binds := [(Str.ofString "name", _), (Str.ofString "number", _), (Str.ofString "more", _)]) rfl)
  k_with "mine binds" => ((with_reducible show BindsTo _ (fnX _ (Str.ofString "_law_looks") _ _ _ _ _ _ _ _ _ _ _) _ _); exact BindsTo.of_eq (binds := [(Str.ofString "op", _), (Str.ofString "kind", _), (Str.ofString "number", _), (Str.ofString "more", _), (Str.ofString "at", _)]) rfl)
  k_with "mine binds" => ((with_reducible show BindsTo _ (fnX _ (Str.ofString "_law_made") _ _ _ _ _ _ _ _ _ _ _) _ _); exact BindsTo.of_eq (binds := [(Str.ofString "name", _), (Str.ofString "number", _)]) rfl)
  k_with "mine binds" => ((with_reducible show BindsTo _ (fnX _ (Str.ofString "_law_turned") _ _ _ _ _ _ _ _ _ _ _) _ _); exact BindsTo.of_eq (binds := [(Str.ofString "op", _), (Str.ofString "number", _)]) rfl)
  k_with "mine binds" => ((with_reducible show BindsTo _ (fnX _ (Str.ofString "_law_alone") _ _ _ _ _ _ _ _ _ _ _) _ _); exact BindsTo.of_eq (binds := [(Str.ofString "kind", _), (Str.ofString "number", _), (Str.ofString "at", _)]) rfl)
  k_with "leaving ref" => (k_here; first
    | (refine' leave_newS ?k1 ?k0 ?k2 ?k3 ?_; (case k0 => assumption); (case k2 => assumption); (case k1 => assumption); (case k3 => k_asm); k_whole; intro h' S' R' U'; (try dsimp only [InitBack] at S' R' U' ⊢))
    | (k_dflt (refine' Mine.leave_onSX ?k1 ?k2 ?k3 ?k4 ?_; (case k3 => assumption); (case k2 => assumption); (case k1 => assumption); (case k4 => assumption); k_whole; intro h' S' U'; (try dsimp only [InitBack] at S' U' ⊢))))
  k_with "binaryOp Add str str" => k_dflt (refine PyProof.Rows.add_str ?_ (by rw [sizeLine_eq]; simp only [Str.length_append]; (repeat (first | (rw [show Str.length (Str.ofString "operation ") = 10 by decide +kernel]) | (rw [show Str.length (Str.ofString " requires an argument") = 21 by decide +kernel]) | (rw [show Str.length (Str.ofString " has no argument") = 16 by decide +kernel]))); omega); intro _ _)
  k_with "call ref" => ((with_reducible show wpAny _ _ (call (Value.ref 343) _) _ _ _); k_dflt (refine Mine.SetErrC.use (by with_reducible assumption) (by k_asm) (by k_asm) (by with_reducible assumption) (by k_asm) (by with_reducible assumption) (by ktr_room) (by ktr_units) (by with_reducible assumption) (by k_mem) (by k_mem) (by first | exact Or.inl ⟨_, rfl⟩ | exact Or.inr ⟨_, _, _, _, _, _, _, _, _, _, _, _, _, _, rfl⟩) (by with_reducible assumption) (by with_reducible assumption) (by with_reducible assumption) ?_; intro e' h' tk' g' F' S' U'))
  k_with "call ref" => ((with_reducible show wpAny _ _ (call (Value.ref 442) _) _ _ _); k_dflt (refine wpAny_call ?_; kts_go))
  k_with "noteFrame ref" => ((with_reducible rename Mine.ExKind _ _ => hK); unfold Mine.ExKind at hK; rcases hK with ⟨rfl, rfl⟩ | ⟨rfl, rfl⟩)
  unfold MadeC AtS
  intro dp un gd cn sn sg so sm a ccd outer A₀ base h₀ L m news s Q E B F X N T hdp hun XB TB DB TD x t0 t1 c v r ex hop hxl hbad hret
  have hNews : NewsIs news := True.intro
  have hKx := BadArg.kind hbad
  have SE := setErr w p loose mean mg mb
  w_strict k_steps
  all_goals (refine' turned_end hret ?zF ?zN ?zT ?zB ?zX ?zP ?zD ?zs; (case zF => k_asm); (case zN => k_asm); (case zT => assumption); (case zB => assumption); (case zX => assumption); (case zP => assumption); (case zD => assumption); (case zs => (repeat (first | exact sub_eq | refine sub_tl ?_))))
set_option maxRecDepth 100000 in
set_option maxHeartbeats 0 in
theorem turned (w : World) (p : Program) (loose : List Str) (mean : ExcName → Option Value) (mg mb : Str → Option Value) : TurnedC PySem.Challenge.rw_ix0013_01.row.prog w (Mine.toy.heap_1_1 w.params) p loose mean mg mb := by
  k_with_none
  k_with "exec While Compare cons nil" => (k_here; k_dflt (refine whl_start 100 ?_))
  k_with "UnrEnd" => (k_dflt (refine Mine.unr2 (by k_asm) (by k_asm) (by k_all) ?_))
  k_with "compareOp In int ref" => (k_here; (with_reducible show wpAny _ _ (compareOp CmpOp.In (Value.int _ _) (Value.ref _)) _ _ _); k_dflt (with_reducible refine Mine.in_abs (by k_asm) (by k_asm) (by with_reducible assumption) ?_))
  k_with "callWith ref" => (k_here; (with_reducible show wpAny _ _ (callWith _ (Value.ref _) _ _ (backToKw _ _)) _ _ _); k_dflt (refine Mine.callKWM (by k_asm) (by k_asm) (by k_mem) (by k_is) (by exact rfl) ?_))
  k_with "compareOp Is" => k_dflt (first | ((with_reducible show wpAny _ _ (compareOp CmpOp.Is (Value.int _ _) (Value.ref _)) _ _ _); refine wpAny_is_other (by rfl) (by intro x; cases x) ?_) | ((with_reducible show wpAny _ _ (compareOp CmpOp.Is (Value.str _ _) (Value.ref _)) _ _ _); refine wpAny_is_other (by rfl) (by intro x; cases x) ?_))
  k_with "compareOp IsNot" => k_dflt (first | ((with_reducible show wpAny _ _ (compareOp CmpOp.IsNot (Value.int _ _) (Value.ref _)) _ _ _); refine wpAny_isNot_other (by rfl) (by intro x; cases x) ?_) | ((with_reducible show wpAny _ _ (compareOp CmpOp.IsNot (Value.str _ _) (Value.ref _)) _ _ _); refine wpAny_isNot_other (by rfl) (by intro x; cases x) ?_))
  k_with "compareOp Is ref ref" => ((with_reducible show wpAny _ _ (compareOp CmpOp.Is (Value.ref _) (Value.ref _)) _ _ _); with_reducible refine wpAny_is_ref_self ?_)
  k_with "compareOp IsNot ref ref" => ((with_reducible show wpAny _ _ (compareOp CmpOp.IsNot (Value.ref _) (Value.ref _)) _ _ _); with_reducible refine wpAny_isNot_ref_self ?_)
  k_with "loadName" => (k_here; k_dflt (refine Mine.nmLn (by kernel_rfl!) (by exact rfl) (by k_asm) (by exact rfl) ?_))
  k_with "eval Name" => k_dflt (first | refine Mine.nmL (by kernel_rfl!) (by exact rfl) (by k_asm) (by exact rfl) ?_ | refine Mine.nmK (by kernel_rfl!) (by exact rfl) (by k_asm) (by k_asm) (by k_asm) (by k_is) ?_)
  k_with "binaryOp Sub int int" => (with_reducible refine Mine.sub_g ?_; intro z hz)
  k_with "binaryOp Mult int int" => (with_reducible refine Mine.mul_g ?_; intro z hz)
  k_with "execs nil" => first | (with_reducible refine Mine.gen_toks (fun tk => ?_); with_reducible refine wpAny_execs_nil ?_) | with_reducible refine wpAny_execs_nil ?_
  k_with "execs cons" => first | (with_reducible refine Mine.gen_toks (fun tk => ?_); with_reducible refine wpAny_execs_cons ?_) | with_reducible refine wpAny_execs_cons ?_
  k_with "ite" => (k_closed; k_dflt (first | refine PySem.W.ite_pos rfl ?_ | refine PySem.W.ite_neg Bool.false_ne_true ?_ | refine PySem.W.ite_pos (by decide) ?_ | refine PySem.W.ite_neg (by decide) ?_))
  k_with "wpAt" => k_dflt (first | (ks_step "execs cons"; refine ks_wpAt_execs_cons ?_) | ((with_reducible show _root_.PySem.wpAt _ _ _ (execs _ _) _ _ _); ks_step "execs cons"; refine ks_wpAt_execs_cons ?_) | (ks_step "exec Expr"; refine ks_wpAt_Expr_any ?_) | (ks_step "eval Call"; first | ((with_reducible show _root_.PySem.wpAt _ _ _ (eval (Expr.Call _ _ [] _) _) _ _ _); refine ks_wpAt_MethodCall ?_) | refine Mine.atMethodKW ?_) | (ks_step "attributeBase Call"; refine ks_node (by k_asm) (by k_asm) (by k_asm) (by k_asm) (by k_is) (by rfl) (by rfl) (by k_inst) (by k_is) (by rfl) (by exact Mine.file_is) (by k_is) (by k_is) (by k_is) (by k_is) (by decide) (by rfl) (by rfl) (by rfl) (by rfl) (by exact Mine.top_super) (by exact Mine.boot_super) ?_; intro so' h' F' N' l1; (try k_lt l1)) | ((fail_if_success ks_step "attributeBase Call"); refine _root_.PySem.wpAt_of_wpAny ?_))
  k_with "ite" => with_reducible first | refine Mine.ite_t ?_ | refine Mine.ite_f ?_ | refine Mine.ite_nt ?_ | refine Mine.ite_nf ?_
  k_with "call type:range" => ((with_reducible rename _ = (0 : Int) ∨ _ = 1 ∨ _ = 2 => hmQ); (refine Or.elim hmQ (fun hm1 => ?_) (fun hm2 => Or.elim hm2 (fun hm1 => ?_) (fun hm1 => ?_)) <;> subst hm1))
  k_with "subscriptTail" => (k_here; (with_reducible show wpAny _ _ (subscriptTail _ _ (Value.ref _) (Value.str _ _)) _ _ _); k_dflt first | (with_reducible refine Mine.item23 (by with_reducible assumption) (by k_asm) (by k_asm) (by with_reducible assumption) ?_) | (with_reducible refine Mine.item28 (by with_reducible assumption) (by k_asm) (by k_asm) (by with_reducible assumption) ?_))
  k_with "compareOp In str ref" => (k_here; (with_reducible show wpAny _ _ (compareOp CmpOp.In (Value.str _ _) (Value.ref _)) _ _ _); k_dflt (with_reducible refine Mine.in28 (by with_reducible assumption) (by k_asm) (by k_asm) (by with_reducible assumption) ?_))
  k_with "WhlIf" => (first | (refine WhlIf.yes (decide_eq_true (by omega)) ?_) | (refine WhlIf.no (decide_eq_false (by omega)) ?_) | (refine Mine.ifDec ?_ ?_ <;> intro hw))
  k_with "binaryOp Add int int" => (with_reducible refine Mine.add_g ?_; intro z hz)
  k_with "inplaceOp Add int int" => (with_reducible refine Mine.iadd_g ?_; intro z hz)
  k_with "binaryOp Mod int int" => (with_reducible refine Mine.mod_g (by omega) ?_; intro z hz)
  k_with "binaryOp FloorDiv int int" => (with_reducible refine Mine.fdiv_g (by omega) (by decide +kernel) ?_; intro z hz)
  k_with "inplaceOp RShift int int" => (with_reducible refine Mine.irsh_g ?_; intro z hz)
  k_with "binaryOp BitAnd int int" => (with_reducible refine Mine.and_g ?_; intro z hz)
  k_with "call ref" => (k_here; k_dflt (first
    | (refine call_cls (by k_asm) (by k_asm) (by k_asm) (by k_is) (by k_is) (by k_is) ?_; intro x' d' h' F' N' l1 l2; (try k_lt l1); (try k_lt2 l2); (try k_sweep); first | k_enter | ks_enter)
    | (refine call_meth (by k_asm) (by k_mem) ?_; first | k_enter | ks_enter)
    | (refine wpAny_call ?_; first | k_enter | ks_enter)))
  k_with "mine binds" => ((with_reducible show BindsTo _ (fnX _ (Str.ofString "_check_arg_int") _ _ _ _ _ _ _ _ _ _ _) _ _); exact BindsTo.of_eq (binds := [(Str.ofString "arg", _), (Str.ofString "name", _)]) rfl)
  k_with "mine binds" => ((with_reducible show BindsTo _ (fnX _ (Str.ofString "opcode_has_argument") _ _ _ _ _ _ _ _ _ _ _) _ _); exact BindsTo.of_eq (binds := [(Str.ofString "opcode", _)]) rfl)
  k_with "mine binds" => ((with_reducible show BindsTo _ (fnX _ (Str.ofString "_check_location") _ _ _ _ _ _ _ _ _ _ _) _ _); exact BindsTo.of_eq (binds := [(Str.ofString "location", _), (Str.ofString "location_name", _), (Str.ofString "min_value", _)]) rfl)
  k_with "mine binds" => ((with_reducible show BindsTo _ (fnX _ (Str.ofString "InstrLocation.__init__") _ _ _ _ _ _ _ _ _ _ _) _ _); exact BindsTo.of_eq (binds := [(Str.ofString "self", _), (Str.ofString "lineno", _), (Str.ofString "end_lineno", _), (Str.ofString "col_offset", _), (Str.ofString "end_col_offset", _)]) rfl)
  k_with "mine binds" => ((with_reducible show BindsTo _ (fnX _ (Str.ofString "BaseInstr.__init__") _ _ _ _ _ _ _ _ _ _ _) _ _); refine Mine.bindsF (binds := [(Str.ofString "self", _), (Str.ofString "name", _), (Str.ofString "arg", _), (Str.ofString "lineno", _), (Str.ofString "location", _)]) (by with_reducible assumption) (by k_asm) (by exact rfl) (by k_is) (by exact rfl) (by exact rfl) (by exact rfl))
  k_with "mine binds" => ((with_reducible show BindsTo _ (fnX _ (Str.ofString "BaseInstr.name") _ _ _ _ _ _ _ _ _ _ _) _ _); exact BindsTo.of_eq (binds := [(Str.ofString "self", _)]) rfl)
  k_with "mine binds" => ((with_reducible show BindsTo _ (fnX _ (Str.ofString "BaseInstr.name") _ _ _ _ _ _ _ _ _ _ _) _ _); exact BindsTo.of_eq (binds := [(Str.ofString "self", _), (Str.ofString "name", _)]) rfl)
  k_with "mine binds" => ((with_reducible show BindsTo _ (fnX _ (Str.ofString "BaseInstr.arg") _ _ _ _ _ _ _ _ _ _ _) _ _); exact BindsTo.of_eq (binds := [(Str.ofString "self", _)]) rfl)
  k_with "mine binds" => ((with_reducible show BindsTo _ (fnX _ (Str.ofString "BaseInstr.arg") _ _ _ _ _ _ _ _ _ _ _) _ _); exact BindsTo.of_eq (binds := [(Str.ofString "self", _), (Str.ofString "arg", _)]) rfl)
  k_with "mine binds" => ((with_reducible show BindsTo _ (fnX _ (Str.ofString "BaseInstr.lineno") _ _ _ _ _ _ _ _ _ _ _) _ _); exact BindsTo.of_eq (binds := [(Str.ofString "self", _)]) rfl)
  k_with "mine binds" => ((with_reducible show BindsTo _ (fnX _ (Str.ofString "BaseInstr.lineno") _ _ _ _ _ _ _ _ _ _ _) _ _); exact BindsTo.of_eq (binds := [(Str.ofString "self", _), (Str.ofString "lineno", _)]) rfl)
  k_with "mine binds" => ((with_reducible show BindsTo _ (fnX _ (Str.ofString "BaseInstr.is_abs_jump") _ _ _ _ _ _ _ _ _ _ _) _ _); exact BindsTo.of_eq (binds := [(Str.ofString "self", _)]) rfl)
  k_with "mine binds" => ((with_reducible show BindsTo _ (fnX _ (Str.ofString "BaseInstr.is_forward_rel_jump") _ _ _ _ _ _ _ _ _ _ _) _ _); exact BindsTo.of_eq (binds := [(Str.ofString "self", _)]) rfl)
  k_with "mine binds" => ((with_reducible show BindsTo _ (fnX _ (Str.ofString "BaseInstr.is_backward_rel_jump") _ _ _ _ _ _ _ _ _ _ _) _ _); exact BindsTo.of_eq (binds := [(Str.ofString "self", _)]) rfl)
  k_with "mine binds" => ((with_reducible show BindsTo _ (fnX _ (Str.ofString "BaseInstr._set") _ _ _ _ _ _ _ _ _ _ _) _ _); exact BindsTo.of_eq (binds := [(Str.ofString "self", _), (Str.ofString "name", _), (Str.ofString "arg", _)]) rfl)
  k_with "mine binds" => ((with_reducible show BindsTo _ (fnX _ (Str.ofString "ConcreteInstr.__init__") _ _ _ _ _ _ _ _ _ _ _) _ _); refine Mine.bindsF (binds := [(Str.ofString "self", _), (Str.ofString "name", _), (Str.ofString "arg", _), (Str.ofString "lineno", _), (Str.ofString "location", _), (Str.ofString "extended_args", _)]) (by with_reducible assumption) (by k_asm) (by exact rfl) (by k_is) (by exact rfl) (by exact rfl) (by exact rfl))
  k_with "mine binds" => ((with_reducible show BindsTo _ (fnX _ (Str.ofString "ConcreteInstr._check_arg") _ _ _ _ _ _ _ _ _ _ _) _ _); exact BindsTo.of_eq (binds := [(Str.ofString "self", _), (Str.ofString "name", _), (Str.ofString "opcode", _), (Str.ofString "arg", _)]) rfl)
  k_with "mine binds" => ((with_reducible show BindsTo _ (fnX _ (Str.ofString "ConcreteInstr._set") _ _ _ _ _ _ _ _ _ _ _) _ _); exact BindsTo.of_eq (binds := [(Str.ofString "self", _), (Str.ofString "name", _), (Str.ofString "arg", _)]) rfl)
  k_with "mine binds" => ((with_reducible show BindsTo _ (fnX _ (Str.ofString "ConcreteInstr.size") _ _ _ _ _ _ _ _ _ _ _) _ _); exact BindsTo.of_eq (binds := [(Str.ofString "self", _)]) rfl)
  k_with "mine binds" => ((with_reducible show BindsTo _ (fnX _ (Str.ofString "ConcreteInstr._cmp_key") _ _ _ _ _ _ _ _ _ _ _) _ _); exact BindsTo.of_eq (binds := [(Str.ofString "self", _)]) rfl)
  k_with "mine binds" => ((with_reducible show BindsTo _ (fnX _ (Str.ofString "ConcreteInstr.get_jump_target") _ _ _ _ _ _ _ _ _ _ _) _ _); exact BindsTo.of_eq (binds := [(Str.ofString "self", _), (Str.ofString "instr_offset", _)]) rfl)
  k_with "mine binds" => ((with_reducible show BindsTo _ (fnX _ (Str.ofString "ConcreteInstr.assemble") _ _ _ _ _ _ _ _ _ _ _) _ _); exact BindsTo.of_eq (binds := [(Str.ofString "self", _)]) rfl)
  k_with "mine binds" => ((with_reducible show BindsTo _ (fnX _ (Str.ofString "ConcreteInstr.disassemble") _ _ _ _ _ _ _ _ _ _ _) _ _); exact BindsTo.of_eq (binds := [(Str.ofString "lineno", _), (Str.ofString "code", _), (Str.ofString "offset", _)]) rfl)
  k_with "mine binds" => ((with_reducible show BindsTo _ (fnX _ (Str.ofString "ConcreteInstr.use_cache_opcodes") _ _ _ _ _ _ _ _ _ _ _) _ _); exact BindsTo.of_eq (binds := [(Str.ofString "self", _)]) rfl)
  k_with "mine binds" => ((with_reducible show BindsTo _ (fnX _ (Str.ofString "_law_octets") _ _ _ _ _ _ _ _ _ _ _) _ _); exact BindsTo.of_eq (binds := [(Str.ofString "name", _), (Str.ofString "number", _), (Str.ofString "more", _)]) rfl)
  k_with "mine binds" => ((with_reducible show BindsTo _ (fnX _ (Str.ofString "_law_looks") _ _ _ _ _ _ _ _ _ _ _) _ _); exact BindsTo.of_eq (binds := [(Str.ofString "op", _), (Str.ofString "kind", _), (Str.ofString "number", _), (Str.ofString "more", _), (Str.ofString "at", _)]) rfl)
  k_with "mine binds" => ((with_reducible show BindsTo _ (fnX _ (Str.ofString "_law_made") _ _ _ _ _ _ _ _ _ _ _) _ _); exact BindsTo.of_eq (binds := [(Str.ofString "name", _), (Str.ofString "number", _)]) rfl)
  k_with "mine binds" => ((with_reducible show BindsTo _ (fnX _ (Str.ofString "_law_turned") _ _ _ _ _ _ _ _ _ _ _) _ _); exact BindsTo.of_eq (binds := [(Str.ofString "op", _), (Str.ofString "number", _)]) rfl)
  k_with "mine binds" => ((with_reducible show BindsTo _ (fnX _ (Str.ofString "_law_alone") _ _ _ _ _ _ _ _ _ _ _) _ _); exact BindsTo.of_eq (binds := [(Str.ofString "kind", _), (Str.ofString "number", _), (Str.ofString "at", _)]) rfl)
  k_with "leaving ref" => (k_here; first
    | (refine' leave_newS ?k1 ?k0 ?k2 ?k3 ?_; (case k0 => assumption); (case k2 => assumption); (case k1 => assumption); (case k3 => k_asm); k_whole; intro h' S' R' U'; (try dsimp only [InitBack] at S' R' U' ⊢))
    | (k_dflt (refine' Mine.leave_onSX ?k1 ?k2 ?k3 ?k4 ?_; (case k3 => assumption); (case k2 => assumption); (case k1 => assumption); (case k4 => assumption); k_whole; intro h' S' U'; (try dsimp only [InitBack] at S' U' ⊢))))
  k_with "binaryOp Add str str" => k_dflt (refine PyProof.Rows.add_str ?_ (by rw [sizeLine_eq]; simp only [Str.length_append]; (repeat (first | (rw [show Str.length (Str.ofString "operation ") = 10 by decide +kernel]) | (rw [show Str.length (Str.ofString " requires an argument") = 21 by decide +kernel]) | (rw [show Str.length (Str.ofString " has no argument") = 16 by decide +kernel]))); omega); intro _ _)
  k_with "call ref" => ((with_reducible show wpAny _ _ (call (Value.ref 343) _) _ _ _); k_dflt (refine Mine.SetErrC.use (by with_reducible assumption) (by k_asm) (by k_asm) (by with_reducible assumption) (by k_asm) (by with_reducible assumption) (by ktr_room) (by ktr_units) (by with_reducible assumption) (by k_mem) (by k_mem) (by first | exact Or.inl ⟨_, rfl⟩ | exact Or.inr ⟨_, _, _, _, _, _, _, _, _, _, _, _, _, _, rfl⟩) (by with_reducible assumption) (by with_reducible assumption) (by with_reducible assumption) ?_; intro e' h' tk' g' F' S' U'))
  k_with "call ref" => ((with_reducible show wpAny _ _ (call (Value.ref 449) _) _ _ _); k_dflt (refine wpAny_call ?_; kts_go))
  k_with "noteFrame ref" => ((with_reducible rename Mine.ExKind _ _ => hK); unfold Mine.ExKind at hK; rcases hK with ⟨rfl, rfl⟩ | ⟨rfl, rfl⟩)
  unfold TurnedC AtS
  intro dp un gd cn sn sg so sm a ccd outer A₀ base h₀ L m news s Q E B F X N T hdp hun XB TB DB TD X1 D1 k1 k2 k3 k4 k5 k6 k7 ext op ij ar sz lo x t0 t1 c v r ex x1 d1 hop hxl hbad hret
  have hNews : NewsIs news := True.intro
  have hKx := BadArg.kind hbad
  have SE := setErr w p loose mean mg mb
  w_strict k_steps
  all_goals (refine' turned_end hret ?zF ?zN ?zT ?zB ?zX ?zP ?zD ?zs; (case zF => k_asm); (case zN => k_asm); (case zT => assumption); (case zB => assumption); (case zX => assumption); (case zP => assumption); (case zD => assumption); (case zs => (repeat (first | exact sub_eq | refine sub_tl ?_))))
set_option maxRecDepth 100000 in
set_option maxHeartbeats 0 in
theorem alone (w : World) (p : Program) (loose : List Str) (mean : ExcName → Option Value) (mg mb : Str → Option Value) : AloneC PySem.Challenge.rw_ix0013_01.row.prog w (Mine.toy.heap_1_1 w.params) p loose mean mg mb := by
  k_with_none
  k_with "exec While Compare cons nil" => (k_here; k_dflt (refine whl_start 100 ?_))
  k_with "UnrEnd" => (k_dflt (refine Mine.unr2 (by k_asm) (by k_asm) (by k_all) ?_))
  k_with "compareOp In int ref" => (k_here; (with_reducible show wpAny _ _ (compareOp CmpOp.In (Value.int _ _) (Value.ref _)) _ _ _); k_dflt (with_reducible refine Mine.in_abs (by k_asm) (by k_asm) (by with_reducible assumption) ?_))
  k_with "callWith ref" => (k_here; (with_reducible show wpAny _ _ (callWith _ (Value.ref _) _ _ (backToKw _ _)) _ _ _); k_dflt (refine Mine.callKWM (by k_asm) (by k_asm) (by k_mem) (by k_is) (by exact rfl) ?_))
  k_with "compareOp Is" => k_dflt (first | ((with_reducible show wpAny _ _ (compareOp CmpOp.Is (Value.int _ _) (Value.ref _)) _ _ _); refine wpAny_is_other (by rfl) (by intro x; cases x) ?_) | ((with_reducible show wpAny _ _ (compareOp CmpOp.Is (Value.str _ _) (Value.ref _)) _ _ _); refine wpAny_is_other (by rfl) (by intro x; cases x) ?_))
  k_with "compareOp IsNot" => k_dflt (first | ((with_reducible show wpAny _ _ (compareOp CmpOp.IsNot (Value.int _ _) (Value.ref _)) _ _ _); refine wpAny_isNot_other (by rfl) (by intro x; cases x) ?_) | ((with_reducible show wpAny _ _ (compareOp CmpOp.IsNot (Value.str _ _) (Value.ref _)) _ _ _); refine wpAny_isNot_other (by rfl) (by intro x; cases x) ?_))
  k_with "compareOp Is ref ref" => ((with_reducible show wpAny _ _ (compareOp CmpOp.Is (Value.ref _) (Value.ref _)) _ _ _); with_reducible refine wpAny_is_ref_self ?_)
  k_with "compareOp IsNot ref ref" => ((with_reducible show wpAny _ _ (compareOp CmpOp.IsNot (Value.ref _) (Value.ref _)) _ _ _); with_reducible refine wpAny_isNot_ref_self ?_)
  k_with "loadName" => (k_here; k_dflt (refine Mine.nmLn (by kernel_rfl!) (by exact rfl) (by k_asm) (by exact rfl) ?_))
  k_with "eval Name" => k_dflt (first | refine Mine.nmL (by kernel_rfl!) (by exact rfl) (by k_asm) (by exact rfl) ?_ | refine Mine.nmK (by kernel_rfl!) (by exact rfl) (by k_asm) (by k_asm) (by k_asm) (by k_is) ?_)
  k_with "binaryOp Sub int int" => (with_reducible refine Mine.sub_g ?_; intro z hz)
  k_with "binaryOp Mult int int" => (with_reducible refine Mine.mul_g ?_; intro z hz)
  k_with "execs nil" => first | (with_reducible refine Mine.gen_toks (fun tk => ?_); with_reducible refine wpAny_execs_nil ?_) | with_reducible refine wpAny_execs_nil ?_
  k_with "execs cons" => first | (with_reducible refine Mine.gen_toks (fun tk => ?_); with_reducible refine wpAny_execs_cons ?_) | with_reducible refine wpAny_execs_cons ?_
  k_with "ite" => (k_closed; k_dflt (first | refine PySem.W.ite_pos rfl ?_ | refine PySem.W.ite_neg Bool.false_ne_true ?_ | refine PySem.W.ite_pos (by decide) ?_ | refine PySem.W.ite_neg (by decide) ?_))
  k_with "wpAt" => k_dflt (first | (ks_step "execs cons"; refine ks_wpAt_execs_cons ?_) | ((with_reducible show _root_.PySem.wpAt _ _ _ (execs _ _) _ _ _); ks_step "execs cons"; refine ks_wpAt_execs_cons ?_) | (ks_step "exec Expr"; refine ks_wpAt_Expr_any ?_) | (ks_step "eval Call"; first | ((with_reducible show _root_.PySem.wpAt _ _ _ (eval (Expr.Call _ _ [] _) _) _ _ _); refine ks_wpAt_MethodCall ?_) | refine Mine.atMethodKW ?_) | (ks_step "attributeBase Call"; refine ks_node (by k_asm) (by k_asm) (by k_asm) (by k_asm) (by k_is) (by rfl) (by rfl) (by k_inst) (by k_is) (by rfl) (by exact Mine.file_is) (by k_is) (by k_is) (by k_is) (by k_is) (by decide) (by rfl) (by rfl) (by rfl) (by rfl) (by exact Mine.top_super) (by exact Mine.boot_super) ?_; intro so' h' F' N' l1; (try k_lt l1)) | ((fail_if_success ks_step "attributeBase Call"); refine _root_.PySem.wpAt_of_wpAny ?_))
  k_with "ite" => with_reducible first | refine Mine.ite_t ?_ | refine Mine.ite_f ?_ | refine Mine.ite_nt ?_ | refine Mine.ite_nf ?_
  k_with "call type:range" => ((with_reducible rename _ = (0 : Int) ∨ _ = 1 ∨ _ = 2 => hmQ); (refine Or.elim hmQ (fun hm1 => ?_) (fun hm2 => Or.elim hm2 (fun hm1 => ?_) (fun hm1 => ?_)) <;> subst hm1))
  k_with "subscriptTail" => (k_here; (with_reducible show wpAny _ _ (subscriptTail _ _ (Value.ref _) (Value.str _ _)) _ _ _); k_dflt first | (with_reducible refine Mine.item23 (by with_reducible assumption) (by k_asm) (by k_asm) (by with_reducible assumption) ?_) | (with_reducible refine Mine.item28 (by with_reducible assumption) (by k_asm) (by k_asm) (by with_reducible assumption) ?_))
  k_with "compareOp In str ref" => (k_here; (with_reducible show wpAny _ _ (compareOp CmpOp.In (Value.str _ _) (Value.ref _)) _ _ _); k_dflt (with_reducible refine Mine.in28 (by with_reducible assumption) (by k_asm) (by k_asm) (by with_reducible assumption) ?_))
  k_with "WhlIf" => (first | (refine WhlIf.yes (decide_eq_true (by omega)) ?_) | (refine WhlIf.no (decide_eq_false (by omega)) ?_) | (refine Mine.ifDec ?_ ?_ <;> intro hw))
  k_with "binaryOp Add int int" => (with_reducible refine Mine.add_g ?_; intro z hz)
  k_with "inplaceOp Add int int" => (with_reducible refine Mine.iadd_g ?_; intro z hz)
  k_with "binaryOp Mod int int" => (with_reducible refine Mine.mod_g (by omega) ?_; intro z hz)
  k_with "binaryOp FloorDiv int int" => (with_reducible refine Mine.fdiv_g (by omega) (by decide +kernel) ?_; intro z hz)
  k_with "inplaceOp RShift int int" => (with_reducible refine Mine.irsh_g ?_; intro z hz)
  k_with "binaryOp BitAnd int int" => (with_reducible refine Mine.and_g ?_; intro z hz)
  k_with "call ref" => (k_here; k_dflt (first
    | (refine call_cls (by k_asm) (by k_asm) (by k_asm) (by k_is) (by k_is) (by k_is) ?_; intro x' d' h' F' N' l1 l2; (try k_lt l1); (try k_lt2 l2); (try k_sweep); first | k_enter | ks_enter)
    | (refine call_meth (by k_asm) (by k_mem) ?_; first | k_enter | ks_enter)
    | (refine wpAny_call ?_; first | k_enter | ks_enter)))
  k_with "mine binds" => ((with_reducible show BindsTo _ (fnX _ (Str.ofString "_check_arg_int") _ _ _ _ _ _ _ _ _ _ _) _ _); exact BindsTo.of_eq (binds := [(Str.ofString "arg", _), (Str.ofString "name", _)]) rfl)
  k_with "mine binds" => ((with_reducible show BindsTo _ (fnX _ (Str.ofString "opcode_has_argument") _ _ _ _ _ _ _ _ _ _ _) _ _); exact BindsTo.of_eq (binds := [(Str.ofString "opcode", _)]) rfl)
  k_with "mine binds" => ((with_reducible show BindsTo _ (fnX _ (Str.ofString "_check_location") _ _ _ _ _ _ _ _ _ _ _) _ _); exact BindsTo.of_eq (binds := [(Str.ofString "location", _), (Str.ofString "location_name", _), (Str.ofString "min_value", _)]) rfl)
  k_with "mine binds" => ((with_reducible show BindsTo _ (fnX _ (Str.ofString "InstrLocation.__init__") _ _ _ _ _ _ _ _ _ _ _) _ _); exact BindsTo.of_eq (binds := [(Str.ofString "self", _), (Str.ofString "lineno", _), (Str.ofString "end_lineno", _), (Str.ofString "col_offset", _), (Str.ofString "end_col_offset", _)]) rfl)
  k_with "mine binds" => ((with_reducible show BindsTo _ (fnX _ (Str.ofString "BaseInstr.__init__") _ _ _ _ _ _ _ _ _ _ _) _ _); refine Mine.bindsF (binds := [(Str.ofString "self", _), (Str.ofString "name", _), (Str.ofString "arg", _), (Str.ofString "lineno", _), (Str.ofString "location", _)]) (by with_reducible assumption) (by k_asm) (by exact rfl) (by k_is) (by exact rfl) (by exact rfl) (by exact rfl))
  k_with "mine binds" => ((with_reducible show BindsTo _ (fnX _ (Str.ofString "BaseInstr.name") _ _ _ _ _ _ _ _ _ _ _) _ _); exact BindsTo.of_eq (binds := [(Str.ofString "self", _)]) rfl)
  k_with "mine binds" => ((with_reducible show BindsTo _ (fnX _ (Str.ofString "BaseInstr.name") _ _ _ _ _ _ _ _ _ _ _) _ _); exact BindsTo.of_eq (binds := [(Str.ofString "self", _), (Str.ofString "name", _)]) rfl)
  k_with "mine binds" => ((with_reducible show BindsTo _ (fnX _ (Str.ofString "BaseInstr.arg") _ _ _ _ _ _ _ _ _ _ _) _ _); exact BindsTo.of_eq (binds := [(Str.ofString "self", _)]) rfl)
  k_with "mine binds" => ((with_reducible show BindsTo _ (fnX _ (Str.ofString "BaseInstr.arg") _ _ _ _ _ _ _ _ _ _ _) _ _); exact BindsTo.of_eq (binds := [(Str.ofString "self", _), (Str.ofString "arg", _)]) rfl)
  k_with "mine binds" => ((with_reducible show BindsTo _ (fnX _ (Str.ofString "BaseInstr.lineno") _ _ _ _ _ _ _ _ _ _ _) _ _); exact BindsTo.of_eq (binds := [(Str.ofString "self", _)]) rfl)
  k_with "mine binds" => ((with_reducible show BindsTo _ (fnX _ (Str.ofString "BaseInstr.lineno") _ _ _ _ _ _ _ _ _ _ _) _ _); exact BindsTo.of_eq (binds := [(Str.ofString "self", _), (Str.ofString "lineno", _)]) rfl)
  k_with "mine binds" => ((with_reducible show BindsTo _ (fnX _ (Str.ofString "BaseInstr.is_abs_jump") _ _ _ _ _ _ _ _ _ _ _) _ _); exact BindsTo.of_eq (binds := [(Str.ofString "self", _)]) rfl)
  k_with "mine binds" => ((with_reducible show BindsTo _ (fnX _ (Str.ofString "BaseInstr.is_forward_rel_jump") _ _ _ _ _ _ _ _ _ _ _) _ _); exact BindsTo.of_eq (binds := [(Str.ofString "self", _)]) rfl)
  k_with "mine binds" => ((with_reducible show BindsTo _ (fnX _ (Str.ofString "BaseInstr.is_backward_rel_jump") _ _ _ _ _ _ _ _ _ _ _) _ _); exact BindsTo.of_eq (binds := [(Str.ofString "self", _)]) rfl)
  k_with "mine binds" => ((with_reducible show BindsTo _ (fnX _ (Str.ofString "BaseInstr._set") _ _ _ _ _ _ _ _ _ _ _) _ _); exact BindsTo.of_eq (binds := [(Str.ofString "self", _), (Str.ofString "name", _), (Str.ofString "arg", _)]) rfl)
  k_with "mine binds" => ((with_reducible show BindsTo _ (fnX _ (Str.ofString "ConcreteInstr.__init__") _ _ _ _ _ _ _ _ _ _ _) _ _); refine Mine.bindsF (binds := [(Str.ofString "self", _), (Str.ofString "name", _), (Str.ofString "arg", _), (Str.ofString "lineno", _), (Str.ofString "location", _), (Str.ofString "extended_args", _)]) (by with_reducible assumption) (by k_asm) (by exact rfl) (by k_is) (by exact rfl) (by exact rfl) (by exact rfl))
  k_with "mine binds" => ((with_reducible show BindsTo _ (fnX _ (Str.ofString "ConcreteInstr._check_arg") _ _ _ _ _ _ _ _ _ _ _) _ _); exact BindsTo.of_eq (binds := [(Str.ofString "self", _), (Str.ofString "name", _), (Str.ofString "opcode", _), (Str.ofString "arg", _)]) rfl)
  k_with "mine binds" => ((with_reducible show BindsTo _ (fnX _ (Str.ofString "ConcreteInstr._set") _ _ _ _ _ _ _ _ _ _ _) _ _); exact BindsTo.of_eq (binds := [(Str.ofString "self", _), (Str.ofString "name", _), (Str.ofString "arg", _)]) rfl)
  k_with "mine binds" => ((with_reducible show BindsTo _ (fnX _ (Str.ofString "ConcreteInstr.size") _ _ _ _ _ _ _ _ _ _ _) _ _); exact BindsTo.of_eq (binds := [(Str.ofString "self", _)]) rfl)
  k_with "mine binds" => ((with_reducible show BindsTo _ (fnX _ (Str.ofString "ConcreteInstr._cmp_key") _ _ _ _ _ _ _ _ _ _ _) _ _); exact BindsTo.of_eq (binds := [(Str.ofString "self", _)]) rfl)
  k_with "mine binds" => ((with_reducible show BindsTo _ (fnX _ (Str.ofString "ConcreteInstr.get_jump_target") _ _ _ _ _ _ _ _ _ _ _) _ _); exact BindsTo.of_eq (binds := [(Str.ofString "self", _), (Str.ofString "instr_offset", _)]) rfl)
  k_with "mine binds" => ((with_reducible show BindsTo _ (fnX _ (Str.ofString "ConcreteInstr.assemble") _ _ _ _ _ _ _ _ _ _ _) _ _); exact BindsTo.of_eq (binds := [(Str.ofString "self", _)]) rfl)
  k_with "mine binds" => ((with_reducible show BindsTo _ (fnX _ (Str.ofString "ConcreteInstr.disassemble") _ _ _ _ _ _ _ _ _ _ _) _ _); exact BindsTo.of_eq (binds := [(Str.ofString "lineno", _), (Str.ofString "code", _), (Str.ofString "offset", _)]) rfl)
  k_with "mine binds" => ((with_reducible show BindsTo _ (fnX _ (Str.ofString "ConcreteInstr.use_cache_opcodes") _ _ _ _ _ _ _ _ _ _ _) _ _); exact BindsTo.of_eq (binds := [(Str.ofString "self", _)]) rfl)
  k_with "mine binds" => ((with_reducible show BindsTo _ (fnX _ (Str.ofString "_law_octets") _ _ _ _ _ _ _ _ _ _ _) _ _); exact BindsTo.of_eq (binds := [(Str.ofString "name", _), (Str.ofString "number", _), (Str.ofString "more", _)]) rfl)
  k_with "mine binds" => ((with_reducible show BindsTo _ (fnX _ (Str.ofString "_law_looks") _ _ _ _ _ _ _ _ _ _ _) _ _); exact BindsTo.of_eq (binds := [(Str.ofString "op", _), (Str.ofString "kind", _), (Str.ofString "number", _), (Str.ofString "more", _), (Str.ofString "at", _)]) rfl)
  k_with "mine binds" => ((with_reducible show BindsTo _ (fnX _ (Str.ofString "_law_made") _ _ _ _ _ _ _ _ _ _ _) _ _); exact BindsTo.of_eq (binds := [(Str.ofString "name", _), (Str.ofString "number", _)]) rfl)
  k_with "mine binds" => ((with_reducible show BindsTo _ (fnX _ (Str.ofString "_law_turned") _ _ _ _ _ _ _ _ _ _ _) _ _); exact BindsTo.of_eq (binds := [(Str.ofString "op", _), (Str.ofString "number", _)]) rfl)
  k_with "mine binds" => ((with_reducible show BindsTo _ (fnX _ (Str.ofString "_law_alone") _ _ _ _ _ _ _ _ _ _ _) _ _); exact BindsTo.of_eq (binds := [(Str.ofString "kind", _), (Str.ofString "number", _), (Str.ofString "at", _)]) rfl)
  k_with "call type:bytes" => (k_here; (with_reducible show wpAny _ _ (call (Value.type "bytes") [Value.ref _]) _ _ _); k_dflt (first | (refine Mine.bytesIn (by k_asm) (by k_asm) (by rfl) (by first | exact List.Mem.head _ | exact List.Mem.tail _ (List.Mem.head _)) (by repeat constructor) (by exact Mine.in2 (by omega) (by omega) (by omega) (by omega)) (by simp) ?_; intro _ _ _ F' N') | (refine Mine.bytesTup (by k_asm) (by k_asm) (by rfl) (by first | exact List.Mem.head _ | exact List.Mem.tail _ (List.Mem.head _)) (by repeat constructor) (by exact Mine.in2 (by omega) (by omega) (by omega) (by omega)) (by simp) ?_; intro _ _ _ F' N')))
  k_with "call ref" => ((with_reducible show wpAny _ _ (call (Value.ref 456) _) _ _ _); k_dflt (refine wpAny_call ?_; kts_go))
  k_with "call ref" => ((with_reducible show wpAny _ _ (call (Value.ref 442) _) _ _ _); k_dflt (refine Mine.MadeC.use (by with_reducible assumption) (by k_asm) (by k_asm) (by with_reducible assumption) (by k_asm) (by with_reducible assumption) (by ktr_room) (by ktr_units) (by with_reducible assumption) (by with_reducible assumption) (by k_asm) (by with_reducible assumption) (by with_reducible assumption) (by with_reducible assumption) (by exact Or.inr ⟨by with_reducible assumption, by assumption, _, _, rfl, rfl, rfl⟩) ?_; intro tr' g' h' tk' T' F' N' B' X' P' D'; (try k_sweep)))
  k_with "call ref" => ((with_reducible show wpAny _ _ (call (Value.ref 449) _) _ _ _); k_dflt (refine Mine.TurnedC.use (by with_reducible assumption) (by k_asm) (by k_asm) (by with_reducible assumption) (by k_asm) (by with_reducible assumption) (by ktr_room) (by ktr_units) (by with_reducible assumption) (by with_reducible assumption) (by k_asm) (by with_reducible assumption) (by k_mem) (by k_mem) (by with_reducible assumption) (by with_reducible assumption) (by exact Or.inr ⟨by with_reducible assumption, by assumption, _, _, rfl, rfl, rfl⟩) ?_; intro tr' g' h' tk' T' F' N' B' X' P' D'; (try k_sweep)))
  k_with "call ref" => ((with_reducible show wpAny _ _ (call (Value.ref 412) _) _ _ _); k_dflt (refine Mine.CtorUC.use (by with_reducible assumption) (by k_asm) (by k_asm) (by with_reducible assumption) (by k_asm) (by with_reducible assumption) (by ktr_room) (by ktr_units) (by with_reducible assumption) (by with_reducible assumption) (by exact Mine.GoodArg.no (by with_reducible assumption)) (by with_reducible assumption) (by assumption) (by assumption) ?_; intro x' d' k1' k2' k3' k4' k5' k6' k7' ts' h' tk' F' l1 l2 N'; (try k_sweep)))
  k_with "call ref" => ((with_reducible show wpAny _ _ (call (Value.ref 399) _) _ _ _); k_dflt (refine Mine.DisC.alone (by with_reducible assumption) (by k_asm) (by k_asm) (by with_reducible assumption) (by k_asm) (by with_reducible assumption) (by ktr_room) (by ktr_units) (by with_reducible assumption) (by with_reducible assumption) (by with_reducible assumption) (by with_reducible assumption) (by with_reducible assumption) (by assumption) (by assumption) (by omega) (by omega) ?_; intro x' d' y' e' k1' k2' k3' k4' k5' k6' k7' ts' j1' j2' j3' j4' sz' h' tk' F' N'; (try k_sweep)))
  k_with "call ref" => ((with_reducible show wpAny _ _ (call (Value.ref 365) _) _ _ _); k_dflt (refine Mine.JumpC.alone (by with_reducible assumption) (by k_asm) (by k_asm) (by with_reducible assumption) (by k_asm) (by with_reducible assumption) (by ktr_room) (by ktr_units) (by with_reducible assumption) (by k_mem) (by k_mem) (by with_reducible assumption) (by with_reducible assumption) ?_; intro h' tk' F' N'; (try k_sweep)))
  k_with "LeaveS" => (k_dflt (refine' leaveS_r ?zF ?zN ?zT ?_; (case zF => k_asm); (case zN => k_asm); (case zT => exact KtsTurn.trans (by assumption) (by assumption)); k_whole); intro kg kT kF kN kB kX₀ kP kD; ground_anew kF; (have kX := kFor kF kX₀); (try k_lift kB); kts_tail)
  k_with "ite" => (k_dflt (first | refine PySem.W.ite_neg (by simp only [bne_self_eq_false, Bool.false_eq_true, not_false_eq_true]) ?_ | refine PySem.W.ite_pos (by simp only [beq_self_eq_true]) ?_ | refine PySem.W.ite_pos (by simp only [decide_eq_true_eq, beq_iff_eq, bne_iff_ne, ne_eq]; omega) ?_ | refine PySem.W.ite_neg (by simp only [decide_eq_true_eq, beq_iff_eq, bne_iff_ne, ne_eq]; omega) ?_))
  k_with "subscriptTail" => (k_here; (with_reducible show wpAny _ _ (subscriptTail _ (PySem.Expr.Constant _ _ _) (Value.ref _) (Value.int _ _)) _ _ _); k_dflt (refine item_tupleT (News.isTup (by k_asm) (by k_mem)) (by decide) (by decide) (by rfl) (by rfl) ?_))
  unfold AloneC AtS
  intro dp un gd cn sn sg so sm a ccd outer A₀ base h₀ L m news s Q E B F X N T hdp hun XB TB DB TD U1 t0 tx ta tb td tn tat x c n at_ u1 u2 bj u1m hk hhas hret
  have hNews : NewsIs news := True.intro
  have MC := made w p loose mean mg mb
  have TC := turned w p loose mean mg mb
  have CU := ctorU w p loose mean mg mb
  have JC := jumpC w p loose mean mg mb
  have DC := dis w p loose mean mg mb
  obtain ⟨hop, hnm, hjmp, hca, hdi, hc0, hc1, hxl⟩ := hk
  w_strict k_steps
  all_goals (refine' aloneEnd hret ?zF ?zN ?zT ?zB ?zX ?zP ?zD ?zs ?zb; (case zF => k_asm); (case zN => k_asm); (case zT => assumption); (case zB => assumption); (case zX => assumption); (case zP => assumption); (case zD => assumption); (case zs => (repeat (first | exact sub_eq | refine sub_tl ?_))); (case zb => rfl))
noncomputable abbrev hook : Hook := kHook Mine.toy.heap_1_1 [2, 3, 15, 17, 18, 20, 21, 22, 23, 27, 28, 30, 31, 32, 33, 41, 42, 43, 44, 45, 48, 49, 50, 52, 53, 55, 56, 57, 59, 60, 62, 63, 64, 66, 67, 69, 70, 78, 80, 81, 83, 84, 85, 87, 88, 90, 91, 92, 94, 95, 97, 98, 99, 100, 101, 102, 103, 104, 105, 106, 116, 117, 119, 120, 122, 123, 124, 126, 127, 129, 130, 131, 133, 134, 136, 137, 140, 142, 143, 145, 146, 147, 148, 150, 151, 153, 154, 157, 159, 160, 162, 163, 164, 165, 167, 168, 170, 171, 174, 176, 177, 179, 180, 181, 182, 184, 185, 187, 188, 191, 193, 194, 196, 197, 198, 199, 201, 202, 204, 205, 208, 210, 211, 213, 214, 215, 216, 217, 219, 220, 222, 223, 224, 225, 227, 228, 230, 231, 232, 234, 235, 237, 238, 239, 241, 242, 244, 245, 246, 248, 249, 251, 252, 253, 255, 256, 258, 259, 260, 262, 263, 265, 266, 267, 269, 270, 272, 273, 274, 276, 277, 279, 280, 281, 283, 284, 286, 287, 288, 290, 291, 293, 294, 295, 297, 298, 300, 301, 302, 303, 304, 305, 306, 307, 308, 309, 312, 315, 320, 321, 322, 324, 325, 327, 328, 329, 331, 332, 334, 335, 336, 337, 339, 340, 342, 343, 344, 346, 347, 349, 350, 351, 352, 354, 355, 357, 358, 359, 361, 362, 364, 365, 366, 368, 369, 371, 372, 373, 375, 376, 378, 379, 380, 381, 382, 383, 385, 386, 388, 389, 390, 391, 392, 393, 395, 396, 398, 399, 400, 401, 402, 403, 405, 406, 408, 409, 410, 411, 412, 415, 417, 418, 420, 421, 422, 424, 425, 427, 428, 429, 431, 432, 434, 435, 436, 438, 439, 441, 442, 443, 445, 446, 448, 449, 450, 452, 453, 455, 456, 457, 459, 460, 462, 463] (fun _ => by kernel_rfl)
set_option maxRecDepth 100000 in
set_option maxHeartbeats 0 in
theorem law : PySem.Challenge.rw_ix0013_01.Holds := by
  w_on
  o_law
  refine holds_open (q := Mine.toy.view_1_2) (loose := [Str.ofString "OPNAME", Str.ofString "OPMAP", Str.ofString "CACHES", Str.ofString "UNSET", Str.ofString "InstrLocation", Str.ofString "BaseInstr", Str.ofString "ConcreteInstr"]) (Xt := fun s => xlAt Mine.toy.view_1_2 [] s && recOk (RowW.records (OpenRow.toRowW (OpenLaw.row PySem.Challenge.rw_ix0013_01))) s) (XP := XL Mine.toy.view_1_2 []) (Yf := Hook.obs hook) (Ya := Hook.val hook) (YP := Hook.says hook) (N := 11572) ?hl (Hook.of hook) (Hook.keeps hook) (fun s e => xl_of s (Bool.and_eq_true_iff.mp e).1) XL.keeps (by rfl) (by rfl) (by rfl) (fun s e => recFacts_of (Bool.and_eq_true_iff.mp e).2) (by rfl) (by assumption) (by decide +kernel) ⟨rfl, rfl, rfl, rfl, rfl, by decide +kernel⟩ ?hw ?hc
  (case hl => exact LeftO.of_pieces (boot_open Mine.toy._proof_1_5 (of_decide_eq_true (id (Eq.refl true))) Mine.toy._proof_1_6) Mine.toy._proof_1_837 Mine.toy._proof_1_835 (of_decide_eq_true (id (Eq.refl true))) fun w => funext fun os => Mine.toy._proof_1_868 w os)
  (case hw => w_witness2)
  k_with_none
  k_with "exec While Compare cons nil" => (k_here; k_dflt (refine whl_start 100 ?_))
  k_with "UnrEnd" => (k_dflt (refine Mine.unr2 (by k_asm) (by k_asm) (by k_all) ?_))
  k_with "compareOp In int ref" => (k_here; (with_reducible show wpAny _ _ (compareOp CmpOp.In (Value.int _ _) (Value.ref _)) _ _ _); k_dflt (with_reducible refine Mine.in_abs (by k_asm) (by k_asm) (by with_reducible assumption) ?_))
  k_with "callWith ref" => (k_here; (with_reducible show wpAny _ _ (callWith _ (Value.ref _) _ _ (backToKw _ _)) _ _ _); k_dflt (refine Mine.callKWM (by k_asm) (by k_asm) (by k_mem) (by k_is) (by exact rfl) ?_))
  k_with "compareOp Is" => k_dflt (first | ((with_reducible show wpAny _ _ (compareOp CmpOp.Is (Value.int _ _) (Value.ref _)) _ _ _); refine wpAny_is_other (by rfl) (by intro x; cases x) ?_) | ((with_reducible show wpAny _ _ (compareOp CmpOp.Is (Value.str _ _) (Value.ref _)) _ _ _); refine wpAny_is_other (by rfl) (by intro x; cases x) ?_))
  k_with "compareOp IsNot" => k_dflt (first | ((with_reducible show wpAny _ _ (compareOp CmpOp.IsNot (Value.int _ _) (Value.ref _)) _ _ _); refine wpAny_isNot_other (by rfl) (by intro x; cases x) ?_) | ((with_reducible show wpAny _ _ (compareOp CmpOp.IsNot (Value.str _ _) (Value.ref _)) _ _ _); refine wpAny_isNot_other (by rfl) (by intro x; cases x) ?_))
  k_with "compareOp Is ref ref" => ((with_reducible show wpAny _ _ (compareOp CmpOp.Is (Value.ref _) (Value.ref _)) _ _ _); with_reducible refine wpAny_is_ref_self ?_)
  k_with "compareOp IsNot ref ref" => ((with_reducible show wpAny _ _ (compareOp CmpOp.IsNot (Value.ref _) (Value.ref _)) _ _ _); with_reducible refine wpAny_isNot_ref_self ?_)
  k_with "loadName" => (k_here; k_dflt (refine Mine.nmLn (by kernel_rfl!) (by exact rfl) (by k_asm) (by exact rfl) ?_))
  k_with "eval Name" => k_dflt (first | refine Mine.nmL (by kernel_rfl!) (by exact rfl) (by k_asm) (by exact rfl) ?_ | refine Mine.nmK (by kernel_rfl!) (by exact rfl) (by k_asm) (by k_asm) (by k_asm) (by k_is) ?_)
  k_with "binaryOp Sub int int" => (with_reducible refine Mine.sub_g ?_; intro z hz)
  k_with "binaryOp Mult int int" => (with_reducible refine Mine.mul_g ?_; intro z hz)
  k_with "execs nil" => first | (with_reducible refine Mine.gen_toks (fun tk => ?_); with_reducible refine wpAny_execs_nil ?_) | with_reducible refine wpAny_execs_nil ?_
  k_with "execs cons" => first | (with_reducible refine Mine.gen_toks (fun tk => ?_); with_reducible refine wpAny_execs_cons ?_) | with_reducible refine wpAny_execs_cons ?_
  k_with "ite" => (k_closed; k_dflt (first | refine PySem.W.ite_pos rfl ?_ | refine PySem.W.ite_neg Bool.false_ne_true ?_ | refine PySem.W.ite_pos (by decide) ?_ | refine PySem.W.ite_neg (by decide) ?_))
  k_with "wpAt" => k_dflt (first | (ks_step "execs cons"; refine ks_wpAt_execs_cons ?_) | ((with_reducible show _root_.PySem.wpAt _ _ _ (execs _ _) _ _ _); ks_step "execs cons"; refine ks_wpAt_execs_cons ?_) | (ks_step "exec Expr"; refine ks_wpAt_Expr_any ?_) | (ks_step "eval Call"; first | ((with_reducible show _root_.PySem.wpAt _ _ _ (eval (Expr.Call _ _ [] _) _) _ _ _); refine ks_wpAt_MethodCall ?_) | refine Mine.atMethodKW ?_) | (ks_step "attributeBase Call"; refine ks_node (by k_asm) (by k_asm) (by k_asm) (by k_asm) (by k_is) (by rfl) (by rfl) (by k_inst) (by k_is) (by rfl) (by exact Mine.file_is) (by k_is) (by k_is) (by k_is) (by k_is) (by decide) (by rfl) (by rfl) (by rfl) (by rfl) (by exact Mine.top_super) (by exact Mine.boot_super) ?_; intro so' h' F' N' l1; (try k_lt l1)) | ((fail_if_success ks_step "attributeBase Call"); refine _root_.PySem.wpAt_of_wpAny ?_))
  k_with "ite" => with_reducible first | refine Mine.ite_t ?_ | refine Mine.ite_f ?_ | refine Mine.ite_nt ?_ | refine Mine.ite_nf ?_
  k_with "call type:range" => ((with_reducible rename _ = (0 : Int) ∨ _ = 1 ∨ _ = 2 => hmQ); (refine Or.elim hmQ (fun hm1 => ?_) (fun hm2 => Or.elim hm2 (fun hm1 => ?_) (fun hm1 => ?_)) <;> subst hm1))
  k_with "subscriptTail" => (k_here; (with_reducible show wpAny _ _ (subscriptTail _ _ (Value.ref _) (Value.str _ _)) _ _ _); k_dflt first | (with_reducible refine Mine.item23 (by with_reducible assumption) (by k_asm) (by k_asm) (by with_reducible assumption) ?_) | (with_reducible refine Mine.item28 (by with_reducible assumption) (by k_asm) (by k_asm) (by with_reducible assumption) ?_))
  k_with "compareOp In str ref" => (k_here; (with_reducible show wpAny _ _ (compareOp CmpOp.In (Value.str _ _) (Value.ref _)) _ _ _); k_dflt (with_reducible refine Mine.in28 (by with_reducible assumption) (by k_asm) (by k_asm) (by with_reducible assumption) ?_))
  k_with "WhlIf" => (first | (refine WhlIf.yes (decide_eq_true (by omega)) ?_) | (refine WhlIf.no (decide_eq_false (by omega)) ?_) | (refine Mine.ifDec ?_ ?_ <;> intro hw))
  k_with "binaryOp Add int int" => (with_reducible refine Mine.add_g ?_; intro z hz)
  k_with "inplaceOp Add int int" => (with_reducible refine Mine.iadd_g ?_; intro z hz)
  k_with "binaryOp Mod int int" => (with_reducible refine Mine.mod_g (by omega) ?_; intro z hz)
  k_with "binaryOp FloorDiv int int" => (with_reducible refine Mine.fdiv_g (by omega) (by decide +kernel) ?_; intro z hz)
  k_with "inplaceOp RShift int int" => (with_reducible refine Mine.irsh_g ?_; intro z hz)
  k_with "binaryOp BitAnd int int" => (with_reducible refine Mine.and_g ?_; intro z hz)
  k_with "call ref" => (k_here; k_dflt (first
    | (refine call_cls (by k_asm) (by k_asm) (by k_asm) (by k_is) (by k_is) (by k_is) ?_; intro x' d' h' F' N' l1 l2; (try k_lt l1); (try k_lt2 l2); (try k_sweep); first | k_enter | ks_enter)
    | (refine call_meth (by k_asm) (by k_mem) ?_; first | k_enter | ks_enter)
    | (refine wpAny_call ?_; first | k_enter | ks_enter)))
  k_with "mine binds" => ((with_reducible show BindsTo _ (fnX _ (Str.ofString "_check_arg_int") _ _ _ _ _ _ _ _ _ _ _) _ _); exact BindsTo.of_eq (binds := [(Str.ofString "arg", _), (Str.ofString "name", _)]) rfl)
  k_with "mine binds" => ((with_reducible show BindsTo _ (fnX _ (Str.ofString "opcode_has_argument") _ _ _ _ _ _ _ _ _ _ _) _ _); exact BindsTo.of_eq (binds := [(Str.ofString "opcode", _)]) rfl)
  k_with "mine binds" => ((with_reducible show BindsTo _ (fnX _ (Str.ofString "_check_location") _ _ _ _ _ _ _ _ _ _ _) _ _); exact BindsTo.of_eq (binds := [(Str.ofString "location", _), (Str.ofString "location_name", _), (Str.ofString "min_value", _)]) rfl)
  k_with "mine binds" => ((with_reducible show BindsTo _ (fnX _ (Str.ofString "InstrLocation.__init__") _ _ _ _ _ _ _ _ _ _ _) _ _); exact BindsTo.of_eq (binds := [(Str.ofString "self", _), (Str.ofString "lineno", _), (Str.ofString "end_lineno", _), (Str.ofString "col_offset", _), (Str.ofString "end_col_offset", _)]) rfl)
  k_with "mine binds" => ((with_reducible show BindsTo _ (fnX _ (Str.ofString "BaseInstr.__init__") _ _ _ _ _ _ _ _ _ _ _) _ _); refine Mine.bindsF (binds := [(Str.ofString "self", _), (Str.ofString "name", _), (Str.ofString "arg", _), (Str.ofString "lineno", _), (Str.ofString "location", _)]) (by with_reducible assumption) (by k_asm) (by exact rfl) (by k_is) (by exact rfl) (by exact rfl) (by exact rfl))
  k_with "mine binds" => ((with_reducible show BindsTo _ (fnX _ (Str.ofString "BaseInstr.name") _ _ _ _ _ _ _ _ _ _ _) _ _); exact BindsTo.of_eq (binds := [(Str.ofString "self", _)]) rfl)
  k_with "mine binds" => ((with_reducible show BindsTo _ (fnX _ (Str.ofString "BaseInstr.name") _ _ _ _ _ _ _ _ _ _ _) _ _); exact BindsTo.of_eq (binds := [(Str.ofString "self", _), (Str.ofString "name", _)]) rfl)
  k_with "mine binds" => ((with_reducible show BindsTo _ (fnX _ (Str.ofString "BaseInstr.arg") _ _ _ _ _ _ _ _ _ _ _) _ _); exact BindsTo.of_eq (binds := [(Str.ofString "self", _)]) rfl)
  k_with "mine binds" => ((with_reducible show BindsTo _ (fnX _ (Str.ofString "BaseInstr.arg") _ _ _ _ _ _ _ _ _ _ _) _ _); exact BindsTo.of_eq (binds := [(Str.ofString "self", _), (Str.ofString "arg", _)]) rfl)
  k_with "mine binds" => ((with_reducible show BindsTo _ (fnX _ (Str.ofString "BaseInstr.lineno") _ _ _ _ _ _ _ _ _ _ _) _ _); exact BindsTo.of_eq (binds := [(Str.ofString "self", _)]) rfl)
  k_with "mine binds" => ((with_reducible show BindsTo _ (fnX _ (Str.ofString "BaseInstr.lineno") _ _ _ _ _ _ _ _ _ _ _) _ _); exact BindsTo.of_eq (binds := [(Str.ofString "self", _), (Str.ofString "lineno", _)]) rfl)
  k_with "mine binds" => ((with_reducible show BindsTo _ (fnX _ (Str.ofString "BaseInstr.is_abs_jump") _ _ _ _ _ _ _ _ _ _ _) _ _); exact BindsTo.of_eq (binds := [(Str.ofString "self", _)]) rfl)
  k_with "mine binds" => ((with_reducible show BindsTo _ (fnX _ (Str.ofString "BaseInstr.is_forward_rel_jump") _ _ _ _ _ _ _ _ _ _ _) _ _); exact BindsTo.of_eq (binds := [(Str.ofString "self", _)]) rfl)
  k_with "mine binds" => ((with_reducible show BindsTo _ (fnX _ (Str.ofString "BaseInstr.is_backward_rel_jump") _ _ _ _ _ _ _ _ _ _ _) _ _); exact BindsTo.of_eq (binds := [(Str.ofString "self", _)]) rfl)
  k_with "mine binds" => ((with_reducible show BindsTo _ (fnX _ (Str.ofString "BaseInstr._set") _ _ _ _ _ _ _ _ _ _ _) _ _); exact BindsTo.of_eq (binds := [(Str.ofString "self", _), (Str.ofString "name", _), (Str.ofString "arg", _)]) rfl)
  k_with "mine binds" => ((with_reducible show BindsTo _ (fnX _ (Str.ofString "ConcreteInstr.__init__") _ _ _ _ _ _ _ _ _ _ _) _ _); refine Mine.bindsF (binds := [(Str.ofString "self", _), (Str.ofString "name", _), (Str.ofString "arg", _), (Str.ofString "lineno", _), (Str.ofString "location", _), (Str.ofString "extended_args", _)]) (by with_reducible assumption) (by k_asm) (by exact rfl) (by k_is) (by exact rfl) (by exact rfl) (by exact rfl))
  k_with "mine binds" => ((with_reducible show BindsTo _ (fnX _ (Str.ofString "ConcreteInstr._check_arg") _ _ _ _ _ _ _ _ _ _ _) _ _); exact BindsTo.of_eq (binds := [(Str.ofString "self", _), (Str.ofString "name", _), (Str.ofString "opcode", _), (Str.ofString "arg", _)]) rfl)
  k_with "mine binds" => ((with_reducible show BindsTo _ (fnX _ (Str.ofString "ConcreteInstr._set") _ _ _ _ _ _ _ _ _ _ _) _ _); exact BindsTo.of_eq (binds := [(Str.ofString "self", _), (Str.ofString "name", _), (Str.ofString "arg", _)]) rfl)
  k_with "mine binds" => ((with_reducible show BindsTo _ (fnX _ (Str.ofString "ConcreteInstr.size") _ _ _ _ _ _ _ _ _ _ _) _ _); exact BindsTo.of_eq (binds := [(Str.ofString "self", _)]) rfl)
  k_with "mine binds" => ((with_reducible show BindsTo _ (fnX _ (Str.ofString "ConcreteInstr._cmp_key") _ _ _ _ _ _ _ _ _ _ _) _ _); exact BindsTo.of_eq (binds := [(Str.ofString "self", _)]) rfl)
  k_with "mine binds" => ((with_reducible show BindsTo _ (fnX _ (Str.ofString "ConcreteInstr.get_jump_target") _ _ _ _ _ _ _ _ _ _ _) _ _); exact BindsTo.of_eq (binds := [(Str.ofString "self", _), (Str.ofString "instr_offset", _)]) rfl)
  k_with "mine binds" => ((with_reducible show BindsTo _ (fnX _ (Str.ofString "ConcreteInstr.assemble") _ _ _ _ _ _ _ _ _ _ _) _ _); exact BindsTo.of_eq (binds := [(Str.ofString "self", _)]) rfl)
  k_with "mine binds" => ((with_reducible show BindsTo _ (fnX _ (Str.ofString "ConcreteInstr.disassemble") _ _ _ _ _ _ _ _ _ _ _) _ _); exact BindsTo.of_eq (binds := [(Str.ofString "lineno", _), (Str.ofString "code", _), (Str.ofString "offset", _)]) rfl)
  k_with "mine binds" => ((with_reducible show BindsTo _ (fnX _ (Str.ofString "ConcreteInstr.use_cache_opcodes") _ _ _ _ _ _ _ _ _ _ _) _ _); exact BindsTo.of_eq (binds := [(Str.ofString "self", _)]) rfl)
  k_with "mine binds" => ((with_reducible show BindsTo _ (fnX _ (Str.ofString "_law_octets") _ _ _ _ _ _ _ _ _ _ _) _ _); exact BindsTo.of_eq (binds := [(Str.ofString "name", _), (Str.ofString "number", _), (Str.ofString "more", _)]) rfl)
  k_with "mine binds" => ((with_reducible show BindsTo _ (fnX _ (Str.ofString "_law_looks") _ _ _ _ _ _ _ _ _ _ _) _ _); exact BindsTo.of_eq (binds := [(Str.ofString "op", _), (Str.ofString "kind", _), (Str.ofString "number", _), (Str.ofString "more", _), (Str.ofString "at", _)]) rfl)
  k_with "mine binds" => ((with_reducible show BindsTo _ (fnX _ (Str.ofString "_law_made") _ _ _ _ _ _ _ _ _ _ _) _ _); exact BindsTo.of_eq (binds := [(Str.ofString "name", _), (Str.ofString "number", _)]) rfl)
  k_with "mine binds" => ((with_reducible show BindsTo _ (fnX _ (Str.ofString "_law_turned") _ _ _ _ _ _ _ _ _ _ _) _ _); exact BindsTo.of_eq (binds := [(Str.ofString "op", _), (Str.ofString "number", _)]) rfl)
  k_with "mine binds" => ((with_reducible show BindsTo _ (fnX _ (Str.ofString "_law_alone") _ _ _ _ _ _ _ _ _ _ _) _ _); exact BindsTo.of_eq (binds := [(Str.ofString "kind", _), (Str.ofString "number", _), (Str.ofString "at", _)]) rfl)
  k_with "ite" => (k_dflt (first | refine PySem.W.ite_neg (by simp only [bne_self_eq_false, Bool.false_eq_true, not_false_eq_true]) ?_ | refine PySem.W.ite_pos (by simp only [beq_self_eq_true]) ?_ | refine PySem.W.ite_pos (by simp only [decide_eq_true_eq, beq_iff_eq, bne_iff_ne, ne_eq]; omega) ?_ | refine PySem.W.ite_neg (by simp only [decide_eq_true_eq, beq_iff_eq, bne_iff_ne, ne_eq]; omega) ?_))
  k_with "subscriptTail" => (k_here; (with_reducible show wpAny _ _ (subscriptTail _ (PySem.Expr.Constant _ _ _) (Value.ref _) (Value.int _ _)) _ _ _); k_dflt (refine item_tupleT (News.isTup (by k_asm) (by k_mem)) (by decide) (by decide) (by rfl) (by rfl) ?_))
  k_with "call ref" => ((with_reducible show wpAny _ _ (call (Value.ref 421) _) _ _ _); k_dflt (refine' Mine.OpsC.use (Mine.ops _ _ _ _ _ _) ?zB ?zF ?zX ?zN ?zT ?zd ?zu ?_; (case zF => k_asm); (case zB => with_reducible assumption); (case zX => with_reducible assumption); (case zN => k_asm); (case zT => with_reducible assumption); (case zd => first | decide | ((simp only [depth_mark, depth_under_kw, depth_in1, depth_deeper, depth_caller]); decide)); (case zu => first | decide | ((simp only [units_in1, units_deeper, Around.mark_units, units_caller]); decide)); intro D' vs' h' tk' hvl' hkv' F' l1 N'; (try simp only [AllLt, and_true] at l1); (try k_sweep)))
  k_with "subscriptTail" => (k_here; (with_reducible show wpAny _ _ (subscriptTail _ _ (Value.ref _) (Value.int _ _)) _ _ _); k_dflt (refine' Mine.item_kind ?zN ?zm ?zl ?zk ?z0 ?z1 ?_; (case zN => k_asm); (case zm => exact List.Mem.head _); (case zl => with_reducible assumption); (case zk => assumption); (case z0 => omega); (case z1 => omega); intro U' x' ta' tb' td' t0' tx' b' bj' c' cch' dir' N' hk' hh' hb' hd'; (have hKu := Mine.kuOf N'); (have hop' := hk'.op); (have hjm' := hk'.jmp); (have hc0' := hk'.c0); (have hc1' := hk'.c1); (have hxl' := hk'.len); (cases b' <;> first | (obtain ⟨rfl, rfl⟩ := hb' rfl) | skip)))
  k_with "call ref" => ((with_reducible show wpAny _ _ (call (Value.ref 412) _) _ _ _); k_dflt (refine' Mine.CtorC.use (Mine.ctor _ _ _ _ _ _) ?zB ?zF ?zX ?zN ?zT ?zd ?zu (Mine.tops _) ?y0 ?y1 ?y2 ?y3 ?y4 ?y5 ?y6 ?y7 ?_; (case zF => k_asm); (case zB => with_reducible assumption); (case zX => with_reducible assumption); (case zN => k_asm); (case zT => with_reducible assumption); (case zd => first | decide | ((simp only [depth_mark, depth_under_kw, depth_in1, depth_deeper, depth_caller]); decide)); (case zu => first | decide | ((simp only [units_in1, units_deeper, Around.mark_units, units_caller]); decide)); (case y0 => with_reducible assumption); (case y1 => with_reducible assumption); (case y2 => with_reducible assumption); (case y3 => assumption); (case y4 => assumption); (case y5 => omega); (case y6 => omega); (case y7 => exact Or.inl ⟨rfl, rfl, rfl⟩); intro x' d' k1' k2' k3' k4' k5' k6' k7' ts' h' tk' F' l1 l2 N'; (try simp only [AllLt, and_true] at l1); (replace l2 := ltN l2); (try k_sweep)))
  k_with "call ref" => ((with_reducible show wpAny _ _ (call (Value.ref 412) _ _) _ _ _); k_dflt (refine' Mine.CtorC.use (Mine.ctor _ _ _ _ _ _) ?zB ?zF ?zX ?zN ?zT ?zd ?zu (Mine.tops _) ?y0 ?y1 ?y2 ?y3 ?y4 ?y5 ?y6 ?y7 ?_; (case zF => k_asm); (case zB => with_reducible assumption); (case zX => with_reducible assumption); (case zN => k_asm); (case zT => with_reducible assumption); (case zd => first | decide | ((simp only [depth_mark, depth_under_kw, depth_in1, depth_deeper, depth_caller]); decide)); (case zu => first | decide | ((simp only [units_in1, units_deeper, Around.mark_units, units_caller]); decide)); (case y0 => with_reducible assumption); (case y1 => with_reducible assumption); (case y2 => with_reducible assumption); (case y3 => assumption); (case y4 => assumption); (case y5 => omega); (case y6 => omega); (case y7 => exact Or.inr ⟨_, _, rfl, rfl, rfl⟩); intro x' d' k1' k2' k3' k4' k5' k6' k7' ts' h' tk' F' l1 l2 N'; (try simp only [AllLt, and_true] at l1); (replace l2 := ltN l2); (try k_sweep)))
  k_with "call ref" => ((with_reducible show wpAny _ _ (call (Value.ref 428) _) _ _ _); k_dflt (refine' Mine.OctC.use (Mine.oct _ _ _ _ _ _) ?zB ?zF ?zX ?zN ?zT ?zd ?zu (Mine.tops _) ?y0 ?y1 ?y2 ?y3 ?y4 ?y5 ?_; (case zF => k_asm); (case zB => with_reducible assumption); (case zX => with_reducible assumption); (case zN => k_asm); (case zT => with_reducible assumption); (case zd => first | decide | ((simp only [depth_mark, depth_under_kw, depth_in1, depth_deeper, depth_caller]); decide)); (case zu => first | decide | ((simp only [units_in1, units_deeper, Around.mark_units, units_caller]); decide)); (case y0 => with_reducible assumption); (case y1 => assumption); (case y2 => assumption); (case y3 => omega); (case y4 => omega); (case y5 => exact Or.inl rfl); intro T' tb' tw' h' tk' F' l1 N'; (try simp only [AllLt, and_true] at l1); (try k_sweep)))
  k_with "call ref" => ((with_reducible show wpAny _ _ (call (Value.ref 435) _) _ _ _); k_dflt (refine' Mine.LooksC.use2 (Mine.looks _ _ _ _ _ _) ?zB ?zF ?zX ?zN ?zT ?zd ?zu (Mine.tops _) ?y0 ?y1 ?y2 ?y3 ?y4 ?y5 ?y6 ?y7 ?y8 ?y9 ?yz ?_; (case zF => k_asm); (case zB => with_reducible assumption); (case zX => with_reducible assumption); (case zN => k_asm); (case zT => with_reducible assumption); (case zd => first | decide | ((simp only [depth_mark, depth_under_kw, depth_in1, depth_deeper, depth_caller]); decide)); (case zu => first | decide | ((simp only [units_in1, units_deeper, Around.mark_units, units_caller]); decide)); (case y0 => k_mem); (case y1 => k_mem); (case y2 => k_mem); (case y3 => with_reducible assumption); (case y4 => with_reducible assumption); (case y5 => omega); (case y6 => omega); (case y7 => first | rfl | omega); (case y8 => omega); (case y9 => first | exact Or.inl ⟨rfl, rfl⟩ | exact Or.inr ⟨_, _, rfl, by omega, by omega⟩); (case yz => first | rfl | omega); intro h' tk' F' N'; (try k_sweep)))
  k_with "call ref" => ((with_reducible show wpAny _ _ (call (Value.ref 442) _) _ _ _); k_dflt (refine' Mine.MadeC.use (Mine.made _ _ _ _ _ _) ?zB ?zF ?zX ?zN ?zT ?zd ?zu ?zXB ?zTB ktsDicts_nil (Mine.tops _) ?y0 ?y1 ?y2 ?_; (case zF => k_asm); (case zB => with_reducible assumption); (case zX => with_reducible assumption); (case zN => k_asm); (case zT => with_reducible assumption); (case zd => first | decide | ((simp only [depth_mark, depth_under_kw, depth_in1, depth_deeper, depth_caller]); decide)); (case zu => first | decide | ((simp only [units_in1, units_deeper, Around.mark_units, units_caller]); decide)); (case zXB => with_reducible assumption); (case zTB => with_reducible assumption); (case y0 => with_reducible assumption); (case y1 => with_reducible assumption); (case y2 => first | with_reducible assumption | exact Or.inl ⟨by with_reducible assumption, Or.inr (Or.inr (Or.inl ⟨_, rfl, rfl, rfl⟩))⟩ | exact Or.inl ⟨by with_reducible assumption, Or.inr (Or.inr (Or.inr ⟨rfl, rfl, rfl⟩))⟩ | exact Or.inl ⟨by with_reducible assumption, Or.inl ⟨_, _, rfl, by omega, rfl, rfl⟩⟩ | exact Or.inl ⟨by with_reducible assumption, Or.inr (Or.inl ⟨_, _, rfl, by omega, by omega, rfl, rfl⟩)⟩); intro tr' g' h' tk' T' F' N' B' X' P' D'; (have F' := Mine.fr_turn0 T' F'); (have N' := Mine.news_turn0 T' N'); clear T' B' X' P' D'; (try k_sweep)))
  k_with "call ref" => ((with_reducible show wpAny _ _ (call (Value.ref 449) _) _ _ _); k_dflt (refine' Mine.TurnedC.use (Mine.turned _ _ _ _ _ _) ?zB ?zF ?zX ?zN ?zT ?zd ?zu ?zXB ?zTB ktsDicts_nil (Mine.tops _) ?y0 ?y1 ?y2 ?y3 ?y4 ?_; (case zF => k_asm); (case zB => with_reducible assumption); (case zX => with_reducible assumption); (case zN => k_asm); (case zT => with_reducible assumption); (case zd => first | decide | ((simp only [depth_mark, depth_under_kw, depth_in1, depth_deeper, depth_caller]); decide)); (case zu => first | decide | ((simp only [units_in1, units_deeper, Around.mark_units, units_caller]); decide)); (case zXB => with_reducible assumption); (case zTB => with_reducible assumption); (case y0 => k_mem); (case y1 => k_mem); (case y2 => with_reducible assumption); (case y3 => with_reducible assumption); (case y4 => first | with_reducible assumption | exact Or.inl ⟨by with_reducible assumption, Or.inr (Or.inr (Or.inl ⟨_, rfl, rfl, rfl⟩))⟩ | exact Or.inl ⟨by with_reducible assumption, Or.inr (Or.inr (Or.inr ⟨rfl, rfl, rfl⟩))⟩ | exact Or.inl ⟨by with_reducible assumption, Or.inl ⟨_, _, rfl, by omega, rfl, rfl⟩⟩ | exact Or.inl ⟨by with_reducible assumption, Or.inr (Or.inl ⟨_, _, rfl, by omega, by omega, rfl, rfl⟩)⟩); intro tr' g' h' tk' T' F' N' B' X' P' D'; (have F' := Mine.fr_turn0 T' F'); (have N' := Mine.news_turn0 T' N'); clear T' B' X' P' D'; (try k_sweep)))
  k_with "call ref" => ((with_reducible show wpAny _ _ (call (Value.ref 456) _) _ _ _); k_dflt (refine' Mine.AloneC.use (Mine.alone _ _ _ _ _ _) ?zB ?zF ?zX ?zN ?zT ?zd ?zu ?zXB ?zTB ktsDicts_nil (Mine.tops _) ?y0 ?y1 ?y2 ?_; (case zF => k_asm); (case zB => with_reducible assumption); (case zX => with_reducible assumption); (case zN => k_asm); (case zT => with_reducible assumption); (case zd => first | decide | ((simp only [depth_mark, depth_under_kw, depth_in1, depth_deeper, depth_caller]); decide)); (case zu => first | decide | ((simp only [units_in1, units_deeper, Around.mark_units, units_caller]); decide)); (case zXB => with_reducible assumption); (case zTB => with_reducible assumption); (case y0 => k_mem); (case y1 => with_reducible assumption); (case y2 => with_reducible assumption); intro g' h' tk' T' F' N' B' X' P' D'; (have F' := Mine.fr_turn0 T' F'); (have N' := Mine.news_turn0 T' N'); clear T' B' X' P' D'; (try k_sweep)))
  k_with "subscriptTail" => (k_here; (with_reducible show wpAny _ _ (subscriptTail _ (PySem.Expr.BinOp _ _ _ _) (Value.ref _) (Value.int _ _)) _ _ _); k_dflt (refine' Mine.item_bad ?zN ?zm ?zh ?z0 ?z1 ?za ?zb ?_; (case zN => k_asm); (case zm => k_mem); (case zh => with_reducible assumption); (case z0 => omega); (case z1 => omega); (case za => omega); (case zb => omega); intro v' hv'))
  k_with "call ref" => ((with_reducible show wpAny _ _ (call (Value.ref 343) _) _ _ _); k_dflt (refine' Mine.Set2C.use (Mine.set2 _ _ _ _ _ _) ?zB ?zF ?zX ?zN ?zT ?zd ?zu (Mine.tops _) ?y0 ?y1 ?y2 ?y3 ?y4 ?y5 ?y6 ?y7 ?y8 ?y9 ?ya ?yb ?yc ?yd ?ye ?yf ?_; (case zF => k_asm); (case zB => k_asm); (case zX => k_asm); (case zN => k_asm); (case zT => k_asm); (case zd => first | decide | ((simp only [depth_mark, depth_under_kw, depth_in1, depth_deeper, depth_caller]); decide)); (case zu => first | decide | ((simp only [units_in1, units_deeper, Around.mark_units, units_caller]); decide)); (case y0 => with_reducible assumption); (case y1 => with_reducible assumption); (case y2 => k_mem); (case y3 => k_mem); (case y4 => k_mem); (case y5 => k_mem); (case y6 => k_ne); (case y7 => k_ne); (case y8 => first | assumption | (refine ltN ?_; omega)); (case y9 => with_reducible assumption); (case ya => with_reducible assumption); (case yb => with_reducible assumption); (case yc => assumption); (case yd => assumption); (case ye => omega); (case yf => omega); intro ts' h' tk' F' N'; (try k_sweep)))
  k_with "UnrEnd" => (k_dflt (refine Mine.unr0 (by k_asm) (by k_asm) (by k_mem) (by exact rfl)))
  k_with "exec If BoolOp cons nil" => (k_here; (with_reducible show wpAny _ _ (exec (Stmt.If (PySem.Expr.BoolOp PySem.BoolOp.Or [PySem.Expr.Compare _ [PySem.CmpOp.Lt] _ _, _] _) _ _ _) _) _ _ _); k_dflt (refine Mine.numJoin (by k_asm) (by k_asm) (by exact rfl) ?_ ?_); rotate_left; (intro h' tk' n' t' hn0' hn1' F' N'; (try k_sweep)); rotate_left)
  k_with "NumI" => k_dflt (first | refine Mine.NumI.intro (by k_asm) (by k_asm) (by repeat (first | exact Mine.sub_eq | refine Mine.sub_tl ?_)) (by omega) (by omega) | refine Mine.NumI.intro0 (by k_asm) (by exact rfl) (by k_asm) (by repeat (first | exact Mine.sub_eq | refine Mine.sub_tl ?_)) (by omega) (by omega))
  k_with "pyIter ref" => ((with_reducible rename IsRange _ _ _ _ _ _ _ _ => hR); k_dflt (refine' Mine.law_iter (x0 := Str.ofString "script") ?a1 ?a2 hR ?a3 ?a4 ?a5 ?a6 ?a7 ?_ ?_); (case a5 => k_asm); (case a6 => k_asm); (case a1 => rfl); (case a2 => rfl); (case a3 => split <;> omega); (case a4 => split <;> omega); (case a7 => exact rfl); rotate_left; (intro m' h' tk' F' N'); rotate_left; (unfold Mine.TurnT; intro I' it' k' m' t' h' tk' hk0 hk1 F' N'; (have hIt := Mine.itOf N'); (try k_sweep)))
  w_strict (k_go0; (with_reducible rename Frag.In _ _ => KX); (with_reducible rename Below _ _ _ _ => K0); (with_reducible rename Top _ _ _ _ _ _ => TT); have K1 := Mine.below_at KX K0; have T1 := Mine.top_at KX TT; clear K0; (all_goals try k_fold); k_steps)
end Mine
theorem PySem.Challenge.cw_ix0013_01_holds : PySem.Challenge.rw_ix0013_01.Holds :=
  Mine.law
