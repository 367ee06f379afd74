import PyProof.Rows.All
import Wide.All
import OpenK.AllK
import Wide.FinOn
import Lean
import PySem.Challenge.RW_op0032_01
open PySem PySem.W PyProof.Rows
set_option Elab.async false
set_option maxRecDepth 100000
set_option maxHeartbeats 8000000
set_option compiler.extract_closed false
set_option linter.unusedVariables false
set_option linter.unusedSimpArgs false
namespace Mine
section
open_top hd for PySem.Challenge.rw_op0032_01
end
section
variable {w : World} {mean : ExcName → Option Value} {mg mb : Str → Option Value} {news : List (Addr × Obj)}

/-- the text's loose names, as the head has them -/
noncomputable abbrev lo : List Str := looseW hd.view_39 [Str.ofString "_twin_re_1", Str.ofString "_twin_re_2", Str.ofString "bytes_types", Str.ofString "a2b_base64", Str.ofString "b2a_base64", Str.ofString "b64encode", Str.ofString "b64decode"]

/-- A contract of a def of the text's: called with vs and kw, over the ledger news, it ends (d frames and u C units of room), hands back a value v and
a ledger news' with R v news', and changes nothing else. -/
noncomputable def Con (w : World) (mean : ExcName → Option Value) (mg mb : Str → Option Value) (f : Addr) (vs : List Value) (kw : List (Str × Value)) (d u : Nat)
    (news : List (Addr × Obj)) (R : Value → List (Addr × Obj) → Prop) : Prop :=
  ∀ (dp un : Nat) (gd : Option (List Code)) (cn : Str) (cs : Scope) (a : Addr) (ccd : Value) (cl : List (Str × Addr)) (outer : List Env) (A₀ : Around) (base h₀ : Heap) (L : Addr)
    (m : Str → Option Value) (s : Shared) (Q E : Value → Shared → Prop),
    Below A₀ base outer h₀ → Fr h₀ L s.heap m → (hd.heap_39 w.params).In h₀ → News h₀ L s.heap news → Top hd.view_39 lo mean mg mb h₀ → cs.kind = .function →
    dp + d < recursionLimit → un + u < cLine →
    (∀ v news' h' tk', R v news' → Fr h₀ L h' m → News h₀ L h' news' → Q v { s with heap := h', toks := tk' }) →
    wpAny (model PySem.Challenge.rw_op0032_01.row.prog w) (ktrTop dp un gd cn cs L a ccd cl outer) (call (.ref f) vs kw) Q E s

theorem Con.mono {w : World} {mean : ExcName → Option Value} {mg mb : Str → Option Value} {f : Addr} {vs : List Value} {kw : List (Str × Value)} {d u : Nat}
    {news : List (Addr × Obj)} {R R' : Value → List (Addr × Obj) → Prop} (h : Con w mean mg mb f vs kw d u news R) (hr : ∀ v n, R v n → R' v n) : Con w mean mg mb f vs kw d u news R' :=
  fun dp un gd cn cs a ccd cl outer A₀ base h₀ L m s Q E B F X N T hk hd hu ret =>
    h dp un gd cn cs a ccd cl outer A₀ base h₀ L m s Q E B F X N T hk hd hu fun v news' h' tk' r => ret v news' h' tk' (hr v news' r)
theorem Con.use {w : World} {mean : ExcName → Option Value} {mg mb : Str → Option Value} {f : Addr} {vs : List Value} {kw : List (Str × Value)} {d u : Nat}
    {news : List (Addr × Obj)} {R : Value → List (Addr × Obj) → Prop} {dp un : Nat} {gd : Option (List Code)} {cn : Str} {cs : Scope} {a : Addr} {ccd : Value} {cl : List (Str × Addr)} {outer : List Env} {A₀ : Around} {base h₀ : Heap} {L : Addr}
    {m : Str → Option Value} {s : Shared} {Q E : Value → Shared → Prop} (C : Con w mean mg mb f vs kw d u news R)
    (B : Below A₀ base outer h₀) (F : Fr h₀ L s.heap m) (X : (hd.heap_39 w.params).In h₀) (N : News h₀ L s.heap news) (T : Top hd.view_39 lo mean mg mb h₀) (hk : cs.kind = .function)
    (hd : dp + d < recursionLimit) (hu : un + u < cLine)
    (ret : ∀ v news' h' tk', R v news' → Fr h₀ L h' m → News h₀ L h' news' → Q v { s with heap := h', toks := tk' }) :
    wpAny (model PySem.Challenge.rw_op0032_01.row.prog w) (ktrTop dp un gd cn cs L a ccd cl outer) (call (.ref f) vs kw) Q E s :=
  C dp un gd cn cs a ccd cl outer A₀ base h₀ L m s Q E B F X N T hk hd hu ret
end
section
variable {w : World} {mean : ExcName → Option Value} {mg mb : Str → Option Value} {news : List (Addr × Obj)}
section
variable {prog : Program} {w : World} {A : Around} {E : Value → Shared → Prop} {s : Shared} {Q : Value → Shared → Prop}
theorem gm_encode {x : Str} {t : Tok} {pl : Sem Bool} {Q : Value × List Value → Shared → Prop} {M : Model} (h : Q (.builtin "str.encode", [.str x t]) s) : wpAny M A (getMethod (.str x t) (Str.ofString "encode") pl) Q E s := by
  with_reducible exact GM.of (.str x t) (typeIs_str _ _ _) F.slot_str_encode F.type_str_encode GM.noRef h
noncomputable def asBytes (x : Str) : Array UInt8 := x.cps.map (·.toUInt8)
theorem clean_ascii {l : Array Nat} (hx : ∀ c ∈ l.toList, c < 128) : (l.findIdx? Builtin._codecs.asciiCodec.bad) = none := by
  rw [Array.findIdx?_eq_none_iff]
  intro c hc
  have := hx c (Array.mem_toList_iff.mpr hc)
  simp [Builtin._codecs.asciiCodec]
  lia
theorem fold_ascii (l : List Nat) (o : Array UInt8) : l.foldl (fun acc y => acc ++ (Builtin._codecs.asciiCodec.bytesOf y).toArray) o = o ++ (l.map (·.toUInt8)).toArray := by
  induction l generalizing o with
  | nil => simp
  | cons a l ih => rw [List.foldl_cons, ih]; simp [Builtin._codecs.asciiCodec]
theorem forIn_two {β : Type} {f : Nat → β → Sem (ForInStep β)} {b b1 : β} {n : Nat} (h1 : ∀ i, f i b = pure (.yield b1)) (h2 : ∀ i, f i b1 = pure (.done b1)) :
    forIn (List.range' 0 (n + 1)) b f = (pure b1 : Sem β) := by
  rw [List.range'_succ, List.forIn_cons, h1]
  simp only [pure_bind]
  cases n with
  | zero => simp
  | succ n => rw [List.range'_succ, List.forIn_cons, h2]; simp
theorem narrow_ascii {id : String} {self : Value} {x : Str} (hx : ∀ c ∈ x.cps.toList, c < 128) (hsz : x.length ≤ 1000000) : Builtin._codecs.encodeNarrow id Builtin._codecs.asciiCodec none self x = pure (asBytes x) := by
  unfold Builtin._codecs.encodeNarrow
  simp only [Std.Legacy.Range.forIn_eq_forIn_range']
  have hsz' : ([0:x.length] : Std.Legacy.Range).size = x.length := by simp [Std.Legacy.Range.size]
  rw [hsz']
  obtain ⟨xs⟩ := x
  obtain ⟨l⟩ := xs
  cases l with
  | nil => 
    have e : (Str.mk ⟨[]⟩).length = 0 := rfl
    rw [e, List.range'_zero, List.forIn_nil, pure_bind]
    simp [asBytes]
  | cons a l =>
    have hl : (Str.mk ⟨a :: l⟩).length = l.length + 1 := by simp [Str.length]
    have ha : Builtin._codecs.asciiCodec.bad a = false := by
      have := hx a (by simp)
      simp [Builtin._codecs.asciiCodec]; lia
    have hc := clean_ascii (l := ⟨a :: l⟩) hx
    rw [hl]
    rw [forIn_two (b1 := (l.length + 1, asBytes ⟨⟨a :: l⟩⟩, {}))]
    · rw [pure_bind]
    · intro i
      have e0 : (Str.mk ⟨a :: l⟩).cps[0]? = some a := rfl
      dsimp only
      rw [if_neg (by simp [sizeLine]), e0]
      dsimp only
      rw [if_pos (by rw [ha]; rfl)]
      have er : (Str.mk ⟨a :: l⟩).cps.extract 0 (Str.mk ⟨a :: l⟩).cps.size = ⟨a :: l⟩ := by simp
      rw [er, hc]
      simp only [Option.getD_none]
      have ef : Array.foldl (fun acc y => acc ++ (Builtin._codecs.asciiCodec.bytesOf y).toArray) #[] ((⟨a :: l⟩ : Array Nat).extract 0 (⟨a :: l⟩ : Array Nat).size) = asBytes ⟨⟨a :: l⟩⟩ := by
        rw [Array.extract_size, ← Array.foldl_toList, fold_ascii]
        simp [asBytes]
      rw [ef]
      simp
    · intro i
      have e1 : (Str.mk ⟨a :: l⟩).cps[l.length + 1]? = none := by simp
      dsimp only
      rw [if_neg (by rw [hl] at hsz; simp [sizeLine, asBytes]; lia), e1]
theorem encode_ascii {x : Str} {t u : Tok} (hx : ∀ c ∈ x.cps.toList, c < 128) (hsz : x.length ≤ 1000000) (h : ∀ t' k, Q (.bytes (asBytes x) t') { s with toks := k }) :
    wpAny (model prog w) A (call (.builtin "str.encode") [.str x t, .str (Str.ofString "ascii") u]) Q E s := by
  refine wpAny_call_entry F.slot_str_encode (typeIs_str _ _ _) F.entry_str_encode ?_ (F.args_str_encode_2 _ _)
  unfold Builtin.«str.encode»
  refine wpAny_bind (wpAny_of_eq (a := (Value.str x t, x, [Value.str (Str.ofString "ascii") u])) rfl ?_)
  dsimp only
  refine wpAny_bind (wpAny_of_eq (a := [some (Value.str (Str.ofString "ascii") u), none]) rfl ?_)
  dsimp only
  refine wpAny_bind (wpAny_of_eq (a := some (Str.ofString "ascii")) (by kernel_rfl) ?_)
  refine wpAny_bind (wpAny_of_eq (a := none) rfl ?_)
  refine wpAny_bind ?_
  unfold Builtin._codecs.encodeRoad
  have e : (Builtin._codecs.normalName ((some (Str.ofString "ascii")).getD (Str.ofString "utf-8"))).toString = "ascii" := by decide +kernel
  rw [e]
  show wpAny _ _ (Builtin._codecs.encodeNarrow "str.encode" Builtin._codecs.asciiCodec none (Value.str x t) x >>= fun r => mkBytes r) _ _ _
  rw [narrow_ascii hx hsz]
  refine wpAny_bind (wpAny_pure (wpAny_mkBytes (wpAny_pure ⟨_, rfl, h _ _⟩) ?_))
  simp [asBytes, sizeLine]
  simp [Str.length] at hsz
  lia
theorem slot_bytes_translate : Slot "bytes" (Str.ofString "translate") "bytes.translate" :=
  .of (owner := "bytes") (n := "translate") (by rw [typeLookup_type, builtinLookup_eq_fast]; kernel_rfl) (by decide +kernel) (by decide +kernel) (by decide +kernel)
    (by first | exact .inl (by decide +kernel) | exact .inr (by decide +kernel)) (by rw [isSubtype_type]; kernel_rfl)
theorem type_bytes_translate : typeOf (.builtin "bytes.translate") = pure (.type "method_descriptor") := by show builtinType _ = _; rw [builtinType_eq_fast]; kernel_rfl
theorem entry_bytes_translate : entryFor table "bytes.translate" = some Builtin.«bytes.translate» := entryFor_of_tree (by kernel_rfl)
theorem args_bytes_translate (a b : Value) : argsOk "bytes.translate" ⟨[a, b], []⟩ := by
  unfold argsOk; rw [signature?_of (id := "bytes.translate") (n := ['e', 't', 'a', 'l', 's', 'n', 'a', 'r', 't']) (o := ['s', 'e', 't', 'y', 'b']) (by kernel_rfl) FB.owner_bytes]; kernel_rfl
theorem gm_translate {b : Array UInt8} {t : Tok} {pl : Sem Bool} {Q : Value × List Value → Shared → Prop} {M : Model} (h : Q (.builtin "bytes.translate", [.bytes b t]) s) : wpAny M A (getMethod (.bytes b t) (Str.ofString "translate") pl) Q E s := by
  with_reducible exact getMethod_builtin (typeIs_bytes _ _ _) FB.plainAttrs_bytes slot_bytes_translate type_bytes_translate (fun _ e => nomatch e) h
noncomputable def transl (t b : Array UInt8) : Array UInt8 := b.map fun c => t.getD c.toNat c
theorem translate_bytes {b tb : Array UInt8} {t u : Tok} (h256 : tb.size = 256) (hsz : b.size ≤ 1000000) (h : ∀ t' k, Q (.bytes (transl tb b) t') { s with toks := k }) :
    wpAny (model prog w) A (call (.builtin "bytes.translate") [.bytes b t, .bytes tb u]) Q E s := by
  refine wpAny_call_entry slot_bytes_translate (typeIs_bytes _ _ _) entry_bytes_translate ?_ (args_bytes_translate _ _)
  unfold Builtin.«bytes.translate» Builtin.Bytes.translateM
  show wpAny _ _ (Builtin.Bytes.bytesLike _ (Value.bytes tb u) >>= fun r => _) _ _ _
  refine wpAny_bind (wpAny_of_eq (a := tb) ?_ ?_)
  · unfold Builtin.Bytes.bytesLike
    rw [KBy.buffer_eq]
    rfl
  show wpAny _ _ (if (tb.size != 256) = true then _ else _) _ _ _
  rw [if_neg (by simp [h256])]
  refine wpAny_bind (wpAny_pure ?_)
  refine wpAny_bind (wpAny_pure ?_)
  refine wpAny_bind (wpAny_of_eq (a := b) rfl ?_)
  dsimp only
  have e : Array.map (fun c => tb.getD c.toNat c) (Array.filter (fun x => !(#[] : Array UInt8).contains x) b) = transl tb b := by
    unfold transl
    congr 1
    simp
  rw [e]
  by_cases hb : (transl tb b == b) = true
  · rw [if_pos hb]
    refine wpAny_bind (wpAny_rule ?_)
    have hb' : transl tb b = b := by simpa using hb
    refine wpAny_bind (wpAny_of_eq (a := Value.bytes b t) rfl (wpAny_pure ⟨_, rfl, ?_⟩))
    have h' := h t s.toks
    rw [hb'] at h'
    exact h'
  · rw [if_neg hb]
    refine wpAny_bind (wpAny_mkBytes (wpAny_pure ⟨_, rfl, h _ _⟩) ?_)
    simp [transl, sizeLine]; lia
theorem kind_maketrans : builtinKind "bytes.maketrans" = some .staticMethod := by decide +kernel
theorem split_maketrans : splitId "bytes.maketrans" = some ("bytes", "maketrans") := by decide +kernel
theorem plain_maketrans : plainId "bytes.maketrans" = true := by decide +kernel
theorem entry_maketrans : entryFor table "bytes.maketrans" = some Builtin.«bytes.maketrans» := entryFor_of_tree (by kernel_rfl)
theorem args_maketrans (a b : Value) : argsOk "bytes.maketrans" ⟨[a, b], []⟩ := by
  unfold argsOk; rw [signature?_of (id := "bytes.maketrans") (n := ['s', 'n', 'a', 'r', 't', 'e', 'k', 'a', 'm']) (o := ['s', 'e', 't', 'y', 'b']) (by kernel_rfl) FB.owner_bytes]; kernel_rfl
theorem check_maketrans (a b : Value) : checkBuiltinCall "bytes.maketrans" ⟨[a, b], []⟩ = pure () := by
  have ha := args_maketrans a b
  unfold argsOk at ha
  simp only [checkBuiltinCall, kind_maketrans, split_maketrans]
  split at ha
  · rename_i h; rw [h]; exact ha
  · rename_i h; rw [h]
noncomputable def mkTab (f g : Array UInt8) : Array UInt8 := (f.toList.zip g.toList).foldl (fun t p => t.setIfInBounds p.1.toNat p.2) ((Array.range 256).map (·.toUInt8))
theorem mkTab_size (f g : Array UInt8) : (mkTab f g).size = 256 := by
  have : ∀ (l : List (UInt8 × UInt8)) (t : Array UInt8), (l.foldl (fun t p => t.setIfInBounds p.1.toNat p.2) t).size = t.size := by
    intro l
    induction l with
    | nil => intro t; rfl
    | cons a l ih => intro t; rw [List.foldl_cons, ih]; simp
  unfold mkTab
  rw [this]
  simp
theorem maketrans_bytes {f g : Array UInt8} {t u : Tok} (hs : f.size = g.size) (h : ∀ t' k, Q (.bytes (mkTab f g) t') { s with toks := k }) :
    wpAny (model prog w) A (call (.builtin "bytes.maketrans") [.bytes f t, .bytes g u]) Q E s := by
  refine wpAny_call (codeAny_call_builtin plain_maketrans entry_maketrans (wpAny_of_eq (check_maketrans _ _) (wpAny_mono (Q := fun fin s' => ∃ v, fin = .done (.ret v) ∧ Q v s') (E := E) ?_ (fun fin s' h' => by obtain ⟨v, rfl, hv⟩ := h'; exact hv) fun _ _ h' => h')))
  unfold Builtin.«bytes.maketrans» Builtin.Bytes.maketransM
  refine wpAny_bind (wpAny_of_eq (a := ()) rfl ?_)
  refine wpAny_bind (wpAny_of_eq (a := ()) rfl ?_)
  refine wpAny_bind (wpAny_of_eq (a := f) ?_ ?_)
  · unfold Builtin.Bytes.bytesLike
    show (Builtin.Bytes.buffer? _ (Value.bytes f t) >>= _) = _
    rw [KBy.buffer_eq]
    rfl
  refine wpAny_bind (wpAny_of_eq (a := g) ?_ ?_)
  · unfold Builtin.Bytes.bytesLike
    show (Builtin.Bytes.buffer? _ (Value.bytes g u) >>= _) = _
    rw [KBy.buffer_eq]
    rfl
  rw [if_neg (by simp [hs])]
  refine wpAny_bind (wpAny_mkBytes (wpAny_pure ⟨_, rfl, h _ _⟩) ?_)
  show (mkTab f g).size ≤ sizeLine
  rw [mkTab_size]
  simp [sizeLine]
end
end
section
variable {w : World} {mean : ExcName → Option Value} {mg mb : Str → Option Value} {news : List (Addr × Obj)}
theorem anew_c1 : True := by
  w_top off
  trivial
local macro_rules | `(tactic| walk_at "call type:type") => `(tactic| ((with_reducible show wpAny _ _ (call _ [Value.bytes _ _]) _ _ _); refine call_type_of (Tx := "bytes") rfl (by decide +kernel) ?_))
local macro_rules | `(tactic| walk_at "getMethod str") => `(tactic| with_reducible refine gm_encode ?_)
local macro_rules | `(tactic| walk_at "getMethod bytes") => `(tactic| with_reducible refine gm_translate ?_)
local macro_rules | `(tactic| walk_at "call builtin:str.encode") => `(tactic| (refine encode_ascii (by assumption) (by first | assumption | lia) ?_; intro t9 k9))
local macro_rules | `(tactic| walk_at "getMethod type:bytes") => `(tactic| (k_here; refine' method_type ?F ?X ?m (by decide +kernel) ?e ?h ?_; (case F => k_asm); (case X => k_asm); (case m => kernel_rfl); (case e => k_dflt k_is); (case h => k_handed)))
local macro_rules | `(tactic| walk_at "call builtin:bytes.maketrans") => `(tactic| (refine maketrans_bytes (by rfl) ?_; intro t9 k9; (try dsimp only)))
local macro_rules | `(tactic| walk_at "call builtin:bytes.translate") => `(tactic| (refine translate_bytes (mkTab_size _ _) (by assumption) ?_; intro t9 k9; (try dsimp only)))
local macro_rules | `(tactic| walk_at "mine_start") => `(tactic| ((case kA => exact rfl); (case kF => exact rfl); (case kK => assumption); (case k1 => k_asm); (case k2 => k_asm); (case k3 => k_asm); (case k4 => k_asm); (case k5 => k_asm); (case k6 => k_is); (case k7 => k_is); (case k8 => ktr_room); (case k9 => first | exact BindsTo.of_eq rfl | exact binds_K (by k_in) rfl (by k_is) rfl rfl rfl); (case c5 => decide); (case kB => exact locs rfl); (case c2 => exact rfl); (case c3 => exact rfl); (case c4 => exact rfl); k_whole))
local macro_rules | `(tactic| walk_at "mine_use") => `(tactic| ((case k1 => k_asm); (case k2 => k_asm); (case k3 => k_asm); (case k4 => k_asm); (case k5 => k_asm); (case kK => first | exact rfl | assumption); (case kd => ktr_room); (case ku => ktr_units)))
local macro_rules | `(tactic| walk_at "mine_steps") => `(tactic| repeat' (first | (k_unfold; (try dsimp only)) | ((fail_if_success (with_reducible show wpAny _ _ (pyIter _) _ _ _)); (fail_if_success (with_reducible show InvEndN _ _ _ _ _ _ _)); (fail_if_success (with_reducible show KswEnd _ _ _ _ _ _ _ _ _ _ _ _)); (fail_if_success (with_reducible show wpAny _ _ (exec (Stmt.While _ _ _ _) _) _ _ _)); first | walk1 | (dsimp only; walk1)) | fail "no step"))
local macro_rules | `(tactic| k_all) => `(tactic| assumption)
local macro_rules | `(tactic| size_fits) => `(tactic| assumption)
local macro_rules | `(tactic| walk_at "mine_same") => `(tactic| (intro z h1 h2 h3; (simp only [List.forall_mem_cons, List.not_mem_nil, false_implies, implies_true, and_true, ne_eq] at h2); (simp only [List.contains_cons, List.contains_nil, Bool.or_false, Bool.or_eq_false_iff, beq_eq_false_iff_ne, ne_eq] at h3); first | rfl | (simp [h1, h2, h3]; done) | (simp [kstB, h1, h2, h3]; done)))
local macro_rules | `(tactic| walk_at "mine_dec") => `(tactic| first | (with_reducible assumption) | ((simp only [decide_eq_true_eq, decide_eq_false_iff_not, Bool.not_eq_true, ne_eq, beq_iff_eq, beq_eq_false_iff_ne, bne_iff_ne]); lia) | lia)
local macro_rules | `(tactic| walk_at "ite") => `(tactic| (k_here; first | (refine ite_neg (by walk_at "mine_dec") ?_) | (refine ite_pos (by walk_at "mine_dec") ?_)))
local macro_rules | `(tactic| walk_at "mine_same2") => `(tactic| (intro z h2 h3; (simp only [List.forall_mem_cons, List.not_mem_nil, false_implies, implies_true, and_true, ne_eq] at h2); (simp only [List.contains_cons, List.contains_nil, Bool.or_false, Bool.or_eq_false_iff, beq_eq_false_iff_ne, ne_eq] at h3); first | rfl | (simp [h2, h3]; done) | (simp [kstB, h2, h3]; done)))
local macro_rules | `(tactic| walk_at "exec For") => `(tactic| (k_here; (with_reducible show wpAny _ _ (exec (Stmt.For (Expr.Name _ _) _ _ [] _) _) _ _ _); (rename Fr _ _ _ _ => lF'); (with_unfolding_all refine' For_invVF lF' ?k1 ?k2 ?_; (case k1 => exact rfl); (case k2 => exact rfl); k_whole)))
local macro_rules | `(tactic| walk_at "mine_to_for") => `(tactic| repeat' (first | ((fail_if_success (with_reducible show wpAny _ _ (exec (Stmt.For _ _ _ _ _) _) _ _ _)); (fail_if_success (with_reducible show wpAny _ _ (pyIter _) _ _ _)); (fail_if_success (with_reducible show wpAny _ _ (binaryOp Operator.Pow _ _) _ _ _)); first | walk1 | (dsimp only; walk1)) | fail "no step"))
local macro_rules | `(tactic| walk_at "mine_to_tup") => `(tactic| repeat' (first | ((fail_if_success (with_reducible show wpAny _ _ (subscriptTail (Expr.Tuple _ _ _) _ _ _) _ _ _)); first | walk1 | (dsimp only; walk1)) | fail "no step"))
local macro_rules | `(tactic| walk_at "mine_stepsA") => `(tactic| repeat' (first | (k_unfold; (try dsimp only)) | ((fail_if_success (with_reducible show wpAny _ _ (pyIter _) _ _ _)); (fail_if_success (with_reducible show wpAny _ _ (call (Value.builtin "list.append") _ _) _ _ _)); (fail_if_success (with_reducible show wpAny _ _ (call (Value.ref 143) _ _) _ _ _)); (fail_if_success (with_reducible show wpAny _ _ (call (Value.ref 150) _ _) _ _ _)); (fail_if_success (with_reducible show wpAny _ _ (call (Value.builtin "sorted") _ _) _ _ _)); (fail_if_success (with_reducible show wpAny _ _ (compareOp CmpOp.Eq (Value.ref _) (Value.ref _)) _ _ _)); (fail_if_success (with_reducible show wpAny _ _ (exec (Stmt.For _ _ _ _ _) _) _ _ _)); first | walk1 | (dsimp only; walk1)) | fail "no step"))
noncomputable def b64v (c : Int) : Int :=
  if 65 ≤ c ∧ c ≤ 90 then c - 65 else if 97 ≤ c ∧ c ≤ 122 then c - 71 else if 48 ≤ c ∧ c ≤ 57 then c + 4 else if c = 43 then 62 else if c = 47 then 63 else 64
theorem spec_b64_value (c : Int) (t : Tok) :
    Con w mean mg mb 104 [.int c t] [] 1 8 news (fun v n => (∃ t, v = .int (b64v c) t) ∧ n = news) := by
  unfold Con; k_fill; intro dp un gd cn cs a ccd cl outer A₀ base h₀ L m s Q E B F X N T hk hd hu ret
  refine wpAny_call ?_
  k_dflt (refine' code_def (binds := [(Str.ofString "c", .int c t)]) ?k1 ?k2 ?k3 ?k4 ?k5 ?kA ?kF ?kK ?k6 ?k7 ?k8 ?k9 ?kB ?_ ?c2 ?c3 ?c4 ?c5; walk_at "mine_start")
  intro g L' h' FG F' N' B' X' T'
  try dsimp only
  try k_fold
  walk_at "mine_steps"
  all_goals (refine ret _ _ _ _ ⟨⟨_, congrArg (fun z => Value.int z _) ?_⟩, rfl⟩ (by k_asm) (by k_asm); unfold b64v; simp only [decide_eq_true_eq, decide_eq_false_iff_not, Bool.not_eq_true, Bool.not_eq_false] at *; (repeat' split) <;> lia)
theorem spec_truth (b : Bool) :
    Con w mean mg mb 97 [.bool b] [] 1 8 news (fun v n => v = .bool b ∧ n = news) := by
  unfold Con; k_fill; intro dp un gd cn cs a ccd cl outer A₀ base h₀ L m s Q E B F X N T hk hd hu ret
  refine wpAny_call ?_
  k_dflt (refine' code_def (binds := [(Str.ofString "x", .bool b)]) ?k1 ?k2 ?k3 ?k4 ?k5 ?kA ?kF ?kK ?k6 ?k7 ?k8 ?k9 ?kB ?_ ?c2 ?c3 ?c4 ?c5; walk_at "mine_start")
  intro g L' h' FG F' N' B' X' T'
  try dsimp only
  try k_fold
  walk_at "mine_steps"
  all_goals (subst_vars; exact ret _ _ _ _ ⟨rfl, rfl⟩ (by k_asm) (by k_asm))
theorem spec_buffer (b : Array UInt8) (t : Tok) :
    Con w mean mg mb 90 [.bytes b t] [] 1 8 news (fun v n => v = .bytes b t ∧ n = news) := by
  unfold Con; k_fill; intro dp un gd cn cs a ccd cl outer A₀ base h₀ L m s Q E B F X N T hk hd hu ret
  refine wpAny_call ?_
  k_dflt (refine' code_def (binds := [(Str.ofString "data", .bytes b t)]) ?k1 ?k2 ?k3 ?k4 ?k5 ?kA ?kF ?kK ?k6 ?k7 ?k8 ?k9 ?kB ?_ ?c2 ?c3 ?c4 ?c5; walk_at "mine_start")
  intro g L' h' FG F' N' B' X' T'
  try dsimp only
  try k_fold
  walk_at "mine_steps"
  all_goals exact ret _ _ _ _ ⟨rfl, rfl⟩ (by k_asm) (by k_asm)
theorem spec_ascii (b : Array UInt8) (t : Tok) :
    Con w mean mg mb 83 [.bytes b t] [] 1 8 news (fun v n => v = .bytes b t ∧ n = news) := by
  unfold Con; k_fill; intro dp un gd cn cs a ccd cl outer A₀ base h₀ L m s Q E B F X N T hk hd hu ret
  refine wpAny_call ?_
  k_dflt (refine' code_def (binds := [(Str.ofString "data", .bytes b t)]) ?k1 ?k2 ?k3 ?k4 ?k5 ?kA ?kF ?kK ?k6 ?k7 ?k8 ?k9 ?kB ?_ ?c2 ?c3 ?c4 ?c5; walk_at "mine_start")
  intro g L' h' FG F' N' B' X' T'
  try dsimp only
  try k_fold
  walk_at "mine_steps"
  all_goals exact ret _ _ _ _ ⟨rfl, rfl⟩ (by k_asm) (by k_asm)
theorem spec_bytes_from (b : Array UInt8) (t : Tok) :
    Con w mean mg mb 63 [.bytes b t] [] 1 8 news (fun v n => v = .bytes b t ∧ n = news) := by
  unfold Con; k_fill; intro dp un gd cn cs a ccd cl outer A₀ base h₀ L m s Q E B F X N T hk hd hu ret
  refine wpAny_call ?_
  k_dflt (refine' code_def (binds := [(Str.ofString "s", .bytes b t)]) ?k1 ?k2 ?k3 ?k4 ?k5 ?kA ?kF ?kK ?k6 ?k7 ?k8 ?k9 ?kB ?_ ?c2 ?c3 ?c4 ?c5; walk_at "mine_start")
  intro g L' h' FG F' N' B' X' T'
  try dsimp only
  try k_fold
  walk_at "mine_steps"
  all_goals exact ret _ _ _ _ ⟨rfl, rfl⟩ (by k_asm) (by k_asm)
theorem spec_bytes_from_str (x : Str) (t : Tok) (hx : ∀ c ∈ x.cps.toList, c < 128) (hsz : x.length ≤ 1000000) :
    Con w mean mg mb 63 [.str x t] [] 1 8 news (fun v n => (∃ t, v = .bytes (asBytes x) t) ∧ n = news) := by
  unfold Con; k_fill; intro dp un gd cn cs a ccd cl outer A₀ base h₀ L m s Q E B F X N T hk hd hu ret
  refine wpAny_call ?_
  k_dflt (refine' code_def (binds := [(Str.ofString "s", .str x t)]) ?k1 ?k2 ?k3 ?k4 ?k5 ?kA ?kF ?kK ?k6 ?k7 ?k8 ?k9 ?kB ?_ ?c2 ?c3 ?c4 ?c5; walk_at "mine_start")
  intro g L' h' FG F' N' B' X' T'
  try dsimp only
  try k_fold
  walk_at "mine_steps"
  all_goals exact ret _ _ _ _ ⟨⟨_, rfl⟩, rfl⟩ (by k_asm) (by k_asm)
end
section
variable {w : World} {mean : ExcName → Option Value} {mg mb : Str → Option Value} {news : List (Addr × Obj)}
theorem fin_int {n : Nat} {P : Int → Prop} (h : ∀ i : Fin n, P (i.val : Int)) {x : Int} (h0 : 0 ≤ x) (h1 : x < n) : P x := by
  have := h ⟨x.toNat, by lia⟩
  simpa [Int.toNat_of_nonneg h0] using this
theorem bits1 {l v : Int} (hl : 0 ≤ l) (hl' : l < 64) (hv : 0 ≤ v) (hv' : v < 64) : Builtin.bitOr (l * 2 ^ Int.toNat 2) (v.fdiv (2 ^ Int.toNat 4)) = 4 * l + v / 16 := by
  revert v
  revert l
  intro l hl hl' v hv hv'
  refine fin_int (n := 64) (P := fun l => Builtin.bitOr (l * 2 ^ Int.toNat 2) (v.fdiv (2 ^ Int.toNat 4)) = 4 * l + v / 16) (fun i => ?_) hl hl'
  refine fin_int (n := 64) (P := fun v => Builtin.bitOr ((i.val : Int) * 2 ^ Int.toNat 2) (v.fdiv (2 ^ Int.toNat 4)) = 4 * (i.val : Int) + v / 16) (fun j => ?_) hv hv'
  revert i j
  decide +kernel
theorem bits2 {l v : Int} (hl : 0 ≤ l) (hl' : l < 64) (hv : 0 ≤ v) (hv' : v < 64) : l < 16 → Builtin.bitOr (l * 2 ^ Int.toNat 4) (v.fdiv (2 ^ Int.toNat 2)) = 16 * l + v / 4 := by
  refine fin_int (n := 64) (P := fun l => l < 16 → Builtin.bitOr (l * 2 ^ Int.toNat 4) (v.fdiv (2 ^ Int.toNat 2)) = 16 * l + v / 4) (fun i => ?_) hl hl'
  refine fin_int (n := 64) (P := fun v => (i.val : Int) < 16 → Builtin.bitOr ((i.val : Int) * 2 ^ Int.toNat 4) (v.fdiv (2 ^ Int.toNat 2)) = 16 * (i.val : Int) + v / 4) (fun j => ?_) hv hv'
  revert i j
  decide +kernel
theorem bits3 {l v : Int} (hl : 0 ≤ l) (hl' : l < 64) (hv : 0 ≤ v) (hv' : v < 64) : l < 4 → Builtin.bitOr (l * 2 ^ Int.toNat 6) v = 64 * l + v := by
  refine fin_int (n := 64) (P := fun l => l < 4 → Builtin.bitOr (l * 2 ^ Int.toNat 6) v = 64 * l + v) (fun i => ?_) hl hl'
  refine fin_int (n := 64) (P := fun v => (i.val : Int) < 4 → Builtin.bitOr ((i.val : Int) * 2 ^ Int.toNat 6) v = 64 * (i.val : Int) + v) (fun j => ?_) hv hv'
  revert i j
  decide +kernel
theorem b64v_range (c : Int) : 0 ≤ b64v c ∧ b64v c ≤ 64 := by
  unfold b64v
  (repeat' split) <;> lia
noncomputable def dstep (st : List Int × Int × Int) (c : Int) : List Int × Int × Int :=
  if 64 ≤ b64v c then st
  else if st.2.1 = 0 then (st.1, 1, b64v c)
  else if st.2.1 = 1 then (st.1 ++ [4 * st.2.2 + b64v c / 16], 2, b64v c % 16)
  else if st.2.1 = 2 then (st.1 ++ [16 * st.2.2 + b64v c / 4], 3, b64v c % 4)
  else (st.1 ++ [64 * st.2.2 + b64v c], 0, 0)
noncomputable def dec (cs : List Int) : List Int × Int × Int := cs.foldl dstep ([], 0, 0)
/-- what holds of a decoder's state -/
noncomputable def DOk (n : Nat) (st : List Int × Int × Int) : Prop :=
  st.1.length ≤ n ∧ (∀ x ∈ st.1, 0 ≤ x ∧ x < 256) ∧ ((st.2.1 = 0 ∧ st.2.2 = 0) ∨ (st.2.1 = 1 ∧ 0 ≤ st.2.2 ∧ st.2.2 < 64) ∨ (st.2.1 = 2 ∧ 0 ≤ st.2.2 ∧ st.2.2 < 16) ∨ (st.2.1 = 3 ∧ 0 ≤ st.2.2 ∧ st.2.2 < 4))
theorem dstep_ok {n : Nat} {st : List Int × Int × Int} {c : Int} (h : DOk n st) : DOk (n + 1) (dstep st c) := by
  obtain ⟨hl, hb, hq⟩ := h
  have hv := b64v_range c
  have mem : ∀ y : Int, 0 ≤ y → y < 256 → ∀ x ∈ st.1 ++ [y], 0 ≤ x ∧ x < 256 := by
    intro y h1 h2 x hx
    rcases List.mem_append.mp hx with h | h
    · exact hb x h
    · rw [List.mem_singleton.mp h]; exact ⟨h1, h2⟩
  unfold dstep
  split
  · exact ⟨by lia, hb, hq⟩
  split
  · exact ⟨by dsimp only; lia, hb, .inr (.inl ⟨rfl, by dsimp only; lia, by dsimp only; lia⟩)⟩
  split
  · refine ⟨by simp only [List.length_append, List.length_singleton]; lia, mem _ (by lia) (by lia), .inr (.inr (.inl ⟨rfl, by dsimp only; lia, by dsimp only; lia⟩))⟩
  split
  · refine ⟨by simp only [List.length_append, List.length_singleton]; lia, mem _ (by lia) (by lia), .inr (.inr (.inr ⟨rfl, by dsimp only; lia, by dsimp only; lia⟩))⟩
  · refine ⟨by simp only [List.length_append, List.length_singleton]; lia, mem _ (by lia) (by lia), .inl ⟨rfl, rfl⟩⟩
theorem dec_snoc (cs : List Int) (c : Int) : dec (cs ++ [c]) = dstep (dec cs) c := by simp [dec]
theorem dec_ok (cs : List Int) : DOk cs.length (dec cs) := by
  have : ∀ (l : List Int) (n : Nat) (st : List Int × Int × Int), DOk n st → DOk (n + l.length) (l.foldl dstep st) := by
    intro l
    induction l with
    | nil => intro n st h; exact h
    | cons a l ih =>
      intro n st h
      have := ih (n + 1) _ (dstep_ok (c := a) h)
      rw [List.foldl_cons, List.length_cons]
      have e : n + (l.length + 1) = n + 1 + l.length := by lia
      rw [e]; exact this
  have h := this cs 0 ([], 0, 0) ⟨Nat.le_refl _, fun _ h => (nomatch h), .inl ⟨rfl, rfl⟩⟩
  simpa [dec] using h
theorem bitOr_pp {x y : Int} (hx : 0 ≤ x) (hy : 0 ≤ y) : Builtin.bitOr x y = ((x.toNat ||| y.toNat : Nat) : Int) := by
  unfold Builtin.bitOr
  rw [bitAnd_nn (by unfold Builtin.bitNot; lia) (by unfold Builtin.bitNot; lia)]
  have e : ∀ z : Int, Builtin.bitNot (Builtin.bitNot z) = z := by intro z; unfold Builtin.bitNot; lia
  rw [e, e, e]
theorem bits8 {l v : Int} (hl : 0 ≤ l) (hv : 0 ≤ v) (hv' : v < 256) : Builtin.bitOr (l * 2 ^ Int.toNat 8) v = l * 256 + v := by
  have e : l * 2 ^ Int.toNat 8 = l * 256 := by rfl
  rw [e, bitOr_pp (by lia) hv]
  have e1 : (l * 256).toNat = 2 ^ 8 * l.toNat := by lia
  rw [e1, ← Nat.two_pow_add_eq_or_of_lt (by lia)]
  lia
/-- the alphabet -/
noncomputable def abc : Array UInt8 := #[65, 66, 67, 68, 69, 70, 71, 72, 73, 74, 75, 76, 77, 78, 79, 80, 81, 82, 83, 84, 85, 86, 87, 88, 89, 90, 97, 98, 99, 100, 101, 102, 103, 104, 105, 106, 107, 108, 109, 110, 111, 112, 113, 114, 115, 116, 117, 118, 119, 120, 121, 122, 48, 49, 50, 51, 52, 53, 54, 55, 56, 57, 43, 47]
noncomputable def e64 (v : Int) : Int := (KBw.bInts abc).getD v.toNat 0
noncomputable def estep (st : List Int × Int × Int) (b : Int) : List Int × Int × Int :=
  let lc := (st.2.2 * 256 + b) % 65536
  if st.2.1 = 0 then (st.1 ++ [e64 (lc / 4 % 64)], 2, lc)
  else if st.2.1 = 2 then (st.1 ++ [e64 (lc / 16 % 64)], 4, lc)
  else (st.1 ++ [e64 (lc / 64 % 64)] ++ [e64 (lc % 64)], 0, lc)
noncomputable def enc (bs : List Int) : List Int × Int × Int := bs.foldl estep ([], 0, 0)
theorem enc_snoc (cs : List Int) (c : Int) : enc (cs ++ [c]) = estep (enc cs) c := by simp [enc]
theorem e64_range (v : Int) : 0 ≤ e64 v ∧ e64 v < 256 := by
  unfold e64
  have h : ∀ (l : List Int) (k : Nat), (∀ x ∈ l, 0 ≤ x ∧ x < 256) → 0 ≤ l.getD k 0 ∧ l.getD k 0 < 256 := by
    intro l k h
    rw [List.getD_eq_getElem?_getD]
    cases e : l[k]? with
    | none => simp
    | some x => exact h x (List.mem_of_getElem? e)
  exact h _ _ fun x hx => KBw.ints_in hx
noncomputable def EOk (n : Nat) (st : List Int × Int × Int) : Prop :=
  st.1.length ≤ 2 * n ∧ (∀ x ∈ st.1, 0 ≤ x ∧ x < 256) ∧ (st.2.1 = 0 ∨ st.2.1 = 2 ∨ st.2.1 = 4) ∧ 0 ≤ st.2.2 ∧ st.2.2 ≤ 65535
theorem estep_ok {n : Nat} {st : List Int × Int × Int} {c : Int} (h : EOk n st) : EOk (n + 1) (estep st c) := by
  obtain ⟨hl, hb, hq, h0, h1⟩ := h
  have mem : ∀ (l : List Int) (v : Int), (∀ x ∈ l, 0 ≤ x ∧ x < 256) → ∀ x ∈ l ++ [e64 v], 0 ≤ x ∧ x < 256 := by
    intro l v hl x hx
    rcases List.mem_append.mp hx with h | h
    · exact hl x h
    · rw [List.mem_singleton.mp h]; exact e64_range v
  have e : 0 ≤ (st.2.2 * 256 + c) % 65536 ∧ (st.2.2 * 256 + c) % 65536 ≤ 65535 := by lia
  unfold estep
  dsimp only
  split
  · exact ⟨by simp only [List.length_append, List.length_singleton]; lia, mem _ _ hb, .inr (.inl rfl), e⟩
  split
  · exact ⟨by simp only [List.length_append, List.length_singleton]; lia, mem _ _ hb, .inr (.inr rfl), e⟩
  · exact ⟨by simp only [List.length_append, List.length_singleton]; lia, mem _ _ (mem _ _ hb), .inl rfl, e⟩
theorem enc_ok (cs : List Int) : EOk cs.length (enc cs) := by
  have : ∀ (l : List Int) (n : Nat) (st : List Int × Int × Int), EOk n st → EOk (n + l.length) (l.foldl estep st) := by
    intro l
    induction l with
    | nil => intro n st h; exact h
    | cons a l ih =>
      intro n st h
      have := ih (n + 1) _ (estep_ok (c := a) h)
      rw [List.foldl_cons, List.length_cons]
      have e : n + (l.length + 1) = n + 1 + l.length := by lia
      rw [e]; exact this
  have h := this cs 0 ([], 0, 0) ⟨Nat.le_refl _, fun _ h => (nomatch h), .inl rfl, by decide, by decide⟩
  simpa [enc] using h
end
section
variable {w : World} {mean : ExcName → Option Value} {mg mb : Str → Option Value} {news : List (Addr × Obj)}
theorem anew_c2 : True := by
  w_top off
  trivial
local macro_rules | `(tactic| walk_at "call type:type") => `(tactic| ((with_reducible show wpAny _ _ (call _ [Value.bytes _ _]) _ _ _); refine call_type_of (Tx := "bytes") rfl (by decide +kernel) ?_))
local macro_rules | `(tactic| walk_at "getMethod str") => `(tactic| with_reducible refine gm_encode ?_)
local macro_rules | `(tactic| walk_at "getMethod bytes") => `(tactic| with_reducible refine gm_translate ?_)
local macro_rules | `(tactic| walk_at "call builtin:str.encode") => `(tactic| (refine encode_ascii (by assumption) (by first | assumption | lia) ?_; intro t9 k9))
local macro_rules | `(tactic| walk_at "getMethod type:bytes") => `(tactic| (k_here; refine' method_type ?F ?X ?m (by decide +kernel) ?e ?h ?_; (case F => k_asm); (case X => k_asm); (case m => kernel_rfl); (case e => k_dflt k_is); (case h => k_handed)))
local macro_rules | `(tactic| walk_at "call builtin:bytes.maketrans") => `(tactic| (refine maketrans_bytes (by rfl) ?_; intro t9 k9; (try dsimp only)))
local macro_rules | `(tactic| walk_at "call builtin:bytes.translate") => `(tactic| (refine translate_bytes (mkTab_size _ _) (by assumption) ?_; intro t9 k9; (try dsimp only)))
local macro_rules | `(tactic| walk_at "mine_start") => `(tactic| ((case kA => exact rfl); (case kF => exact rfl); (case kK => assumption); (case k1 => k_asm); (case k2 => k_asm); (case k3 => k_asm); (case k4 => k_asm); (case k5 => k_asm); (case k6 => k_is); (case k7 => k_is); (case k8 => ktr_room); (case k9 => first | exact BindsTo.of_eq rfl | exact binds_K (by k_in) rfl (by k_is) rfl rfl rfl); (case c5 => decide); (case kB => exact locs rfl); (case c2 => exact rfl); (case c3 => exact rfl); (case c4 => exact rfl); k_whole))
local macro_rules | `(tactic| walk_at "mine_use") => `(tactic| ((case k1 => k_asm); (case k2 => k_asm); (case k3 => k_asm); (case k4 => k_asm); (case k5 => k_asm); (case kK => first | exact rfl | assumption); (case kd => ktr_room); (case ku => ktr_units)))
local macro_rules | `(tactic| walk_at "mine_steps") => `(tactic| repeat' (first | (k_unfold; (try dsimp only)) | ((fail_if_success (with_reducible show wpAny _ _ (pyIter _) _ _ _)); (fail_if_success (with_reducible show InvEndN _ _ _ _ _ _ _)); (fail_if_success (with_reducible show KswEnd _ _ _ _ _ _ _ _ _ _ _ _)); (fail_if_success (with_reducible show wpAny _ _ (exec (Stmt.While _ _ _ _) _) _ _ _)); first | walk1 | (dsimp only; walk1)) | fail "no step"))
local macro_rules | `(tactic| k_all) => `(tactic| assumption)
local macro_rules | `(tactic| size_fits) => `(tactic| assumption)
local macro_rules | `(tactic| walk_at "mine_same") => `(tactic| (intro z h1 h2 h3; (simp only [List.forall_mem_cons, List.not_mem_nil, false_implies, implies_true, and_true, ne_eq] at h2); (simp only [List.contains_cons, List.contains_nil, Bool.or_false, Bool.or_eq_false_iff, beq_eq_false_iff_ne, ne_eq] at h3); first | rfl | (simp [h1, h2, h3]; done) | (simp [kstB, h1, h2, h3]; done)))
local macro_rules | `(tactic| walk_at "mine_dec") => `(tactic| first | (with_reducible assumption) | ((simp only [decide_eq_true_eq, decide_eq_false_iff_not, Bool.not_eq_true, ne_eq, beq_iff_eq, beq_eq_false_iff_ne, bne_iff_ne]); lia) | lia)
local macro_rules | `(tactic| walk_at "ite") => `(tactic| (k_here; first | (refine ite_neg (by walk_at "mine_dec") ?_) | (refine ite_pos (by walk_at "mine_dec") ?_)))
local macro_rules | `(tactic| walk_at "mine_same2") => `(tactic| (intro z h2 h3; (simp only [List.forall_mem_cons, List.not_mem_nil, false_implies, implies_true, and_true, ne_eq] at h2); (simp only [List.contains_cons, List.contains_nil, Bool.or_false, Bool.or_eq_false_iff, beq_eq_false_iff_ne, ne_eq] at h3); first | rfl | (simp [h2, h3]; done) | (simp [kstB, h2, h3]; done)))
local macro_rules | `(tactic| walk_at "exec For") => `(tactic| (k_here; (with_reducible show wpAny _ _ (exec (Stmt.For (Expr.Name _ _) _ _ [] _) _) _ _ _); (rename Fr _ _ _ _ => lF'); (with_unfolding_all refine' For_invVF lF' ?k1 ?k2 ?_; (case k1 => exact rfl); (case k2 => exact rfl); k_whole)))
local macro_rules | `(tactic| walk_at "mine_to_for") => `(tactic| repeat' (first | ((fail_if_success (with_reducible show wpAny _ _ (exec (Stmt.For _ _ _ _ _) _) _ _ _)); (fail_if_success (with_reducible show wpAny _ _ (pyIter _) _ _ _)); (fail_if_success (with_reducible show wpAny _ _ (binaryOp Operator.Pow _ _) _ _ _)); first | walk1 | (dsimp only; walk1)) | fail "no step"))
local macro_rules | `(tactic| walk_at "mine_to_tup") => `(tactic| repeat' (first | ((fail_if_success (with_reducible show wpAny _ _ (subscriptTail (Expr.Tuple _ _ _) _ _ _) _ _ _)); first | walk1 | (dsimp only; walk1)) | fail "no step"))
local macro_rules | `(tactic| walk_at "mine_stepsA") => `(tactic| repeat' (first | (k_unfold; (try dsimp only)) | ((fail_if_success (with_reducible show wpAny _ _ (pyIter _) _ _ _)); (fail_if_success (with_reducible show wpAny _ _ (call (Value.builtin "list.append") _ _) _ _ _)); (fail_if_success (with_reducible show wpAny _ _ (call (Value.ref 143) _ _) _ _ _)); (fail_if_success (with_reducible show wpAny _ _ (call (Value.ref 150) _ _) _ _ _)); (fail_if_success (with_reducible show wpAny _ _ (call (Value.builtin "sorted") _ _) _ _ _)); (fail_if_success (with_reducible show wpAny _ _ (compareOp CmpOp.Eq (Value.ref _) (Value.ref _)) _ _ _)); (fail_if_success (with_reducible show wpAny _ _ (exec (Stmt.For _ _ _ _ _) _) _ _ _)); first | walk1 | (dsimp only; walk1)) | fail "no step"))
local macro_rules | `(tactic| walk_at "call ref") => `(tactic| (k_here; (with_reducible show wpAny _ _ (call (Value.ref 104) [Value.int _ _] _) _ _ _); k_dflt (refine' Con.use (spec_b64_value _ _) ?k1 ?k2 ?k3 ?k4 ?k5 ?kK ?kd ?ku ?_; walk_at "mine_use"); intro v9 n9 h9 tk9 r9 F9 N9; obtain ⟨⟨t9, e1⟩, e2⟩ := r9; subst e1; (replace e2 := Eq.symm e2); subst e2; (try dsimp only)))
local macro_rules | `(tactic| walk_at "call ref") => `(tactic| (k_here; (with_reducible show wpAny _ _ (call (Value.ref 97) [Value.bool _] _) _ _ _); k_dflt (refine' Con.use (spec_truth _) ?k1 ?k2 ?k3 ?k4 ?k5 ?kK ?kd ?ku ?_; walk_at "mine_use"); intro v9 n9 h9 tk9 r9 F9 N9; obtain ⟨e1, e2⟩ := r9; subst e1; (replace e2 := Eq.symm e2); subst e2; (try dsimp only)))
local macro_rules | `(tactic| walk_at "call ref") => `(tactic| (k_here; (with_reducible show wpAny _ _ (call (Value.ref 83) [Value.bytes _ _] _) _ _ _); k_dflt (refine' Con.use (spec_ascii _ _) ?k1 ?k2 ?k3 ?k4 ?k5 ?kK ?kd ?ku ?_; walk_at "mine_use"); intro v9 n9 h9 tk9 r9 F9 N9; obtain ⟨e1, e2⟩ := r9; subst e1; (replace e2 := Eq.symm e2); subst e2; (try dsimp only)))
structure DS where
  q : Int
  l : Int
  i : Int
  tq : Tok
  tl : Tok
  tp : Tok
  ti : Tok
  vs : List Value
  out : List Int
  n : Nat
theorem ownNe {news own : List (Addr × Obj)} {l : Addr} {o : Obj} (h1 : ∀ p ∈ news, p.1 < l) (off : OwnOff own (((l, o) :: news).map (·.1))) : ∀ p ∈ news ++ own, p.1 ≠ l := by
  intro p hp
  rcases List.mem_append.mp hp with h | h
  · exact Nat.ne_of_lt (h1 p h)
  · exact off p h l (by simp)
theorem spec_a2b (b : Array UInt8) (t : Tok) (h61 : ∀ c ∈ KBw.bInts b, c ≠ 61) (hsz : b.size ≤ 1000000) (hq : (dec (KBw.bInts b)).2.1 = 0) :
    Con w mean mg mb 112 [.bytes b t] [(Str.ofString "strict_mode", .bool false)] 3 40 news (fun v n => (∃ t, v = .bytes (byteArr (dec (KBw.bInts b)).1) t) ∧ n = news) := by
  unfold Con; k_fill; intro dp un gd cn cs a ccd cl outer A₀ base h₀ L m s Q E B F X N T hk hd hu ret
  refine wpAny_call ?_
  k_dflt (refine' code_def (binds := [(Str.ofString "data", .bytes b t), (Str.ofString "strict_mode", .bool false)]) ?k1 ?k2 ?k3 ?k4 ?k5 ?kA ?kF ?kK ?k6 ?k7 ?k8 ?k9 ?kB ?_ ?c2 ?c3 ?c4 ?c5; walk_at "mine_start")
  intro g L' h' FG F' N' B' X' T'
  try dsimp only
  try k_fold
  walk_at "mine_steps"
  rename News _ _ _ _ => N1
  rename Fr _ _ _ _ => F1
  rename (∀ p ∈ news, p.1 < _) => hlt
  refine KStb.kst_bytes (σ := DS) (fun c => (_, W.listOf c.vs.toArray c.n) :: news)
    (fun c => [(Str.ofString "quad_pos", .int c.q c.tq), (Str.ofString "leftchar", .int c.l c.tl), (Str.ofString "pads", .int 0 c.tp), (Str.ofString "i", .int c.i c.ti)])
    (fun c => IntsAre c.vs c.out) [Str.ofString "this_ch"] (fun pre c => (c.out, c.q, c.l) = dec pre) ⟨0, 0, 0, ?t1, ?t2, ?t3, ?t4, [], [], 0⟩ rfl rfl rfl F1 N1 ?hf ?hk ?hp ?turn ?done
  case hk => kst_all
  case hf => exact .nil
  case hp => rfl
  case turn =>
    intro c pre post n t u h tk own e1 e2 e3 e4 off hf hp F2 N2
    have hn : n ≠ 61 := h61 n (by rw [e1]; simp)
    have hok := dec_ok pre
    rw [← hp] at hok
    obtain ⟨ok1, ok2, ok3⟩ := hok
    dsimp only at ok1 ok2 ok3
    have hl0 : 0 ≤ c.l ∧ c.l < 64 := by lia
    obtain ⟨hl0, hl1⟩ := hl0
    have hv0 := (b64v_range n).1
    have hv1 := (b64v_range n).2
    have hne := ownNe hlt off
    have hlen : (KBw.bInts b).length = b.size := KBw.ints_length b
    have hsz9 : c.vs.toArray.size ≤ sizeLine := by
      rw [List.size_toArray, hf.length]
      rw [sizeLine_eq]
      lia
    try k_fold
    clear F1 N1
    dsimp only [List.cons_append] at N2
    dsimp only [kstB] at F2
    walk_at "mine_steps"
    all_goals (first | (exfalso; lia) | skip)
    all_goals (rename News _ _ _ _ => nE; (try simp only [List.push_toArray] at nE); refine kst_end ⟨_, _, _, _, _, _, _, _, _, _⟩ (by assumption) nE (by kst_in) (by intro p hp; kst_mem) (by rfl) (by kst_facts) (by kst_all) (by walk_at "mine_same") ?_; rw [dec_snoc, ← hp]; unfold dstep; dsimp only)
    all_goals (first
      | (rw [if_pos (by lia)]; done)
      | (rw [if_neg (by lia), if_pos (by lia)]; done)
      | (rw [if_neg (by lia), if_neg (by lia), if_pos (by lia), bits1 (by lia) (by lia) (by lia) (by lia), bitAnd_m4]; done)
      | (rw [if_neg (by lia), if_neg (by lia), if_neg (by lia), if_pos (by lia), bits2 (by lia) (by lia) (by lia) (by lia) (by lia), bitAnd_m2]; done)
      | (rw [if_neg (by lia), if_neg (by lia), if_neg (by lia), if_neg (by lia), bits3 (by lia) (by lia) (by lia) (by lia) (by lia)]; done))
  case done =>
    intro c u h tk hlen hf hp F2 N2
    have hok := dec_ok (KBw.bInts b)
    rw [← hp] at hok
    obtain ⟨ok1, ok2, ok3⟩ := hok
    dsimp only at ok1 ok2 ok3
    have hq0 : c.q = 0 := by rw [← hp] at hq; exact hq
    have hsz9 : c.out.length ≤ 16777216 := by
      have := KBw.ints_length b
      lia
    try k_fold
    clear F1 N1
    dsimp only [kstB] at F2
    walk_at "mine_steps"
    all_goals exact ret _ _ _ _ ⟨⟨_, by rw [← hp]⟩, rfl⟩ (by k_asm) (fun p hp => by rename News _ _ _ _ => nE; exact nE p (List.Mem.tail _ hp))
end
section
variable {w : World} {mean : ExcName → Option Value} {mg mb : Str → Option Value} {news : List (Addr × Obj)}
local macro_rules | `(tactic| walk_at "mine_none") => `(tactic| skip)
theorem anew_c3 : True := by
  w_top off
  trivial
local macro_rules | `(tactic| walk_at "call type:type") => `(tactic| ((with_reducible show wpAny _ _ (call _ [Value.bytes _ _]) _ _ _); refine call_type_of (Tx := "bytes") rfl (by decide +kernel) ?_))
local macro_rules | `(tactic| walk_at "getMethod str") => `(tactic| with_reducible refine gm_encode ?_)
local macro_rules | `(tactic| walk_at "getMethod bytes") => `(tactic| with_reducible refine gm_translate ?_)
local macro_rules | `(tactic| walk_at "call builtin:str.encode") => `(tactic| (refine encode_ascii (by assumption) (by first | assumption | lia) ?_; intro t9 k9))
local macro_rules | `(tactic| walk_at "getMethod type:bytes") => `(tactic| (k_here; refine' method_type ?F ?X ?m (by decide +kernel) ?e ?h ?_; (case F => k_asm); (case X => k_asm); (case m => kernel_rfl); (case e => k_dflt k_is); (case h => k_handed)))
local macro_rules | `(tactic| walk_at "call builtin:bytes.maketrans") => `(tactic| (refine maketrans_bytes (by rfl) ?_; intro t9 k9; (try dsimp only)))
local macro_rules | `(tactic| walk_at "call builtin:bytes.translate") => `(tactic| (refine translate_bytes (mkTab_size _ _) (by assumption) ?_; intro t9 k9; (try dsimp only)))
local macro_rules | `(tactic| walk_at "mine_start") => `(tactic| ((case kA => exact rfl); (case kF => exact rfl); (case kK => assumption); (case k1 => k_asm); (case k2 => k_asm); (case k3 => k_asm); (case k4 => k_asm); (case k5 => k_asm); (case k6 => k_is); (case k7 => k_is); (case k8 => ktr_room); (case k9 => first | exact BindsTo.of_eq rfl | exact binds_K (by k_in) rfl (by k_is) rfl rfl rfl); (case c5 => decide); (case kB => exact locs rfl); (case c2 => exact rfl); (case c3 => exact rfl); (case c4 => exact rfl); k_whole))
local macro_rules | `(tactic| walk_at "mine_use") => `(tactic| ((case k1 => k_asm); (case k2 => k_asm); (case k3 => k_asm); (case k4 => k_asm); (case k5 => k_asm); (case kK => first | exact rfl | assumption); (case kd => ktr_room); (case ku => ktr_units)))
local macro_rules | `(tactic| walk_at "mine_steps") => `(tactic| repeat' (first | (k_unfold; (try dsimp only)) | ((fail_if_success (with_reducible show wpAny _ _ (pyIter _) _ _ _)); (fail_if_success (with_reducible show InvEndN _ _ _ _ _ _ _)); (fail_if_success (with_reducible show KswEnd _ _ _ _ _ _ _ _ _ _ _ _)); (fail_if_success (with_reducible show wpAny _ _ (exec (Stmt.While _ _ _ _) _) _ _ _)); first | walk1 | (dsimp only; walk1)) | fail "no step"))
local macro_rules | `(tactic| k_all) => `(tactic| assumption)
local macro_rules | `(tactic| size_fits) => `(tactic| assumption)
local macro_rules | `(tactic| walk_at "mine_same") => `(tactic| (intro z h1 h2 h3; (simp only [List.forall_mem_cons, List.not_mem_nil, false_implies, implies_true, and_true, ne_eq] at h2); (simp only [List.contains_cons, List.contains_nil, Bool.or_false, Bool.or_eq_false_iff, beq_eq_false_iff_ne, ne_eq] at h3); first | rfl | (simp [h1, h2, h3]; done) | (simp [kstB, h1, h2, h3]; done)))
local macro_rules | `(tactic| walk_at "mine_dec") => `(tactic| first | (with_reducible assumption) | ((simp only [decide_eq_true_eq, decide_eq_false_iff_not, Bool.not_eq_true, ne_eq, beq_iff_eq, beq_eq_false_iff_ne, bne_iff_ne]); lia) | lia)
local macro_rules | `(tactic| walk_at "ite") => `(tactic| (k_here; first | (refine ite_neg (by walk_at "mine_dec") ?_) | (refine ite_pos (by walk_at "mine_dec") ?_)))
local macro_rules | `(tactic| walk_at "mine_same2") => `(tactic| (intro z h2 h3; (simp only [List.forall_mem_cons, List.not_mem_nil, false_implies, implies_true, and_true, ne_eq] at h2); (simp only [List.contains_cons, List.contains_nil, Bool.or_false, Bool.or_eq_false_iff, beq_eq_false_iff_ne, ne_eq] at h3); first | rfl | (simp [h2, h3]; done) | (simp [kstB, h2, h3]; done)))
local macro_rules | `(tactic| walk_at "exec For") => `(tactic| (k_here; (with_reducible show wpAny _ _ (exec (Stmt.For (Expr.Name _ _) _ _ [] _) _) _ _ _); (rename Fr _ _ _ _ => lF'); (with_unfolding_all refine' For_invVF lF' ?k1 ?k2 ?_; (case k1 => exact rfl); (case k2 => exact rfl); k_whole)))
local macro_rules | `(tactic| walk_at "mine_to_for") => `(tactic| repeat' (first | ((fail_if_success (with_reducible show wpAny _ _ (exec (Stmt.For _ _ _ _ _) _) _ _ _)); (fail_if_success (with_reducible show wpAny _ _ (pyIter _) _ _ _)); (fail_if_success (with_reducible show wpAny _ _ (binaryOp Operator.Pow _ _) _ _ _)); first | walk1 | (dsimp only; walk1)) | fail "no step"))
local macro_rules | `(tactic| walk_at "mine_to_tup") => `(tactic| repeat' (first | ((fail_if_success (with_reducible show wpAny _ _ (subscriptTail (Expr.Tuple _ _ _) _ _ _) _ _ _)); first | walk1 | (dsimp only; walk1)) | fail "no step"))
local macro_rules | `(tactic| walk_at "mine_stepsA") => `(tactic| repeat' (first | (k_unfold; (try dsimp only)) | ((fail_if_success (with_reducible show wpAny _ _ (pyIter _) _ _ _)); (fail_if_success (with_reducible show wpAny _ _ (call (Value.builtin "list.append") _ _) _ _ _)); (fail_if_success (with_reducible show wpAny _ _ (call (Value.ref 143) _ _) _ _ _)); (fail_if_success (with_reducible show wpAny _ _ (call (Value.ref 150) _ _) _ _ _)); (fail_if_success (with_reducible show wpAny _ _ (call (Value.builtin "sorted") _ _) _ _ _)); (fail_if_success (with_reducible show wpAny _ _ (compareOp CmpOp.Eq (Value.ref _) (Value.ref _)) _ _ _)); (fail_if_success (with_reducible show wpAny _ _ (exec (Stmt.For _ _ _ _ _) _) _ _ _)); first | walk1 | (dsimp only; walk1)) | fail "no step"))
local macro_rules | `(tactic| walk_at "call ref") => `(tactic| (k_here; (with_reducible show wpAny _ _ (call (Value.ref 63) [Value.bytes _ _] _) _ _ _); k_dflt (refine' Con.use (spec_bytes_from _ _) ?k1 ?k2 ?k3 ?k4 ?k5 ?kK ?kd ?ku ?_; walk_at "mine_use"); intro v9 n9 h9 tk9 r9 F9 N9; obtain ⟨e1, e2⟩ := r9; subst e1; (replace e2 := Eq.symm e2); subst e2; (try dsimp only)))
local macro_rules | `(tactic| walk_at "call ref") => `(tactic| (k_here; (with_reducible show wpAny _ _ (call (Value.ref 63) [Value.str _ _] _) _ _ _); k_dflt (refine' Con.use (spec_bytes_from_str _ _ (by assumption) (by first | assumption | lia)) ?k1 ?k2 ?k3 ?k4 ?k5 ?kK ?kd ?ku ?_; walk_at "mine_use"); intro v9 n9 h9 tk9 r9 F9 N9; obtain ⟨⟨t9, e1⟩, e2⟩ := r9; subst e1; (replace e2 := Eq.symm e2); subst e2; (try dsimp only)))
local macro_rules | `(tactic| walk_at "call ref") => `(tactic| (k_here; (with_reducible show wpAny _ _ (call (Value.ref 112) [Value.bytes _ _] _) _ _ _); k_dflt (refine' Con.use (spec_a2b _ _ (by assumption) (by assumption) (by assumption)) ?k1 ?k2 ?k3 ?k4 ?k5 ?kK ?kd ?ku ?_; walk_at "mine_use"); intro v9 n9 h9 tk9 r9 F9 N9; obtain ⟨⟨t9, e1⟩, e2⟩ := r9; subst e1; (replace e2 := Eq.symm e2); subst e2; (try dsimp only)))
/-- the octets that the decoder sees -/
noncomputable def seen (x : Str) : Array UInt8 := transl (mkTab #[46, 10] #[43, 47]) (asBytes x)
theorem spec_b64decode (x : Str) (t u : Tok) (hx : ∀ c ∈ x.cps.toList, c < 128) (hsz : x.length ≤ 1000000) (h61 : ∀ c ∈ KBw.bInts (seen x), c ≠ 61) (hq : (dec (KBw.bInts (seen x))).2.1 = 0) :
    Con w mean mg mb 136 [.str x t, .bytes #[46, 10] u] [] 6 80 news (fun v n => (∃ t, v = .bytes (byteArr (dec (KBw.bInts (seen x))).1) t) ∧ n = news) := by
  have hsz2 : (asBytes x).size ≤ 1000000 := by simpa [asBytes, Str.length] using hsz
  have hsz3 : (transl (mkTab #[46, 10] #[43, 47]) (asBytes x)).size ≤ 1000000 := by simpa [transl] using hsz2
  unfold seen at h61 hq
  unfold Con; k_fill; intro dp un gd cn cs a ccd cl outer A₀ base h₀ L m s Q E B F X N T hk hd hu ret
  refine wpAny_call ?_
  k_dflt (refine' code_def (binds := [(Str.ofString "s", .str x t), (Str.ofString "altchars", .bytes #[46, 10] u), (Str.ofString "validate", .bool false)]) ?k1 ?k2 ?k3 ?k4 ?k5 ?kA ?kF ?kK ?k6 ?k7 ?k8 ?k9 ?kB ?_ ?c2 ?c3 ?c4 ?c5; walk_at "mine_start")
  intro g L' h' FG F' N' B' X' T'
  try dsimp only
  try k_fold
  walk_at "mine_steps"
  all_goals exact ret _ _ _ _ ⟨⟨_, rfl⟩, rfl⟩ (by k_asm) (by k_asm)
end
section
variable {w : World} {mean : ExcName → Option Value} {mg mb : Str → Option Value} {news : List (Addr × Obj)}
local macro_rules | `(tactic| walk_at "mine_none") => `(tactic| skip)
theorem anew_c4 : True := by
  w_top off
  trivial
local macro_rules | `(tactic| walk_at "call type:type") => `(tactic| ((with_reducible show wpAny _ _ (call _ [Value.bytes _ _]) _ _ _); refine call_type_of (Tx := "bytes") rfl (by decide +kernel) ?_))
local macro_rules | `(tactic| walk_at "getMethod str") => `(tactic| with_reducible refine gm_encode ?_)
local macro_rules | `(tactic| walk_at "getMethod bytes") => `(tactic| with_reducible refine gm_translate ?_)
local macro_rules | `(tactic| walk_at "call builtin:str.encode") => `(tactic| (refine encode_ascii (by assumption) (by first | assumption | lia) ?_; intro t9 k9))
local macro_rules | `(tactic| walk_at "getMethod type:bytes") => `(tactic| (k_here; refine' method_type ?F ?X ?m (by decide +kernel) ?e ?h ?_; (case F => k_asm); (case X => k_asm); (case m => kernel_rfl); (case e => k_dflt k_is); (case h => k_handed)))
local macro_rules | `(tactic| walk_at "call builtin:bytes.maketrans") => `(tactic| (refine maketrans_bytes (by rfl) ?_; intro t9 k9; (try dsimp only)))
local macro_rules | `(tactic| walk_at "call builtin:bytes.translate") => `(tactic| (refine translate_bytes (mkTab_size _ _) (by assumption) ?_; intro t9 k9; (try dsimp only)))
local macro_rules | `(tactic| walk_at "mine_start") => `(tactic| ((case kA => exact rfl); (case kF => exact rfl); (case kK => assumption); (case k1 => k_asm); (case k2 => k_asm); (case k3 => k_asm); (case k4 => k_asm); (case k5 => k_asm); (case k6 => k_is); (case k7 => k_is); (case k8 => ktr_room); (case k9 => first | exact BindsTo.of_eq rfl | exact binds_K (by k_in) rfl (by k_is) rfl rfl rfl); (case c5 => decide); (case kB => exact locs rfl); (case c2 => exact rfl); (case c3 => exact rfl); (case c4 => exact rfl); k_whole))
local macro_rules | `(tactic| walk_at "mine_use") => `(tactic| ((case k1 => k_asm); (case k2 => k_asm); (case k3 => k_asm); (case k4 => k_asm); (case k5 => k_asm); (case kK => first | exact rfl | assumption); (case kd => ktr_room); (case ku => ktr_units)))
local macro_rules | `(tactic| walk_at "mine_steps") => `(tactic| repeat' (first | (k_unfold; (try dsimp only)) | ((fail_if_success (with_reducible show wpAny _ _ (pyIter _) _ _ _)); (fail_if_success (with_reducible show InvEndN _ _ _ _ _ _ _)); (fail_if_success (with_reducible show KswEnd _ _ _ _ _ _ _ _ _ _ _ _)); (fail_if_success (with_reducible show wpAny _ _ (exec (Stmt.While _ _ _ _) _) _ _ _)); first | walk1 | (dsimp only; walk1)) | fail "no step"))
local macro_rules | `(tactic| k_all) => `(tactic| assumption)
local macro_rules | `(tactic| size_fits) => `(tactic| assumption)
local macro_rules | `(tactic| walk_at "mine_same") => `(tactic| (intro z h1 h2 h3; (simp only [List.forall_mem_cons, List.not_mem_nil, false_implies, implies_true, and_true, ne_eq] at h2); (simp only [List.contains_cons, List.contains_nil, Bool.or_false, Bool.or_eq_false_iff, beq_eq_false_iff_ne, ne_eq] at h3); first | rfl | (simp [h1, h2, h3]; done) | (simp [kstB, h1, h2, h3]; done)))
local macro_rules | `(tactic| walk_at "mine_dec") => `(tactic| first | (with_reducible assumption) | ((simp only [decide_eq_true_eq, decide_eq_false_iff_not, Bool.not_eq_true, ne_eq, beq_iff_eq, beq_eq_false_iff_ne, bne_iff_ne]); lia) | lia)
local macro_rules | `(tactic| walk_at "ite") => `(tactic| (k_here; first | (refine ite_neg (by walk_at "mine_dec") ?_) | (refine ite_pos (by walk_at "mine_dec") ?_)))
local macro_rules | `(tactic| walk_at "mine_same2") => `(tactic| (intro z h2 h3; (simp only [List.forall_mem_cons, List.not_mem_nil, false_implies, implies_true, and_true, ne_eq] at h2); (simp only [List.contains_cons, List.contains_nil, Bool.or_false, Bool.or_eq_false_iff, beq_eq_false_iff_ne, ne_eq] at h3); first | rfl | (simp [h2, h3]; done) | (simp [kstB, h2, h3]; done)))
local macro_rules | `(tactic| walk_at "exec For") => `(tactic| (k_here; (with_reducible show wpAny _ _ (exec (Stmt.For (Expr.Name _ _) _ _ [] _) _) _ _ _); (rename Fr _ _ _ _ => lF'); (with_unfolding_all refine' For_invVF lF' ?k1 ?k2 ?_; (case k1 => exact rfl); (case k2 => exact rfl); k_whole)))
local macro_rules | `(tactic| walk_at "mine_to_for") => `(tactic| repeat' (first | ((fail_if_success (with_reducible show wpAny _ _ (exec (Stmt.For _ _ _ _ _) _) _ _ _)); (fail_if_success (with_reducible show wpAny _ _ (pyIter _) _ _ _)); (fail_if_success (with_reducible show wpAny _ _ (binaryOp Operator.Pow _ _) _ _ _)); first | walk1 | (dsimp only; walk1)) | fail "no step"))
local macro_rules | `(tactic| walk_at "mine_to_tup") => `(tactic| repeat' (first | ((fail_if_success (with_reducible show wpAny _ _ (subscriptTail (Expr.Tuple _ _ _) _ _ _) _ _ _)); first | walk1 | (dsimp only; walk1)) | fail "no step"))
local macro_rules | `(tactic| walk_at "mine_stepsA") => `(tactic| repeat' (first | (k_unfold; (try dsimp only)) | ((fail_if_success (with_reducible show wpAny _ _ (pyIter _) _ _ _)); (fail_if_success (with_reducible show wpAny _ _ (call (Value.builtin "list.append") _ _) _ _ _)); (fail_if_success (with_reducible show wpAny _ _ (call (Value.ref 143) _ _) _ _ _)); (fail_if_success (with_reducible show wpAny _ _ (call (Value.ref 150) _ _) _ _ _)); (fail_if_success (with_reducible show wpAny _ _ (call (Value.builtin "sorted") _ _) _ _ _)); (fail_if_success (with_reducible show wpAny _ _ (compareOp CmpOp.Eq (Value.ref _) (Value.ref _)) _ _ _)); (fail_if_success (with_reducible show wpAny _ _ (exec (Stmt.For _ _ _ _ _) _) _ _ _)); first | walk1 | (dsimp only; walk1)) | fail "no step"))
local macro_rules | `(tactic| walk_at "call ref") => `(tactic| (k_here; (with_reducible show wpAny _ _ (call (Value.ref 97) [Value.bool _] _) _ _ _); k_dflt (refine' Con.use (spec_truth _) ?k1 ?k2 ?k3 ?k4 ?k5 ?kK ?kd ?ku ?_; walk_at "mine_use"); intro v9 n9 h9 tk9 r9 F9 N9; obtain ⟨e1, e2⟩ := r9; subst e1; (replace e2 := Eq.symm e2); subst e2; (try dsimp only)))
local macro_rules | `(tactic| walk_at "call ref") => `(tactic| (k_here; (with_reducible show wpAny _ _ (call (Value.ref 90) [Value.bytes _ _] _) _ _ _); k_dflt (refine' Con.use (spec_buffer _ _) ?k1 ?k2 ?k3 ?k4 ?k5 ?kK ?kd ?ku ?_; walk_at "mine_use"); intro v9 n9 h9 tk9 r9 F9 N9; obtain ⟨e1, e2⟩ := r9; subst e1; (replace e2 := Eq.symm e2); subst e2; (try dsimp only)))
local macro_rules | `(tactic| walk_at "mine_wsteps") => `(tactic| repeat' (first | (k_unfold; (try dsimp only)) | ((fail_if_success (with_reducible show wpAny _ _ (pyIter _) _ _ _)); (fail_if_success (with_reducible show InvEndN _ _ _ _ _ _ _)); first | walk1 | (dsimp only; walk1)) | fail "no step"))
local macro_rules | `(tactic| walk_at "subscriptTail") => `(tactic| (k_here; (with_reducible show wpAny _ _ (subscriptTail _ _ (Value.bytes _ _) (Value.int _ _)) _ _ _); (refine KBw.item_K (ks := KBw.bInts abc) (by rfl) (by decide +kernel) (by rw [bitAnd_m6]; lia) (by rw [bitAnd_m6]; (show _ < (64:Int)); lia) ?_); intro t9 k9 lo9 hi9))
structure ES where
  lb : Int
  lc : Int
  tb : Tok
  tc : Tok
  vs : List Value
  out : List Int
  n : Nat
theorem fd0 (x : Int) : x.fdiv (2 ^ (0 + 8 - 6 : Int).toNat) = x / 4 := Int.fdiv_eq_ediv_of_nonneg _ (by decide)
theorem fd2 (x : Int) : x.fdiv (2 ^ (2 + 8 - 6 : Int).toNat) = x / 16 := Int.fdiv_eq_ediv_of_nonneg _ (by decide)
theorem fd4 (x : Int) : x.fdiv (2 ^ (4 + 8 - 6 : Int).toNat) = x / 64 := Int.fdiv_eq_ediv_of_nonneg _ (by decide)
theorem fd5 (x : Int) : x.fdiv (2 ^ (4 + 8 - 6 - 6 : Int).toNat) = x := by
  have : (2 ^ (4 + 8 - 6 - 6 : Int).toNat : Int) = 1 := by decide
  rw [this]; simp
theorem spec_b2a (b : Array UInt8) (t : Tok) (hsz : b.size ≤ 1000000) (hq : (enc (KBw.bInts b)).2.1 = 0) :
    Con w mean mg mb 120 [.bytes b t] [(Str.ofString "newline", .bool false)] 3 40 news (fun v n => (∃ t, v = .bytes (byteArr (enc (KBw.bInts b)).1) t) ∧ n = news) := by
  unfold Con; k_fill; intro dp un gd cn cs a ccd cl outer A₀ base h₀ L m s Q E B F X N T hk hd hu ret
  refine wpAny_call ?_
  k_dflt (refine' code_def (binds := [(Str.ofString "data", .bytes b t), (Str.ofString "newline", .bool false)]) ?k1 ?k2 ?k3 ?k4 ?k5 ?kA ?kF ?kK ?k6 ?k7 ?k8 ?k9 ?kB ?_ ?c2 ?c3 ?c4 ?c5; walk_at "mine_start")
  intro g L' h' FG F' N' B' X' T'
  try dsimp only
  try k_fold
  walk_at "mine_steps"
  rename News _ _ _ _ => N1
  rename Fr _ _ _ _ => F1
  rename (∀ p ∈ news, p.1 < _) => hlt
  refine KStb.kst_bytes (σ := ES) (fun c => (_, W.listOf c.vs.toArray c.n) :: news)
    (fun c => [(Str.ofString "leftbits", .int c.lb c.tb), (Str.ofString "leftchar", .int c.lc c.tc)])
    (fun c => IntsAre c.vs c.out) [] (fun pre c => (c.out, c.lb, c.lc) = enc pre) ⟨0, 0, ?t1, ?t2, [], [], 0⟩ rfl rfl rfl F1 N1 ?hf ?hk ?hp ?turn ?done
  case hk => kst_all
  case hf => exact .nil
  case hp => rfl
  case turn =>
    intro c pre post n t u h tk own e1 e2 e3 e4 off hf hp F2 N2
    have hok := enc_ok pre
    rw [← hp] at hok
    obtain ⟨hol, ok2, hlb, hc0, hc1⟩ := hok
    dsimp only at hol ok2 hlb hc0 hc1
    have hne := ownNe hlt off
    have hlen : (KBw.bInts b).length = b.size := KBw.ints_length b
    have hsz9 : c.vs.toArray.size + 1 ≤ sizeLine := by
      rw [List.size_toArray, hf.length]
      rw [sizeLine_eq]
      lia
    have hsz8 : c.vs.toArray.size ≤ sizeLine := by lia
    have hsz7 : ∀ x, (c.vs.toArray.push x).size ≤ sizeLine := by intro x; rw [Array.size_push]; exact hsz9
    try k_fold
    clear F1 N1
    dsimp only [List.cons_append] at N2
    dsimp only [kstB] at F2
    obtain ⟨lb, lc, tb, tc, vs, out, nn⟩ := c
    dsimp only at *
    have hbits := bits8 (l := lc) (v := n) hc0 e3 e4
    rcases hlb with e | e | e <;> subst e
    all_goals walk_at "mine_wsteps"
    all_goals (rename News _ _ _ _ => nE; (try simp only [List.push_toArray] at nE); refine kst_end ⟨_, _, _, _, _, _, _⟩ (by assumption) nE (by kst_in) (by intro p hp; kst_mem) (by rfl) (by kst_facts) (by kst_all) (by walk_at "mine_same") ?_; rw [enc_snoc, ← hp]; unfold estep; dsimp only)
    all_goals (simp only [hbits, bitAnd_m6, bitAnd_m16])
    · rw [if_pos trivial, fd0]; rfl
    · rw [if_neg (by decide), if_pos trivial, fd2]; rfl
    · rw [if_neg (by decide), if_neg (by decide), fd4, fd5]; rfl
  case done =>
    intro c u h tk hlen hf hp F2 N2
    have hok := enc_ok (KBw.bInts b)
    rw [← hp] at hok
    obtain ⟨ok1, ok2, ok3⟩ := hok
    dsimp only at ok1 ok2 ok3
    have hq0 : c.lb = 0 := by rw [← hp] at hq; exact hq
    have hsz9 : c.out.length ≤ 16777216 := by
      have := KBw.ints_length b
      lia
    try k_fold
    clear F1 N1
    dsimp only [kstB] at F2
    rw [hq0] at F2
    walk_at "mine_steps"
    all_goals exact ret _ _ _ _ ⟨⟨_, by rw [← hp]⟩, rfl⟩ (by k_asm) (fun p hp => by rename News _ _ _ _ => nE; exact nE p (List.Mem.tail _ hp))
end
section
variable {w : World} {mean : ExcName → Option Value} {mg mb : Str → Option Value} {news : List (Addr × Obj)}
theorem anew_c5 : True := by
  w_top off
  trivial
local macro_rules | `(tactic| walk_at "call type:type") => `(tactic| ((with_reducible show wpAny _ _ (call _ [Value.bytes _ _]) _ _ _); refine call_type_of (Tx := "bytes") rfl (by decide +kernel) ?_))
local macro_rules | `(tactic| walk_at "getMethod str") => `(tactic| with_reducible refine gm_encode ?_)
local macro_rules | `(tactic| walk_at "getMethod bytes") => `(tactic| with_reducible refine gm_translate ?_)
local macro_rules | `(tactic| walk_at "call builtin:str.encode") => `(tactic| (refine encode_ascii (by assumption) (by first | assumption | lia) ?_; intro t9 k9))
local macro_rules | `(tactic| walk_at "getMethod type:bytes") => `(tactic| (k_here; refine' method_type ?F ?X ?m (by decide +kernel) ?e ?h ?_; (case F => k_asm); (case X => k_asm); (case m => kernel_rfl); (case e => k_dflt k_is); (case h => k_handed)))
local macro_rules | `(tactic| walk_at "call builtin:bytes.maketrans") => `(tactic| (refine maketrans_bytes (by rfl) ?_; intro t9 k9; (try dsimp only)))
local macro_rules | `(tactic| walk_at "call builtin:bytes.translate") => `(tactic| (refine translate_bytes (mkTab_size _ _) (by assumption) ?_; intro t9 k9; (try dsimp only)))
local macro_rules | `(tactic| walk_at "mine_start") => `(tactic| ((case kA => exact rfl); (case kF => exact rfl); (case kK => assumption); (case k1 => k_asm); (case k2 => k_asm); (case k3 => k_asm); (case k4 => k_asm); (case k5 => k_asm); (case k6 => k_is); (case k7 => k_is); (case k8 => ktr_room); (case k9 => first | exact BindsTo.of_eq rfl | exact binds_K (by k_in) rfl (by k_is) rfl rfl rfl); (case c5 => decide); (case kB => exact locs rfl); (case c2 => exact rfl); (case c3 => exact rfl); (case c4 => exact rfl); k_whole))
local macro_rules | `(tactic| walk_at "mine_use") => `(tactic| ((case k1 => k_asm); (case k2 => k_asm); (case k3 => k_asm); (case k4 => k_asm); (case k5 => k_asm); (case kK => first | exact rfl | assumption); (case kd => ktr_room); (case ku => ktr_units)))
local macro_rules | `(tactic| walk_at "mine_steps") => `(tactic| repeat' (first | (k_unfold; (try dsimp only)) | ((fail_if_success (with_reducible show wpAny _ _ (pyIter _) _ _ _)); (fail_if_success (with_reducible show InvEndN _ _ _ _ _ _ _)); (fail_if_success (with_reducible show KswEnd _ _ _ _ _ _ _ _ _ _ _ _)); (fail_if_success (with_reducible show wpAny _ _ (exec (Stmt.While _ _ _ _) _) _ _ _)); first | walk1 | (dsimp only; walk1)) | fail "no step"))
local macro_rules | `(tactic| k_all) => `(tactic| assumption)
local macro_rules | `(tactic| size_fits) => `(tactic| assumption)
local macro_rules | `(tactic| walk_at "mine_same") => `(tactic| (intro z h1 h2 h3; (simp only [List.forall_mem_cons, List.not_mem_nil, false_implies, implies_true, and_true, ne_eq] at h2); (simp only [List.contains_cons, List.contains_nil, Bool.or_false, Bool.or_eq_false_iff, beq_eq_false_iff_ne, ne_eq] at h3); first | rfl | (simp [h1, h2, h3]; done) | (simp [kstB, h1, h2, h3]; done)))
local macro_rules | `(tactic| walk_at "mine_dec") => `(tactic| first | (with_reducible assumption) | ((simp only [decide_eq_true_eq, decide_eq_false_iff_not, Bool.not_eq_true, ne_eq, beq_iff_eq, beq_eq_false_iff_ne, bne_iff_ne]); lia) | lia)
local macro_rules | `(tactic| walk_at "ite") => `(tactic| (k_here; first | (refine ite_neg (by walk_at "mine_dec") ?_) | (refine ite_pos (by walk_at "mine_dec") ?_)))
local macro_rules | `(tactic| walk_at "mine_same2") => `(tactic| (intro z h2 h3; (simp only [List.forall_mem_cons, List.not_mem_nil, false_implies, implies_true, and_true, ne_eq] at h2); (simp only [List.contains_cons, List.contains_nil, Bool.or_false, Bool.or_eq_false_iff, beq_eq_false_iff_ne, ne_eq] at h3); first | rfl | (simp [h2, h3]; done) | (simp [kstB, h2, h3]; done)))
local macro_rules | `(tactic| walk_at "exec For") => `(tactic| (k_here; (with_reducible show wpAny _ _ (exec (Stmt.For (Expr.Name _ _) _ _ [] _) _) _ _ _); (rename Fr _ _ _ _ => lF'); (with_unfolding_all refine' For_invVF lF' ?k1 ?k2 ?_; (case k1 => exact rfl); (case k2 => exact rfl); k_whole)))
local macro_rules | `(tactic| walk_at "mine_to_for") => `(tactic| repeat' (first | ((fail_if_success (with_reducible show wpAny _ _ (exec (Stmt.For _ _ _ _ _) _) _ _ _)); (fail_if_success (with_reducible show wpAny _ _ (pyIter _) _ _ _)); (fail_if_success (with_reducible show wpAny _ _ (binaryOp Operator.Pow _ _) _ _ _)); first | walk1 | (dsimp only; walk1)) | fail "no step"))
local macro_rules | `(tactic| walk_at "mine_to_tup") => `(tactic| repeat' (first | ((fail_if_success (with_reducible show wpAny _ _ (subscriptTail (Expr.Tuple _ _ _) _ _ _) _ _ _)); first | walk1 | (dsimp only; walk1)) | fail "no step"))
local macro_rules | `(tactic| walk_at "mine_stepsA") => `(tactic| repeat' (first | (k_unfold; (try dsimp only)) | ((fail_if_success (with_reducible show wpAny _ _ (pyIter _) _ _ _)); (fail_if_success (with_reducible show wpAny _ _ (call (Value.builtin "list.append") _ _) _ _ _)); (fail_if_success (with_reducible show wpAny _ _ (call (Value.ref 143) _ _) _ _ _)); (fail_if_success (with_reducible show wpAny _ _ (call (Value.ref 150) _ _) _ _ _)); (fail_if_success (with_reducible show wpAny _ _ (call (Value.builtin "sorted") _ _) _ _ _)); (fail_if_success (with_reducible show wpAny _ _ (compareOp CmpOp.Eq (Value.ref _) (Value.ref _)) _ _ _)); (fail_if_success (with_reducible show wpAny _ _ (exec (Stmt.For _ _ _ _ _) _) _ _ _)); first | walk1 | (dsimp only; walk1)) | fail "no step"))
local macro_rules | `(tactic| walk_at "call ref") => `(tactic| (k_here; (with_reducible show wpAny _ _ (call (Value.ref 120) [Value.bytes _ _] _) _ _ _); k_dflt (refine' Con.use (spec_b2a _ _ (by assumption) (by assumption)) ?k1 ?k2 ?k3 ?k4 ?k5 ?kK ?kd ?ku ?_; walk_at "mine_use"); intro v9 n9 h9 tk9 r9 F9 N9; obtain ⟨⟨t9, e1⟩, e2⟩ := r9; subst e1; (replace e2 := Eq.symm e2); subst e2; (try dsimp only)))
theorem spec_b64encode (b : Array UInt8) (t u : Tok) (hsz : b.size ≤ 500000) (hq : (enc (KBw.bInts b)).2.1 = 0) :
    Con w mean mg mb 128 [.bytes b t, .bytes #[46, 10] u] [] 6 80 news (fun v n => (∃ t, v = .bytes (transl (mkTab #[43, 47] #[46, 10]) (byteArr (enc (KBw.bInts b)).1)) t) ∧ n = news) := by
  have hsz1 : b.size ≤ 1000000 := by lia
  have hsz2 : (byteArr (enc (KBw.bInts b)).1).size ≤ 1000000 := by
    rw [byteArr_size]
    have h1 := (enc_ok (KBw.bInts b)).1
    have h2 := KBw.ints_length b
    lia
  unfold Con; k_fill; intro dp un gd cn cs a ccd cl outer A₀ base h₀ L m s Q E B F X N T hk hd hu ret
  refine wpAny_call ?_
  k_dflt (refine' code_def (binds := [(Str.ofString "s", .bytes b t), (Str.ofString "altchars", .bytes #[46, 10] u)]) ?k1 ?k2 ?k3 ?k4 ?k5 ?kA ?kF ?kK ?k6 ?k7 ?k8 ?k9 ?kB ?_ ?c2 ?c3 ?c4 ?c5; walk_at "mine_start")
  intro g L' h' FG F' N' B' X' T'
  try dsimp only
  try k_fold
  walk_at "mine_steps"
  all_goals exact ret _ _ _ _ ⟨⟨_, rfl⟩, rfl⟩ (by k_asm) (by k_asm)
end
section
variable {w : World} {mean : ExcName → Option Value} {mg mb : Str → Option Value} {news : List (Addr × Obj)}
open PySem.Sre
noncomputable def code1 : Array Nat := #[14, 4, 0, 1, 1, 6, 1, 16, 46, 1]
noncomputable def code2 : Array Nat := #[14, 9, 4, 1, 2, 16, 10, 16, 13, 0, 7, 7, 16, 13, 16, 10, 15, 18, 5, 16, 10, 15, 13, 11, 16, 13, 5, 5, 0, 16, 10, 1, 15, 2, 0, 1]
theorem run_one {n : Nat} {m m' : M} (h : m.outcome = none) (e : m.step = m') : M.runFor (n + 1) m = M.runFor n m' := by
  subst e
  show (if m.outcome.isSome = true then m else M.runFor n m.step) = _
  rw [h]; rfl
theorem run_out {m : M} (h : m.outcome.isSome = true) : ∀ n, M.runFor n m = m
  | 0 => rfl
  | n + 1 => by
    show (if m.outcome.isSome = true then m else M.runFor n m.step) = _
    rw [if_pos h]
theorem run_add (a b : Nat) : ∀ m : M, M.runFor (a + b) m = M.runFor b (M.runFor a m) := by
  induction a with
  | zero => intro m; rw [Nat.zero_add]; rfl
  | succ a ih =>
    intro m
    rw [Nat.succ_add]
    show (if m.outcome.isSome = true then m else M.runFor (a + b) m.step) = M.runFor b (if m.outcome.isSome = true then m else M.runFor a m.step)
    by_cases h : m.outcome.isSome = true
    · rw [if_pos h, if_pos h, run_out h]
    · rw [if_neg h, if_neg h, ih]
/-- the machine gets from m to m' in at most n steps -/
noncomputable def Gets (n : Nat) (m m' : M) : Prop := ∃ k, k ≤ n ∧ M.runFor k m = m'
theorem Gets.refl (m : M) : Gets 0 m m := ⟨0, Nat.le_refl _, rfl⟩
theorem Gets.trans {a b : Nat} {m m' m'' : M} (h : Gets a m m') (h' : Gets b m' m'') : Gets (a + b) m m'' := by
  obtain ⟨k, hk, e⟩ := h
  obtain ⟨l, hl, e'⟩ := h'
  exact ⟨k + l, Nat.add_le_add hk hl, by rw [run_add, e, e']⟩
theorem Gets.step {n : Nat} {m m₁ m' : M} (h : m.outcome = none) (e : m.step = m₁) (g : Gets n m₁ m') : Gets (n + 1) m m' := by
  obtain ⟨k, hk, e'⟩ := g
  exact ⟨k + 1, Nat.succ_le_succ hk, by rw [run_one h e, e']⟩
theorem Gets.mono {a b : Nat} {m m' : M} (h : Gets a m m') (hab : a ≤ b) : Gets b m m' := let ⟨k, hk, e⟩ := h; ⟨k, Nat.le_trans hk hab, e⟩

noncomputable def fr0 (pc s : Nat) (first : Bool) : PySem.Sre.Frame := { wait := .nextStart, pc := pc, pos := s, outermost := first }
noncomputable def S1 (text : Array Nat) (lim s pc pos handed : Nat) (outer : Bool) (frames : List PySem.Sre.Frame) (weight : Nat) (answer : Option Bool) (outc : Option PySem.Sre.Outcome) (sn : PySem.Sre.Seen) : M :=
  { code := code1, text, lim, start := s, lastStart := lim, pc, pos, handed, outermost := outer, marks := #[], frames, weight, answer, seen := sn, outcome := outc }
/-- the machine at an attempt at place s -/
noncomputable def at1 (text : Array Nat) (lim s : Nat) (first : Bool) (sn : PySem.Sre.Seen) : M := S1 text lim s 5 s s first [fr0 5 s first] 1 none none sn
theorem start1 (text : Array Nat) (lim p : Nat) (h : p < lim) : ∃ sn, forSearch code1 text 0 p lim false = at1 text lim p true sn := by
  refine ⟨?_, ?_⟩
  rotate_left
  · show (if (decide (p > lim) || decide (lim - p < 1)) = true then _ else _) = _
    rw [if_neg (by simp; lia)]
    rfl
theorem start1_end (text : Array Nat) (lim : Nat) : ∃ m, Gets 2 (forSearch code1 text 0 lim lim false) m ∧ m.outcome = some .failed := by
  have e : ∃ sn, forSearch code1 text 0 lim lim false = { code := code1, text, lim, start := lim, pc := 5, pos := lim, handed := lim, marks := #[], seen := sn, answer := some false } := by
    refine ⟨?_, ?_⟩
    rotate_left
    · show (if (decide (lim > lim) || decide (lim - lim < 1)) = true then _ else _) = _
      rw [if_pos (by simp)]
      rfl
  obtain ⟨sn, e⟩ := e
  rw [e]
  exact ⟨{ code := code1, text, lim, start := lim, pc := 5, pos := lim, handed := lim, marks := #[], seen := sn, answer := some false, outcome := some .failed }, (Gets.step rfl rfl (Gets.refl _)).mono (by lia), rfl⟩
noncomputable def Bol (text : Array Nat) (s : Nat) : Bool := s == 0 || text.getD (s - 1) 0 == 10
section
variable {text : Array Nat} {lim s : Nat} {first : Bool} {sn : PySem.Sre.Seen}
theorem at1_yes (hb : Bol text s = true) : (at1 text lim s first sn).step = S1 text lim s 7 s s first [fr0 5 s first] 1 none none ((sn.add 6).add 44) := by
  show (if Bol text s = true then _ else _) = _
  rw [if_pos hb]
  rfl
theorem at1_no (hb : Bol text s = false) : (at1 text lim s first sn).step = S1 text lim s 5 s s first [fr0 5 s first] 1 (some false) none ((sn.add 6).add 44) := by
  show (if Bol text s = true then _ else _) = _
  rw [if_neg (by rw [hb]; decide)]
  rfl
theorem lit1_end (hs : ¬ s < lim) : (S1 text lim s 7 s s first [fr0 5 s first] 1 none none sn).step = S1 text lim s 7 s s first [fr0 5 s first] 1 (some false) none (sn.add 16) := by
  show (if s ≥ lim then _ else _) = _
  rw [if_pos (by lia)]
  rfl
theorem lit1_yes (hs : s < lim) (hc : text.getD s 0 = 46) : (S1 text lim s 7 s s first [fr0 5 s first] 1 none none sn).step = S1 text lim s 9 (s + 1) s first [fr0 5 s first] 1 none none (sn.add 16) := by
  show (if s ≥ lim then _ else (match (Except.ok (text.getD s 0 == 46, sn.add 16) : Except String (Bool × PySem.Sre.Seen)) with | .error why => _ | .ok (false, seen) => _ | .ok (true, seen) => _)) = _
  rw [if_neg (by lia), hc]
  rfl
theorem lit1_no (hs : s < lim) (hc : text.getD s 0 ≠ 46) : (S1 text lim s 7 s s first [fr0 5 s first] 1 none none sn).step = S1 text lim s 7 s s first [fr0 5 s first] 1 (some false) none (sn.add 16) := by
  show (if s ≥ lim then _ else (match (Except.ok (text.getD s 0 == 46, sn.add 16) : Except String (Bool × PySem.Sre.Seen)) with | .error why => _ | .ok (false, seen) => _ | .ok (true, seen) => _)) = _
  have : (text.getD s 0 == 46) = false := by simpa using hc
  rw [if_neg (by lia), this]
  rfl
theorem succ1 : (S1 text lim s 9 (s + 1) s first [fr0 5 s first] 1 none none sn).step = S1 text lim s 9 (s + 1) (s + 1) first [fr0 5 s first] 1 (some true) none (sn.add 1) := by
  cases first <;> rfl
theorem hit1 (hs : s < lim) (hb : Bol text s = true) (hc : text.getD s 0 = 46) :
    ∃ m, Gets 5 (at1 text lim s first sn) m ∧ m.outcome = some .matched ∧ m.start = s ∧ m.handed = s + 1 :=
  ⟨S1 text lim s 5 s (s + 1) first [] 0 (some true) (some .matched) _, .step rfl (at1_yes hb) (.step rfl (lit1_yes hs hc) (.step rfl succ1
    (.step rfl (m₁ := S1 text lim s 5 s (s + 1) first [] 0 (some true) none _) rfl (.step rfl rfl (.refl _))))), rfl, rfl, rfl⟩
theorem back1 {pc : Nat} (hs : s < lim) : (S1 text lim s pc s s first [fr0 5 s first] 1 (some false) none sn).step = at1 text lim (s + 1) false sn := by
  show (if s < lim then _ else _) = _
  rw [if_pos hs]
  rfl
theorem last1 {pc : Nat} (hs : ¬ s < lim) : ∃ m, Gets 2 (S1 text lim s pc s s first [fr0 5 s first] 1 (some false) none sn) m ∧ m.outcome = some .failed := by
  have e : (S1 text lim s pc s s first [fr0 5 s first] 1 (some false) none sn).step = S1 text lim s 5 s s first [] 0 (some false) none sn := by
    show (if s < lim then _ else _) = _
    rw [if_neg hs]
    rfl
  exact ⟨S1 text lim s 5 s s first [] 0 (some false) (some .failed) sn, .step rfl e (.step rfl rfl (.refl _)), rfl⟩
theorem miss1 (hs : s < lim) (h : ¬ (Bol text s = true ∧ text.getD s 0 = 46)) : ∃ sn', Gets 3 (at1 text lim s first sn) (at1 text lim (s + 1) false sn') := by
  cases hb : Bol text s with
  | false => exact ⟨_, (Gets.step rfl (at1_no hb) (.step rfl (back1 hs) (.refl _))).mono (by lia)⟩
  | true => exact ⟨_, .step rfl (at1_yes hb) (.step rfl (lit1_no hs fun hc => h ⟨hb, hc⟩) (.step rfl (back1 hs) (.refl _)))⟩
theorem end1 (hs : ¬ s < lim) : ∃ m, Gets 4 (at1 text lim s first sn) m ∧ m.outcome = some .failed := by
  cases hb : Bol text s with
  | false =>
    obtain ⟨m, g, h⟩ := last1 (text := text) (lim := lim) (s := s) (first := first) (pc := 5) (sn := (sn.add 6).add 44) hs
    exact ⟨m, (Gets.step rfl (at1_no hb) g).mono (by lia), h⟩
  | true =>
    obtain ⟨m, g, h⟩ := last1 (text := text) (lim := lim) (s := s) (first := first) (pc := 7) (sn := ((sn.add 6).add 44).add 16) hs
    exact ⟨m, .step rfl (at1_yes hb) (.step rfl (lit1_end hs) g), h⟩
end
end
section
variable {w : World} {mean : ExcName → Option Value} {mg mb : Str → Option Value} {news : List (Addr × Obj)}
open PySem.Sre
noncomputable def S2 (text : Array Nat) (lim s pc pos handed : Nat) (outer : Bool) (frames : List PySem.Sre.Frame) (weight : Nat) (answer : Option Bool) (outc : Option PySem.Sre.Outcome) (sn : PySem.Sre.Seen) : M :=
  { code := code2, text, lim, start := s, lastStart := lim, pc, pos, handed, outermost := outer, marks := #[], frames, weight, answer, seen := sn, outcome := outc }
noncomputable def kp : PySem.Sre.Kept := { lastmark := -1, lastindex := -1, whole := false, marks := #[] }
noncomputable def frb (pc s : Nat) (first : Bool) : PySem.Sre.Frame := { wait := .nextBranch, pc := pc, pos := s, outermost := first, kept := kp }
noncomputable def frl (pc s : Nat) (first : Bool) : PySem.Sre.Frame := { wait := .lookNot, pc := pc, pos := s, outermost := first, kept := kp }
noncomputable def at2 (text : Array Nat) (lim s : Nat) (first : Bool) (sn : PySem.Sre.Seen) : M := S2 text lim s 10 s s first [fr0 10 s first] 1 none none sn
section
variable {text : Array Nat} {lim s pos handed : Nat} {first : Bool} {sn : PySem.Sre.Seen} {fs : List PySem.Sre.Frame} {wt : Nat}
theorem branch2 : (at2 text lim s first sn).step = S2 text lim s 12 s s first [frb 11 s first, fr0 10 s first] 2 none none (sn.add 7) := rfl
theorem lit2_no {pc w : Nat} {outer : Bool} (hpc : (pc = 12 ∧ w = 13) ∨ (pc = 14 ∧ w = 10) ∨ (pc = 19 ∧ w = 10) ∨ (pc = 24 ∧ w = 13) ∨ (pc = 29 ∧ w = 10)) (hc : ¬ (pos < lim ∧ text.getD pos 0 = w)) :
    (S2 text lim s pc pos handed outer fs wt none none sn).step = S2 text lim s pc pos handed outer fs wt (some false) none (sn.add 16) := by
  by_cases hp : pos < lim
  · have : (text.getD pos 0 == w) = false := by simpa using fun e => hc ⟨hp, e⟩
    rcases hpc with ⟨rfl, rfl⟩ | ⟨rfl, rfl⟩ | ⟨rfl, rfl⟩ | ⟨rfl, rfl⟩ | ⟨rfl, rfl⟩
    · show (if pos ≥ lim then _ else (match (Except.ok (text.getD pos 0 == 13, sn.add 16) : Except String (Bool × PySem.Sre.Seen)) with | .error why => _ | .ok (false, seen) => _ | .ok (true, seen) => _)) = _
      rw [if_neg (by lia), this]; rfl
    · show (if pos ≥ lim then _ else (match (Except.ok (text.getD pos 0 == 10, sn.add 16) : Except String (Bool × PySem.Sre.Seen)) with | .error why => _ | .ok (false, seen) => _ | .ok (true, seen) => _)) = _
      rw [if_neg (by lia), this]; rfl
    · show (if pos ≥ lim then _ else (match (Except.ok (text.getD pos 0 == 10, sn.add 16) : Except String (Bool × PySem.Sre.Seen)) with | .error why => _ | .ok (false, seen) => _ | .ok (true, seen) => _)) = _
      rw [if_neg (by lia), this]; rfl
    · show (if pos ≥ lim then _ else (match (Except.ok (text.getD pos 0 == 13, sn.add 16) : Except String (Bool × PySem.Sre.Seen)) with | .error why => _ | .ok (false, seen) => _ | .ok (true, seen) => _)) = _
      rw [if_neg (by lia), this]; rfl
    · show (if pos ≥ lim then _ else (match (Except.ok (text.getD pos 0 == 10, sn.add 16) : Except String (Bool × PySem.Sre.Seen)) with | .error why => _ | .ok (false, seen) => _ | .ok (true, seen) => _)) = _
      rw [if_neg (by lia), this]; rfl
  · rcases hpc with ⟨rfl, rfl⟩ | ⟨rfl, rfl⟩ | ⟨rfl, rfl⟩ | ⟨rfl, rfl⟩ | ⟨rfl, rfl⟩ <;>
    · show (if pos ≥ lim then _ else _) = _
      rw [if_pos (by lia)]; rfl
theorem lit2_yes {pc w : Nat} {outer : Bool} (hpc : (pc = 12 ∧ w = 13) ∨ (pc = 14 ∧ w = 10) ∨ (pc = 19 ∧ w = 10) ∨ (pc = 24 ∧ w = 13)) (hp : pos < lim) (hc : text.getD pos 0 = w) :
    (S2 text lim s pc pos handed outer fs wt none none sn).step = S2 text lim s (pc + 2) (pos + 1) handed outer fs wt none none (sn.add 16) := by
  rcases hpc with ⟨rfl, rfl⟩ | ⟨rfl, rfl⟩ | ⟨rfl, rfl⟩ | ⟨rfl, rfl⟩
  · show (if pos ≥ lim then _ else (match (Except.ok (text.getD pos 0 == 13, sn.add 16) : Except String (Bool × PySem.Sre.Seen)) with | .error why => _ | .ok (false, seen) => _ | .ok (true, seen) => _)) = _
    rw [if_neg (by lia), hc]; rfl
  · show (if pos ≥ lim then _ else (match (Except.ok (text.getD pos 0 == 10, sn.add 16) : Except String (Bool × PySem.Sre.Seen)) with | .error why => _ | .ok (false, seen) => _ | .ok (true, seen) => _)) = _
    rw [if_neg (by lia), hc]; rfl
  · show (if pos ≥ lim then _ else (match (Except.ok (text.getD pos 0 == 10, sn.add 16) : Except String (Bool × PySem.Sre.Seen)) with | .error why => _ | .ok (false, seen) => _ | .ok (true, seen) => _)) = _
    rw [if_neg (by lia), hc]; rfl
  · show (if pos ≥ lim then _ else (match (Except.ok (text.getD pos 0 == 13, sn.add 16) : Except String (Bool × PySem.Sre.Seen)) with | .error why => _ | .ok (false, seen) => _ | .ok (true, seen) => _)) = _
    rw [if_neg (by lia), hc]; rfl
theorem jump2 {pc : Nat} {outer : Bool} (hpc : pc = 16 ∨ pc = 21 ∨ pc = 32) : (S2 text lim s pc pos handed outer fs wt none none sn).step = S2 text lim s 35 pos handed outer fs wt none none (sn.add 15) := by
  rcases hpc with rfl | rfl | rfl <;> rfl
theorem win2 {b : Nat} : ∃ m, Gets 4 (S2 text lim s 35 pos handed first [frb b s first, fr0 10 s first] 2 none none sn) m ∧ m.outcome = some .matched ∧ m.start = s ∧ m.handed = pos := by
  have e : (S2 text lim s 35 pos handed first [frb b s first, fr0 10 s first] 2 none none sn).step = S2 text lim s 35 pos pos first [frb b s first, fr0 10 s first] 2 (some true) none (sn.add 1) := by cases first <;> rfl
  exact ⟨S2 text lim s 10 s pos first [] 0 (some true) (some .matched) (sn.add 1), .step rfl e (.step rfl (m₁ := S2 text lim s b s pos first [fr0 10 s first] 1 (some true) none (sn.add 1)) rfl
    (.step rfl (m₁ := S2 text lim s 10 s pos first [] 0 (some true) none (sn.add 1)) rfl (.step rfl rfl (.refl _)))), rfl, rfl, rfl⟩
theorem alt2_1 {pc : Nat} : (S2 text lim s pc pos handed first [frb 11 s first, fr0 10 s first] 2 (some false) none sn).step = S2 text lim s 19 s s first [frb 18 s first, fr0 10 s first] 2 none none sn := rfl
theorem alt2_2 {pc : Nat} : (S2 text lim s pc pos handed first [frb 18 s first, fr0 10 s first] 2 (some false) none sn).step = S2 text lim s 24 s s first [frb 23 s first, fr0 10 s first] 2 none none sn := rfl
theorem look2 : (S2 text lim s 26 pos handed first [frb 23 s first, fr0 10 s first] 2 none none sn).step = S2 text lim s 29 pos pos false [frl 26 pos first, frb 23 s first, fr0 10 s first] 3 none none (sn.add 5) := rfl
theorem looked2 {pc q : Nat} {outer : Bool} : (S2 text lim s pc q handed outer [frl 26 pos first, frb 23 s first, fr0 10 s first] 3 (some false) none sn).step = S2 text lim s 32 pos handed first [frb 23 s first, fr0 10 s first] 2 none none sn := rfl
theorem hit2_crlf (hs : s + 1 < lim) (h1 : text.getD s 0 = 13) (h2 : text.getD (s + 1) 0 = 10) :
    ∃ m, Gets 16 (at2 text lim s first sn) m ∧ m.outcome = some .matched ∧ m.start = s ∧ m.handed = s + 2 := by
  obtain ⟨m, g, r⟩ := win2 (text := text) (lim := lim) (s := s) (pos := s + 2) (handed := s) (first := first) (b := 11) (sn := (((sn.add 7).add 16).add 16).add 15)
  exact ⟨m, (Gets.step rfl branch2 (.step rfl (lit2_yes (.inl ⟨rfl, rfl⟩) (by lia) h1) (.step rfl (lit2_yes (.inr (.inl ⟨rfl, rfl⟩)) hs h2) (.step rfl (jump2 (.inl rfl)) g)))).mono (by lia), r⟩
theorem hit2_lf (hs : s < lim) (h1 : text.getD s 0 = 10) :
    ∃ m, Gets 16 (at2 text lim s first sn) m ∧ m.outcome = some .matched ∧ m.start = s ∧ m.handed = s + 1 := by
  obtain ⟨m, g, r⟩ := win2 (text := text) (lim := lim) (s := s) (pos := s + 1) (handed := s) (first := first) (b := 18) (sn := (((sn.add 7).add 16).add 16).add 15)
  exact ⟨m, (Gets.step rfl branch2 (.step rfl (lit2_no (.inl ⟨rfl, rfl⟩) (by rw [h1]; lia)) (.step rfl alt2_1 (.step rfl (lit2_yes (.inr (.inr (.inl ⟨rfl, rfl⟩))) hs h1) (.step rfl (jump2 (.inr (.inl rfl))) g))))).mono (by lia), r⟩
theorem hit2_cr (hs : s < lim) (h1 : text.getD s 0 = 13) (h2 : ¬ (s + 1 < lim ∧ text.getD (s + 1) 0 = 10)) :
    ∃ m, Gets 16 (at2 text lim s first sn) m ∧ m.outcome = some .matched ∧ m.start = s ∧ m.handed = s + 1 := by
  obtain ⟨m, g, r⟩ := win2 (text := text) (lim := lim) (s := s) (pos := s + 1) (handed := s + 1) (first := first) (b := 23) (sn := ((((((((sn.add 7).add 16).add 16).add 16).add 16).add 5).add 16).add 15))
  exact ⟨m, (Gets.step rfl branch2 (.step rfl (lit2_yes (.inl ⟨rfl, rfl⟩) hs h1) (.step rfl (lit2_no (.inr (.inl ⟨rfl, rfl⟩)) h2) (.step rfl alt2_1 (.step rfl (lit2_no (.inr (.inr (.inl ⟨rfl, rfl⟩))) (by rw [h1]; lia))
    (.step rfl alt2_2 (.step rfl (lit2_yes (.inr (.inr (.inr ⟨rfl, rfl⟩))) hs h1) (.step rfl look2 (.step rfl (lit2_no (.inr (.inr (.inr (.inr ⟨rfl, rfl⟩)))) h2) (.step rfl looked2 (.step rfl (jump2 (.inr (.inr rfl))) g))))))))))).mono (by lia), r⟩
end
end
section
variable {w : World} {mean : ExcName → Option Value} {mg mb : Str → Option Value} {news : List (Addr × Obj)}
open PySem.Sre
/-- what the search of a pattern finds from place p on: the machine ends, and says what f says -/
noncomputable def Searches (code : Array Nat) (f : Array Nat → Nat → Option (Nat × Nat)) : Prop :=
  ∀ (text : Array Nat) (p : Nat), p ≤ text.size → ∃ m, Gets (20 * text.size + 40) (forSearch code text 0 p text.size false) m ∧
    match f text p with
    | some (a, b) => m.outcome = some .matched ∧ m.start = a ∧ m.handed = b
    | none => m.outcome = some .failed
/-- the first place from p on, below lim, where q holds -/
noncomputable def firstAt (q : Nat → Bool) (lim : Nat) : Nat → Nat → Option Nat
  | 0, _ => none
  | fuel + 1, p => if p < lim then (if q p then some p else firstAt q lim fuel (p + 1)) else none
noncomputable def find1 (text : Array Nat) (p : Nat) : Option (Nat × Nat) :=
  (firstAt (fun s => Bol text s && text.getD s 0 == 46) text.size (text.size + 1 - p) p).map fun s => (s, s + 1)
noncomputable def isEnd (c : Nat) : Bool := c == 10 || c == 13
noncomputable def find2 (text : Array Nat) (p : Nat) : Option (Nat × Nat) :=
  (firstAt (fun s => isEnd (text.getD s 0)) text.size (text.size + 1 - p) p).map fun s =>
    (s, if text.getD s 0 = 13 ∧ s + 1 < text.size ∧ text.getD (s + 1) 0 = 10 then s + 2 else s + 1)
theorem search1_go {text : Array Nat} {lim : Nat} : ∀ (fuel p : Nat) (first : Bool) (sn : PySem.Sre.Seen), p ≤ lim → lim + 1 - p ≤ fuel → ∃ m, Gets (3 * fuel + 5) (at1 text lim p first sn) m ∧
    match firstAt (fun s => Bol text s && text.getD s 0 == 46) lim fuel p with
    | some s => m.outcome = some .matched ∧ m.start = s ∧ m.handed = s + 1
    | none => m.outcome = some .failed
  | 0, p, first, sn, hp, hf => by lia
  | fuel + 1, p, first, sn, hp, hf => by
    unfold firstAt
    by_cases h : p < lim
    · rw [if_pos h]
      by_cases hq : Bol text p = true ∧ text.getD p 0 = 46
      · have : (Bol text p && text.getD p 0 == 46) = true := by rw [hq.1, hq.2]; rfl
        rw [if_pos this]
        obtain ⟨m, g, r⟩ := hit1 (first := first) (sn := sn) h hq.1 hq.2
        exact ⟨m, g.mono (by lia), r⟩
      · have : ¬ (Bol text p && text.getD p 0 == 46) = true := by
          intro e
          rw [Bool.and_eq_true, beq_iff_eq] at e
          exact hq e
        rw [if_neg this]
        obtain ⟨sn', g⟩ := miss1 (first := first) (sn := sn) h hq
        obtain ⟨m, g', r⟩ := search1_go (text := text) (lim := lim) fuel (p + 1) false sn' (by lia) (by lia)
        exact ⟨m, (g.trans g').mono (by lia), r⟩
    · rw [if_neg h]
      obtain ⟨m, g, r⟩ := end1 (text := text) (first := first) (sn := sn) h
      exact ⟨m, g.mono (by lia), r⟩
theorem searches1 : Searches code1 find1 := by
  intro text p hp
  unfold find1
  by_cases h : p < text.size
  · obtain ⟨sn, e⟩ := start1 text text.size p h
    obtain ⟨m, g, r⟩ := search1_go (text := text) (text.size + 1 - p) p true sn hp (Nat.le_refl _)
    refine ⟨m, ?_, ?_⟩
    · rw [e]; exact g.mono (by lia)
    · generalize firstAt _ _ _ _ = o at r ⊢
      cases o with
      | none => exact r
      | some s => exact r
  · have e : p = text.size := by lia
    subst e
    obtain ⟨m, g, r⟩ := start1_end text text.size
    refine ⟨m, g.mono (by lia), ?_⟩
    have : firstAt (fun s => Bol text s && text.getD s 0 == 46) text.size (text.size + 1 - text.size) text.size = none := by
      have e : text.size + 1 - text.size = 0 + 1 := by lia
      rw [e]; unfold firstAt
      rw [if_neg (by lia)]
    rw [this]; exact r
theorem inSet2 (c : Nat) (sn : PySem.Sre.Seen) : ∃ sn', inSet code2 c code2.size 5 true sn = .ok (isEnd c, sn') := by
  have e : inSet code2 c code2.size 5 true sn = if c == 10 then .ok (true, sn.add 16) else if c == 13 then .ok (true, (sn.add 16).add 16) else .ok (false, ((sn.add 16).add 16).add 0) := rfl
  rw [e]
  unfold isEnd
  by_cases h1 : c = 10
  · subst h1; exact ⟨_, rfl⟩
  · by_cases h2 : c = 13
    · subst h2; exact ⟨_, rfl⟩
    · have e1 : (c == 10) = false := by simpa using h1
      have e2 : (c == 13) = false := by simpa using h2
      rw [e1, e2]; exact ⟨_, rfl⟩
theorem admitted2 {m : M} (hm : m.code = code2) : ∀ (fuel p : Nat) (sn : PySem.Sre.Seen), ∃ sn', M.admitted m fuel p sn = .ok (firstAt (fun s => isEnd (m.text.getD s 0)) m.lim fuel p, sn')
  | 0, p, sn => ⟨sn, rfl⟩
  | fuel + 1, p, sn => by
    unfold M.admitted firstAt
    by_cases h : p < m.lim
    · rw [if_neg (by lia), if_pos h, hm]
      obtain ⟨sn', e⟩ := inSet2 (m.text.getD p 0) sn
      rw [e]
      by_cases hq : isEnd (m.text.getD p 0) = true
      · rw [if_pos hq, hq]; exact ⟨_, rfl⟩
      · rw [if_neg hq]
        have : isEnd (m.text.getD p 0) = false := by simpa using hq
        rw [this]
        exact admitted2 hm fuel (p + 1) sn'
    · rw [if_pos (by lia), if_neg h]; exact ⟨_, rfl⟩
theorem firstAt_spec {q : Nat → Bool} {lim : Nat} : ∀ {fuel p s : Nat}, firstAt q lim fuel p = some s → p ≤ s ∧ s < lim ∧ q s = true ∧ ∀ j, p ≤ j → j < s → q j = false
  | 0, p, s, h => by cases h
  | fuel + 1, p, s, h => by
    unfold firstAt at h
    split at h
    · split at h
      · cases h
        rename_i h1 h2
        exact ⟨Nat.le_refl _, h1, h2, fun j a b => by lia⟩
      · rename_i h1 h2
        obtain ⟨a, b, c, d⟩ := firstAt_spec h
        refine ⟨by lia, b, c, fun j hj hs => ?_⟩
        by_cases e : j = p
        · subst e; simpa using h2
        · exact d j (by lia) hs
    · cases h
theorem start2 (text : Array Nat) (lim p : Nat) (h : p < lim) :
    (∃ s sn, firstAt (fun s => isEnd (text.getD s 0)) lim (lim + 1 - p) p = some s ∧ forSearch code2 text 0 p lim false = at2 text lim s true sn) ∨
    (firstAt (fun s => isEnd (text.getD s 0)) lim (lim + 1 - p) p = none ∧ ∃ m, Gets 2 (forSearch code2 text 0 p lim false) m ∧ m.outcome = some .failed) := by
  have e : ∃ sn, forSearch code2 text 0 p lim false = ({ code := code2, text, lim, start := p, lastStart := lim, pc := 10, pos := p, handed := p, marks := #[], seen := sn } : M).attemptFrom p true := by
    refine ⟨?_, ?_⟩
    rotate_left
    · show (if (decide (p > lim) || decide (lim - p < 1)) = true then _ else _) = _
      rw [if_neg (by simp; lia)]
      rfl
  obtain ⟨sn, e⟩ := e
  obtain ⟨sn', ea⟩ := admitted2 (m := { code := code2, text, lim, start := p, lastStart := lim, pc := 10, pos := p, handed := p, marks := #[], seen := sn }) rfl (lim + 1 - p) p sn
  have e2 : ({ code := code2, text, lim, start := p, lastStart := lim, pc := 10, pos := p, handed := p, marks := #[], seen := sn } : M).attemptFrom p true =
      match M.admitted ({ code := code2, text, lim, start := p, lastStart := lim, pc := 10, pos := p, handed := p, marks := #[], seen := sn } : M) (lim + 1 - p) p sn with
      | .ok (some s, seen) => ({ code := code2, text, lim, start := p, lastStart := lim, pc := 10, pos := p, handed := p, marks := #[], mustAdvance := false, seen } : M).attemptAt s true
      | .ok (none, seen) => ({ code := code2, text, lim, start := p, lastStart := lim, pc := 10, pos := p, handed := p, marks := #[], seen } : M).say false
      | .error why => M.stick _ why := rfl
  rw [ea] at e2
  rw [e, e2]
  dsimp only
  cases ho : firstAt (fun s => isEnd (text.getD s 0)) lim (lim + 1 - p) p with
  | some s => exact .inl ⟨s, sn', rfl, rfl⟩
  | none =>
    refine .inr ⟨rfl, { code := code2, text, lim, start := p, lastStart := lim, pc := 10, pos := p, handed := p, marks := #[], seen := sn', answer := some false, outcome := some .failed }, ?_, rfl⟩
    exact (Gets.step rfl rfl (.refl _)).mono (by lia)
theorem start2_end (text : Array Nat) (lim : Nat) : ∃ m, Gets 2 (forSearch code2 text 0 lim lim false) m ∧ m.outcome = some .failed := by
  have e : ∃ sn, forSearch code2 text 0 lim lim false = { code := code2, text, lim, start := lim, pc := 10, pos := lim, handed := lim, marks := #[], seen := sn, answer := some false } := by
    refine ⟨?_, ?_⟩
    rotate_left
    · show (if (decide (lim > lim) || decide (lim - lim < 1)) = true then _ else _) = _
      rw [if_pos (by simp)]
      rfl
  obtain ⟨sn, e⟩ := e
  rw [e]
  exact ⟨{ code := code2, text, lim, start := lim, pc := 10, pos := lim, handed := lim, marks := #[], seen := sn, answer := some false, outcome := some .failed }, (Gets.step rfl rfl (Gets.refl _)).mono (by lia), rfl⟩
theorem searches2 : Searches code2 find2 := by
  intro text p hp
  unfold find2
  by_cases h : p < text.size
  · rcases start2 text text.size p h with ⟨s, sn, ef, e⟩ | ⟨ef, m, g, r⟩
    · obtain ⟨h1, h2, h3, _⟩ := firstAt_spec ef
      rw [ef, e]
      dsimp only [Option.map_some]
      by_cases hc : text.getD s 0 = 13 ∧ s + 1 < text.size ∧ text.getD (s + 1) 0 = 10
      · rw [if_pos hc]
        obtain ⟨m, g, r⟩ := hit2_crlf (first := true) (sn := sn) hc.2.1 hc.1 hc.2.2
        exact ⟨m, g.mono (by lia), r⟩
      · rw [if_neg hc]
        by_cases h10 : text.getD s 0 = 10
        · obtain ⟨m, g, r⟩ := hit2_lf (first := true) (sn := sn) h2 h10
          exact ⟨m, g.mono (by lia), r⟩
        · have h13 : text.getD s 0 = 13 := by
            unfold isEnd at h3
            simp only [Bool.or_eq_true, beq_iff_eq] at h3
            exact h3.resolve_left h10
          obtain ⟨m, g, r⟩ := hit2_cr (first := true) (sn := sn) h2 h13 (fun q => hc ⟨h13, q⟩)
          exact ⟨m, g.mono (by lia), r⟩
    · rw [ef]
      exact ⟨m, g.mono (by lia), r⟩
  · have e : p = text.size := by lia
    subst e
    obtain ⟨m, g, r⟩ := start2_end text text.size
    refine ⟨m, g.mono (by lia), ?_⟩
    have : firstAt (fun s => isEnd (text.getD s 0)) text.size (text.size + 1 - text.size) text.size = none := by
      have e : text.size + 1 - text.size = 0 + 1 := by lia
      rw [e]; unfold firstAt
      rw [if_neg (by lia)]
    rw [this]; exact r
end
section
variable {w : World} {mean : ExcName → Option Value} {mg mb : Str → Option Value} {news : List (Addr × Obj)}
open PySem.Sre PySem.Builtin.Re
section
variable {Mo : Model} {A : Around} {E : Value → Shared → Prop} {s : Shared}
theorem wp_drive : ∀ (turns : Nat) {k : Nat} {m r : Sre.M} {Q : Sre.M → Shared → Prop}, Sre.M.runFor k m = r → r.outcome.isSome = true → k ≤ 4 * turns → 0 < turns → Q r s → wpAny Mo A (reDrive turns m) Q E s
  | 0, k, m, r, Q, e, ho, hk, ht, hq => by lia
  | turns + 1, k, m, r, Q, e, ho, hk, ht, hq => by
    unfold reDrive
    dsimp only
    by_cases h : (Sre.M.runFor reTurnSteps m).outcome.isSome = true
    · rw [if_pos h]
      have e' : Sre.M.runFor reTurnSteps m = r := by
        by_cases hk4 : k ≤ reTurnSteps
        · have : reTurnSteps = k + (reTurnSteps - k) := by lia
          rw [this, run_add, e, run_out ho]
        · have : k = reTurnSteps + (k - reTurnSteps) := by lia
          rw [this, run_add, run_out h] at e
          exact e
      rw [e']; exact wpAny_pure hq
    · rw [if_neg h]
      refine wpAny_bind (wpAny_rule ?_)
      have hk4 : reTurnSteps < k := by
        apply Nat.lt_of_not_le
        intro hk4
        have : reTurnSteps = k + (reTurnSteps - k) := by lia
        rw [this, run_add, e, run_out ho] at h
        exact h ho
      have h4 : reTurnSteps = 4 := rfl
      have : k = reTurnSteps + (k - reTurnSteps) := by lia
      rw [this, run_add] at e
      exact wp_drive turns e ho (by lia) (by lia) hq
theorem wp_rules {m : Sre.M} {g : Nat → String} {Q : PUnit → Shared → Prop} : ∀ (l : List Nat), Q ⟨⟩ s → wpAny Mo A (forIn l PUnit.unit fun i (_ : PUnit) => (if m.seen.has i = true then (do rule (g i); pure (ForInStep.yield PUnit.unit)) else pure (ForInStep.yield PUnit.unit) : Sem (ForInStep PUnit))) Q E s
  | [], h => by rw [List.forIn_nil]; exact wpAny_pure h
  | i :: l, h => by
    rw [List.forIn_cons]
    refine wpAny_bind ?_
    by_cases hi : m.seen.has i = true
    · rw [if_pos hi]
      exact wpAny_bind (wpAny_rule (wpAny_pure (wp_rules l h)))
    · rw [if_neg hi]
      exact wpAny_pure (wp_rules l h)
theorem wp_runToEnd {n : Nat} {m r : Sre.M} {Q : Option Sre.M → Shared → Prop} (g : Gets n m r) (hn : n ≤ 1000000000) (h : (r.outcome = some .matched ∧ Q (some r) s) ∨ (r.outcome = some .failed ∧ Q none s)) :
    wpAny Mo A (reRunToEnd m) Q E s := by
  unfold reRunToEnd
  obtain ⟨k, hk, e⟩ := g
  have ho : r.outcome.isSome = true := by rcases h with h | h <;> rw [h.1] <;> rfl
  refine wpAny_bind (wp_drive (2 ^ 64) e ho ?_ (by decide) ?_)
  · have : 1000000000 ≤ 4 * 2 ^ 64 := by decide
    lia
  refine wpAny_bind (wp_rules (List.range names.size) ?_)
  rcases h with ⟨h1, h2⟩ | ⟨h1, h2⟩
  · rw [h1]; exact wpAny_pure h2
  · rw [h1]; exact wpAny_pure h2
theorem wp_find {code : Array Nat} {f : Array Nat → Nat → Option (Nat × Nat)} (S : Searches code f) {t : ReTarget} {p : Nat} (hc : t.code = code) (hg : t.groups = 0) (hl : t.lim = t.text.size) (hp : p ≤ t.text.size) (hsz : t.text.size ≤ 1000000)
    {Q : Option Sre.M → Shared → Prop} (h1 : ∀ m a b, f t.text p = some (a, b) → m.start = a → m.handed = b → Q (some m) s) (h2 : f t.text p = none → Q none s) :
    wpAny Mo A (reNextFound t p false) Q E s := by
  unfold reNextFound
  rw [hc, hg, hl]
  obtain ⟨m, g, r⟩ := S t.text p hp
  refine wp_runToEnd g (by lia) ?_
  cases hf : f t.text p with
  | none => rw [hf] at r; exact .inr ⟨r, h2 hf⟩
  | some ab =>
    obtain ⟨a, b⟩ := ab
    rw [hf] at r
    exact .inl ⟨r.1, h1 m a b hf r.2.1 r.2.2⟩
end
end
section
variable {w : World} {mean : ExcName → Option Value} {mg mb : Str → Option Value} {news : List (Addr × Obj)}
open PySem.Sre PySem.Builtin.Re
/-- the pieces that sub leaves from place d on -/
noncomputable def subPieces (f : Array Nat → Nat → Option (Nat × Nat)) (text : Array Nat) (repl : Str) : Nat → Nat → List Str
  | 0, _ => []
  | fuel + 1, d => match f text d with
    | some (a, b) => (if d < a then [⟨text.extract d a⟩] else []) ++ repl :: subPieces f text repl fuel b
    | none => if d < text.size then [⟨text.extract d text.size⟩] else []
/-- what is found lies in the text, behind p, and is not empty -/
noncomputable def Forward (f : Array Nat → Nat → Option (Nat × Nat)) : Prop := ∀ text p a b, p ≤ text.size → f text p = some (a, b) → p ≤ a ∧ a < b ∧ b ≤ text.size
/-- a compiled pattern lies at pa, its code at ca -/
noncomputable def PatAt (h : Heap) (pa ca : Addr) (code : Array Nat) : Prop :=
  (∃ o fs, h.get? pa = some o ∧ o.cls = .type "re.Pattern" ∧ o.dict = none ∧ o.data = .fields fs ∧ reRawNat (fs.getD 6 .none) = 0 ∧ fs.getD 5 .none = .ref ca ∧ reRawNat (fs.getD 2 .none) = 0) ∧
  ∃ o xs n, h.get? ca = some o ∧ o.data = .seq xs n ∧ (xs.map reRawOf).map (·.toNat) = code
theorem PatAt.keeps {h h' : Heap} {pa ca : Addr} {code : Array Nat} (x : PatAt h pa ca code) (k : ∀ b o, (b = pa ∨ b = ca) → h.get? b = some o → h'.get? b = some o) : PatAt h' pa ca code := by
  obtain ⟨⟨o, fs, h1, r⟩, o', xs, n, h2, r'⟩ := x
  exact ⟨⟨o, fs, k _ _ (.inl rfl) h1, r⟩, o', xs, n, k _ _ (.inr rfl) h2, r'⟩
section
variable {prog : Program} {w : World} {A : Around} {E : Value → Shared → Prop} {s : Shared}
theorem wp_target {pa ca : Addr} {code : Array Nat} {x : Str} {t : Tok} {Q : ReTarget → Shared → Prop} (P : PatAt s.heap pa ca code)
    (h : Q { pattern := .ref pa, string := .str x t, code := code, text := x.cps, kind := 0, groups := 0, pos := 0, lim := x.cps.size } s) :
    wpAny (model prog w) A (reWholeTarget (.ref pa) (.str x t)) Q E s := by
  obtain ⟨⟨o, fs, h1, hc, hdi, hd, f6, f5, f2⟩, o', xs, n, h2, hd', hcode⟩ := P
  unfold reWholeTarget
  refine wpAny_bind ?_
  unfold fieldsOf
  refine wpAny_bind (wpAny_load h1 ?_)
  rw [hd]
  refine wpAny_pure ?_
  refine wpAny_bind (wpAny_of_eq (a := (x.cps, 0)) rfl ?_)
  dsimp only
  rw [f6, f5, f2]
  refine wpAny_bind (wpAny_of_eq (a := ()) rfl ?_)
  refine wpAny_bind ?_
  unfold reRawItems
  refine wpAny_bind (wpAny_seqItems h2 hd' (wpAny_pure (wpAny_pure ?_)))
  dsimp only [Option.getD_some]
  rw [hcode]
  exact h
theorem entry_sub_loop : entryFor table "re.Pattern.sub.loop" = some Builtin.«re.Pattern.sub.loop» := entryFor_of_tree (by kernel_rfl)
theorem plain_sub_loop : plainId "re.Pattern.sub.loop" = true := by decide +kernel
/-- the heap but for the list of pieces -/
noncomputable def But (pl : Addr) (h h' : Heap) : Prop := ∀ b o, b ≠ pl → h.get? b = some o → h'.get? b = some o
theorem strsAre_snoc {vs : List Value} {ys : List Str} (h : StrsAre vs ys) (y : Str) (t : Tok) : StrsAre (vs ++ [.str y t]) (ys ++ [y]) := by
  induction h with
  | nil => exact .cons y t .nil
  | cons z u _ ih => exact .cons z u ih
theorem wp_push {pl : Addr} {vs : List Value} {k : Nat} {v : Value} {Q : Unit → Shared → Prop} (hl : s.heap.get? pl = some (seqObj "list" vs.toArray k)) (hsz : vs.length ≤ 4000000)
    (h : ∀ h' k', h'.get? pl = some (seqObj "list" (vs ++ [v]).toArray k') → But pl s.heap h' → Q () { s with heap := h' }) : wpAny (model prog w) A (updateSeq pl (·.push v)) Q E s := by
  have e := get?_update_seq hl (·.push v)
  rw [List.push_toArray] at e
  refine wpAny_updateSeq hl rfl (h _ _ e ?_) ?_ ?_
  · intro b o hb e
    rw [Heap.get?_update_ne _ _ _ _ hb]; exact e
  · rw [List.size_toArray, sizeLine_eq]; lia
  · rw [Array.size_push, List.size_toArray, sizeLine_eq]; lia
theorem But.trans {pl : Addr} {h h' h'' : Heap} (a : But pl h h') (b : But pl h' h'') : But pl h h'' := fun x o hx e => b x o hx (a x o hx e)
noncomputable def emp : Str := ⟨#[]⟩
theorem sub_loop {code : Array Nat} {f : Array Nat → Nat → Option (Nat × Nat)} (S : Searches code f) (Fw : Forward f) {pa ca pl : Addr} (n1 : pa ≠ pl) (n2 : ca ≠ pl) {x r : Str} {t u : Tok} (hx : x.cps.size ≤ 1000000) (hr : r.length ≤ 2)
    {R : Result → Shared → Prop} :
    ∀ (fuel d : Nat) (n : Int) (vs : List Value) (ys : List Str) (k : Nat) (s : Shared), x.cps.size + 1 - d ≤ fuel → d ≤ x.cps.size → PatAt s.heap pa ca code → s.heap.get? pl = some (seqObj "list" vs.toArray k) → StrsAre vs ys →
      ys.length ≤ 2 * d → (ys.map (·.length)).sum ≤ 3 * d →
      (∀ h' tk t', But pl s.heap h' → R (.ok (.ret (.str (Txt.join emp (ys ++ subPieces f x.cps r fuel d)) t'))) { s with heap := h', toks := tk }) →
      codeAny (model prog w) A (.builtin "re.Pattern.sub.loop" ⟨[.ref pa, .str x t, .str r u, rawInt 0, rawInt 0, rawInt n, rawInt d, rawInt d, .bool false, .ref pl, .bool false], []⟩) R s
  | 0, d, n, vs, ys, k, s, hf, hd, P, hl, hys, hn, hsum, rt => by lia
  | fuel + 1, d, n, vs, ys, k, s, hf, hd, P, hl, hys, hn, hsum, rt => by
    refine codeAny_builtin entry_sub_loop ?_
    rw [Around.under_plainId plain_sub_loop]
    unfold Builtin.«re.Pattern.sub.loop»
    show wpAny _ _ (reWholeTarget (.ref pa) (.str x t) >>= fun r => _) _ _ s
    refine wpAny_bind (wp_target P ?_)
    refine wpAny_bind (wpAny_of_eq (a := ()) rfl ?_)
    refine wpAny_bind ?_
    have hd' : (d : Int).toNat = d := by lia
    show wpAny _ _ (reNextFound _ (d : Int).toNat false) _ _ s
    rw [hd']
    have hlen := hys.length
    refine wp_find S rfl rfl rfl hd hx (fun m a b hfab ha hb => ?_) (fun hfn => ?_)
    · obtain ⟨f1, f2, f3⟩ := Fw _ _ _ _ hd hfab
      dsimp only
      rw [ha, hb]
      have e0 : subPieces f x.cps r (fuel + 1) d = (if d < a then [⟨x.cps.extract d a⟩] else []) ++ r :: subPieces f x.cps r fuel b := by
        show (match f x.cps d with | some (a, b) => _ | none => _) = _
        have hfab' : f x.cps d = some (a, b) := hfab
        rw [hfab']
      rw [e0] at rt
      have go : ∀ (vs' : List Value) (ys' : List Str) (k' : Nat) (s' : Shared), s'.heap.get? pl = some (seqObj "list" vs'.toArray k') → StrsAre vs' ys' → ys'.length + 1 ≤ 2 * b → (ys'.map (·.length)).sum + 2 ≤ 3 * b → PatAt s'.heap pa ca code →
          (∀ h' tk t', But pl s'.heap h' → R (.ok (.ret (.str (Txt.join emp (ys' ++ r :: subPieces f x.cps r fuel b)) t'))) { s' with heap := h', toks := tk }) →
          wpAny (model prog w) A.in1 (do
            updateSeq pl (·.push (.str r u))
            again (.builtin "re.Pattern.sub.loop" ⟨[.ref pa, .str x t, .str r u, rawInt 0, rawInt 0, rawInt (n + 1), rawInt b, rawInt b, .bool (b == a), .ref pl, .bool false], []⟩))
            (fun fin s' => match fin with | .done f => R (.ok f) s' | .again c' => c'.quiet = true ∧ codeAny (model prog w) A c' R s') (fun e s' => R (.error e) s') s' := by
        intro vs' ys' k' s' hl' hys' hn' hs' P' rt'
        have hlen' := hys'.length
        refine wpAny_bind (wp_push hl' (by lia) fun h' k2 hl2 hb2 => ?_)
        have eb : (b == a) = false := by simp; lia
        rw [eb]
        refine wpAny_pure ⟨plainId_quiet plain_sub_loop _, ?_⟩
        refine sub_loop S Fw n1 n2 hx hr fuel b (n + 1) (vs' ++ [.str r u]) (ys' ++ [r]) k2 { s' with heap := h' } (by lia) f3 (P'.keeps fun c o hc e => hb2 c o (by rcases hc with rfl | rfl <;> assumption) e) hl2 (strsAre_snoc hys' r u) ?_ ?_ ?_
        · rw [List.length_append, List.length_singleton]; lia
        · rw [List.map_append, List.sum_append]
          simp only [List.map_cons, List.map_nil, List.sum_cons, List.sum_nil]
          lia
        · intro h3 tk3 t3 hb3
          have := rt' h3 tk3 t3 (hb2.trans hb3)
          rw [List.append_assoc]
          exact this
      by_cases hda : d < a
      · rw [if_pos hda] at rt ⊢
        refine wpAny_bind (wpAny_mkStr ?_ ?_)
        · refine wpAny_bind (wp_push hl (by lia) fun h' k2 hl2 hb2 => ?_)
          refine go (vs ++ [.str ⟨x.cps.extract d a⟩ s.toks]) (ys ++ [⟨x.cps.extract d a⟩]) k2 { s with heap := h', toks := s.toks + 1 } hl2 (strsAre_snoc hys _ _) ?_ ?_ (P.keeps fun c o hc e => hb2 c o (by rcases hc with rfl | rfl <;> assumption) e) ?_
          · rw [List.length_append, List.length_singleton]; lia
          · rw [List.map_append, List.sum_append]
            simp only [List.map_cons, List.map_nil, List.sum_cons, List.sum_nil]
            have : (Str.mk (x.cps.extract d a)).length = a - d := by simp [Str.length]; lia
            lia
          · intro h3 tk3 t3 hb3
            have := rt h3 tk3 t3 (hb2.trans hb3)
            rw [List.append_assoc]
            exact this
        · simp [Str.length, sizeLine]; lia
      · rw [if_neg hda] at rt ⊢
        refine go vs ys k s hl hys (by lia) (by lia) P ?_
        intro h3 tk3 t3 hb3
        exact rt h3 tk3 t3 hb3
    · have e0 : subPieces f x.cps r (fuel + 1) d = if d < x.cps.size then [⟨x.cps.extract d x.cps.size⟩] else [] := by
        show (match f x.cps d with | some (a, b) => _ | none => _) = _
        have hfn' : f x.cps d = none := hfn
        rw [hfn']
      rw [e0] at rt
      dsimp only
      have ej : Str.mk (x.cps.extract 0 0) = emp := by unfold emp; simp
      have fin : ∀ (vs' : List Value) (ys' : List Str) (k' : Nat) (s' : Shared), s'.heap.get? pl = some (seqObj "list" vs'.toArray k') → StrsAre vs' ys' → ys'.length ≤ 4000000 → (ys'.map (·.length)).sum ≤ 4000000 →
          (∀ h' tk t', But pl s'.heap h' → R (.ok (.ret (.str (Txt.join emp ys') t'))) { s' with heap := h', toks := tk }) →
          wpAny (model prog w) A.in1 (do
            let joiner ← reSlice x.cps 0 0 0
            let text ← if ((← seqItems? (.ref pl)).getD #[]).isEmpty then pure joiner else call (.builtin "str.join") [joiner, .ref pl]
            PySem.ret text)
            (fun fin s' => match fin with | .done f => R (.ok f) s' | .again c' => c'.quiet = true ∧ codeAny (model prog w) A c' R s') (fun e s' => R (.error e) s') s' := by
        intro vs' ys' k' s' hl' hys' hn' hs' rt'
        refine wpAny_bind (wpAny_mkStr ?_ (by simp [Str.length, sizeLine]))
        refine wpAny_bind (wpAny_seqItems hl' rfl ?_)
        rw [ej]
        dsimp only [Option.getD_some]
        by_cases he : vs'.toArray.isEmpty = true
        · rw [if_pos he]
          have : vs' = [] := by simpa using he
          subst this
          cases hys'
          exact wpAny_bind (wpAny_pure (wpAny_pure (rt' s'.heap (s'.toks + 1) s'.toks fun _ _ _ e => e)))
        · rw [if_neg he]
          refine wpAny_bind (join_list (ys := ys') ⟨_, hl', rfl, k', rfl⟩ (by simpa using hys') (by have : emp.length = 0 := rfl; rw [this]; lia) fun t' k3 => wpAny_pure ?_)
          exact rt' s'.heap k3 t' fun _ _ _ e => e
      by_cases hds : d < x.cps.size
      · rw [if_pos hds] at rt ⊢
        refine wpAny_bind (wpAny_mkStr ?_ ?_)
        · refine wpAny_bind (wp_push hl (by lia) fun h' k2 hl2 hb2 => ?_)
          refine fin (vs ++ [.str ⟨x.cps.extract d x.cps.size⟩ s.toks]) (ys ++ [⟨x.cps.extract d x.cps.size⟩]) k2 { s with heap := h', toks := s.toks + 1 } hl2 (strsAre_snoc hys _ _) ?_ ?_ ?_
          · rw [List.length_append, List.length_singleton]; lia
          · rw [List.map_append, List.sum_append]
            simp only [List.map_cons, List.map_nil, List.sum_cons, List.sum_nil]
            have : (Str.mk (x.cps.extract d x.cps.size)).length = x.cps.size - d := by simp [Str.length]
            lia
          · intro h3 tk3 t3 hb3
            exact rt h3 tk3 t3 (hb2.trans hb3)
        · simp [Str.length, sizeLine]; lia
      · rw [if_neg hds] at rt ⊢
        refine fin vs ys k s hl hys (by lia) (by lia) ?_
        rw [List.append_nil] at rt
        exact rt
end
end
section
variable {w : World} {mean : ExcName → Option Value} {mg mb : Str → Option Value} {news : List (Addr × Obj)}
open PySem.Sre PySem.Builtin.Re
noncomputable def subText (f : Array Nat → Nat → Option (Nat × Nat)) (x r : Str) : Str := Txt.join emp (subPieces f x.cps r (x.cps.size + 1) 0)
theorem slot_pat_sub : Slot "re.Pattern" (Str.ofString "sub") "re.Pattern.sub" :=
  .of (owner := "re.Pattern") (n := "sub") (by rw [typeLookup_type, builtinLookup_eq_fast]; kernel_rfl) (by decide +kernel) (by decide +kernel) (by decide +kernel)
    (by first | exact .inl (by decide +kernel) | exact .inr (by decide +kernel)) (by rw [isSubtype_type]; kernel_rfl)
theorem type_pat_sub : typeOf (.builtin "re.Pattern.sub") = pure (.type "method_descriptor") := by show builtinType _ = _; rw [builtinType_eq_fast]; kernel_rfl
theorem entry_pat_sub : entryFor table "re.Pattern.sub" = some Builtin.«re.Pattern.sub» := entryFor_of_tree (by kernel_rfl)
theorem plainAttrs_pat : PlainAttrs "re.Pattern" :=
  ⟨⟨"object.__getattribute__", by rw [typeLookup_type, builtinLookup_eq_fast]; kernel_rfl, by decide +kernel⟩, by rw [typeLookup_type, builtinLookup_eq_fast]; kernel_rfl⟩
theorem noCall_str : typeLookup (.type "str") (Str.ofString "__call__") = pure none := by rw [typeLookup_type, builtinLookup_eq_fast]; kernel_rfl
section
variable {prog : Program} {w : World} {A : Around} {E : Value → Shared → Prop} {s : Shared}
theorem gm_sub {M : Model} {pa ca : Addr} {code : Array Nat} {pl : Sem Bool} {Q : Value × List Value → Shared → Prop} (P : PatAt s.heap pa ca code) (h : Q (.builtin "re.Pattern.sub", [.ref pa]) s) : wpAny M A (getMethod (.ref pa) (Str.ofString "sub") pl) Q E s := by
  obtain ⟨⟨o, fs, h1, hc, hdi, _⟩, _⟩ := P
  have hT : s.TypeIs (.ref pa) "re.Pattern" := ⟨o, h1, hc⟩
  with_reducible exact getMethod_builtin hT plainAttrs_pat slot_pat_sub type_pat_sub (fun a e => by cases e; exact ⟨o, h1, hdi⟩) h
theorem args_pat_sub (a b c : Value) : argsOk "re.Pattern.sub" ⟨[a, b, c], []⟩ := by unfold argsOk; kernel_rfl
theorem sub_call {code : Array Nat} {f : Array Nat → Nat → Option (Nat × Nat)} (S : Searches code f) (Fw : Forward f) {pa ca : Addr} {x r : Str} {t u : Tok} {Q : Value → Shared → Prop} (P : PatAt s.heap pa ca code)
    (hx : x.length ≤ 1000000) (hr : r.length ≤ 2) (hr92 : r.cps.contains 92 = false)
    (h : ∀ h' tk t', (∀ b o, s.heap.get? b = some o → h'.get? b = some o) → Q (.str (subText f x r) t') { s with heap := h', toks := tk }) :
    wpAny (model prog w) A (call (.builtin "re.Pattern.sub") [.ref pa, .str r u, .str x t]) Q E s := by
  have P' := P
  obtain ⟨⟨o, fs, h1, hc, hdi, _⟩, ⟨o', xs, n, h2, _⟩⟩ := P'
  have hT : s.TypeIs (.ref pa) "re.Pattern" := ⟨o, h1, hc⟩
  refine wpAny_call (codeAny_call_builtin slot_pat_sub.plain entry_pat_sub (slot_pat_sub.check _ _ _ _ _ _ _ _ hT (args_pat_sub _ _ _) ?_))
  unfold Builtin.«re.Pattern.sub» reSubstitute
  try dsimp only
  refine wpAny_bind (wpAny_of_eq (a := [some (.str r u), some (.str x t), none]) (by kernel_rfl) ?_)
  try dsimp only
  refine wpAny_bind (wpAny_of_eq (a := (0 : Int)) rfl ?_)
  refine wpAny_bind (wpAny_of_eq (a := none) noCall_str ?_)
  dsimp only [Option.isSome_none]
  rw [if_neg (by decide)]
  refine wpAny_bind (wpAny_of_eq (a := some r) rfl ?_)
  try dsimp only
  refine wpAny_bind (wpAny_pure ?_)
  rw [if_neg (by decide), hr92]
  rw [if_pos (by decide)]
  refine wpAny_bind (wpAny_pure ?_)
  try dsimp only
  refine wpAny_bind (wpAny_holding (wp_target P ?_))
  rw [if_neg (by decide)]
  refine wpAny_bind (wpAny_newObj_type ?_ (by exact Nat.zero_le _))
  refine wpAny_pure ⟨plainId_quiet plain_sub_loop _, ?_⟩
  have hpa : pa ≠ s.heap.objs.size := Nat.ne_of_lt (Heap.lt_size h1)
  have hca : ca ≠ s.heap.objs.size := Nat.ne_of_lt (Heap.lt_size h2)
  have hx' : x.cps.size ≤ 1000000 := hx
  refine sub_loop S Fw hpa hca hx' hr (x.cps.size + 1) 0 0 [] [] 0 _ (by lia) (by lia) (P.keeps fun b o _ e => Heap.get?_push_of_some _ e) (Heap.get?_push_size _ rfl) .nil (by simp) (by simp) ?_
  intro h' tk t' hb
  refine h h' tk t' fun b o e => hb b o (Nat.ne_of_lt (Heap.lt_size e)) (Heap.get?_push_of_some _ e)
end
end
section
variable {w : World} {mean : ExcName → Option Value} {mg mb : Str → Option Value} {news : List (Addr × Obj)}
theorem anew_c6 : True := by
  w_top off
  trivial
local macro_rules | `(tactic| walk_at "call type:type") => `(tactic| ((with_reducible show wpAny _ _ (call _ [Value.bytes _ _]) _ _ _); refine call_type_of (Tx := "bytes") rfl (by decide +kernel) ?_))
local macro_rules | `(tactic| walk_at "getMethod str") => `(tactic| with_reducible refine gm_encode ?_)
local macro_rules | `(tactic| walk_at "getMethod bytes") => `(tactic| with_reducible refine gm_translate ?_)
local macro_rules | `(tactic| walk_at "call builtin:str.encode") => `(tactic| (refine encode_ascii (by assumption) (by first | assumption | lia) ?_; intro t9 k9))
local macro_rules | `(tactic| walk_at "getMethod type:bytes") => `(tactic| (k_here; refine' method_type ?F ?X ?m (by decide +kernel) ?e ?h ?_; (case F => k_asm); (case X => k_asm); (case m => kernel_rfl); (case e => k_dflt k_is); (case h => k_handed)))
local macro_rules | `(tactic| walk_at "call builtin:bytes.maketrans") => `(tactic| (refine maketrans_bytes (by rfl) ?_; intro t9 k9; (try dsimp only)))
local macro_rules | `(tactic| walk_at "call builtin:bytes.translate") => `(tactic| (refine translate_bytes (mkTab_size _ _) (by assumption) ?_; intro t9 k9; (try dsimp only)))
local macro_rules | `(tactic| walk_at "mine_start") => `(tactic| ((case kA => exact rfl); (case kF => exact rfl); (case kK => assumption); (case k1 => k_asm); (case k2 => k_asm); (case k3 => k_asm); (case k4 => k_asm); (case k5 => k_asm); (case k6 => k_is); (case k7 => k_is); (case k8 => ktr_room); (case k9 => first | exact BindsTo.of_eq rfl | exact binds_K (by k_in) rfl (by k_is) rfl rfl rfl); (case c5 => decide); (case kB => exact locs rfl); (case c2 => exact rfl); (case c3 => exact rfl); (case c4 => exact rfl); k_whole))
local macro_rules | `(tactic| walk_at "mine_use") => `(tactic| ((case k1 => k_asm); (case k2 => k_asm); (case k3 => k_asm); (case k4 => k_asm); (case k5 => k_asm); (case kK => first | exact rfl | assumption); (case kd => ktr_room); (case ku => ktr_units)))
local macro_rules | `(tactic| walk_at "mine_steps") => `(tactic| repeat' (first | (k_unfold; (try dsimp only)) | ((fail_if_success (with_reducible show wpAny _ _ (pyIter _) _ _ _)); (fail_if_success (with_reducible show InvEndN _ _ _ _ _ _ _)); (fail_if_success (with_reducible show KswEnd _ _ _ _ _ _ _ _ _ _ _ _)); (fail_if_success (with_reducible show wpAny _ _ (exec (Stmt.While _ _ _ _) _) _ _ _)); first | walk1 | (dsimp only; walk1)) | fail "no step"))
local macro_rules | `(tactic| k_all) => `(tactic| assumption)
local macro_rules | `(tactic| size_fits) => `(tactic| assumption)
local macro_rules | `(tactic| walk_at "mine_same") => `(tactic| (intro z h1 h2 h3; (simp only [List.forall_mem_cons, List.not_mem_nil, false_implies, implies_true, and_true, ne_eq] at h2); (simp only [List.contains_cons, List.contains_nil, Bool.or_false, Bool.or_eq_false_iff, beq_eq_false_iff_ne, ne_eq] at h3); first | rfl | (simp [h1, h2, h3]; done) | (simp [kstB, h1, h2, h3]; done)))
local macro_rules | `(tactic| walk_at "mine_dec") => `(tactic| first | (with_reducible assumption) | ((simp only [decide_eq_true_eq, decide_eq_false_iff_not, Bool.not_eq_true, ne_eq, beq_iff_eq, beq_eq_false_iff_ne, bne_iff_ne]); lia) | lia)
local macro_rules | `(tactic| walk_at "ite") => `(tactic| (k_here; first | (refine ite_neg (by walk_at "mine_dec") ?_) | (refine ite_pos (by walk_at "mine_dec") ?_)))
local macro_rules | `(tactic| walk_at "mine_same2") => `(tactic| (intro z h2 h3; (simp only [List.forall_mem_cons, List.not_mem_nil, false_implies, implies_true, and_true, ne_eq] at h2); (simp only [List.contains_cons, List.contains_nil, Bool.or_false, Bool.or_eq_false_iff, beq_eq_false_iff_ne, ne_eq] at h3); first | rfl | (simp [h2, h3]; done) | (simp [kstB, h2, h3]; done)))
local macro_rules | `(tactic| walk_at "exec For") => `(tactic| (k_here; (with_reducible show wpAny _ _ (exec (Stmt.For (Expr.Name _ _) _ _ [] _) _) _ _ _); (rename Fr _ _ _ _ => lF'); (with_unfolding_all refine' For_invVF lF' ?k1 ?k2 ?_; (case k1 => exact rfl); (case k2 => exact rfl); k_whole)))
local macro_rules | `(tactic| walk_at "mine_to_for") => `(tactic| repeat' (first | ((fail_if_success (with_reducible show wpAny _ _ (exec (Stmt.For _ _ _ _ _) _) _ _ _)); (fail_if_success (with_reducible show wpAny _ _ (pyIter _) _ _ _)); (fail_if_success (with_reducible show wpAny _ _ (binaryOp Operator.Pow _ _) _ _ _)); first | walk1 | (dsimp only; walk1)) | fail "no step"))
local macro_rules | `(tactic| walk_at "mine_to_tup") => `(tactic| repeat' (first | ((fail_if_success (with_reducible show wpAny _ _ (subscriptTail (Expr.Tuple _ _ _) _ _ _) _ _ _)); first | walk1 | (dsimp only; walk1)) | fail "no step"))
local macro_rules | `(tactic| walk_at "mine_stepsA") => `(tactic| repeat' (first | (k_unfold; (try dsimp only)) | ((fail_if_success (with_reducible show wpAny _ _ (pyIter _) _ _ _)); (fail_if_success (with_reducible show wpAny _ _ (call (Value.builtin "list.append") _ _) _ _ _)); (fail_if_success (with_reducible show wpAny _ _ (call (Value.ref 143) _ _) _ _ _)); (fail_if_success (with_reducible show wpAny _ _ (call (Value.ref 150) _ _) _ _ _)); (fail_if_success (with_reducible show wpAny _ _ (call (Value.builtin "sorted") _ _) _ _ _)); (fail_if_success (with_reducible show wpAny _ _ (compareOp CmpOp.Eq (Value.ref _) (Value.ref _)) _ _ _)); (fail_if_success (with_reducible show wpAny _ _ (exec (Stmt.For _ _ _ _ _) _) _ _ _)); first | walk1 | (dsimp only; walk1)) | fail "no step"))
theorem forward1 : Forward find1 := by
  intro text p a b hp h
  unfold find1 at h
  obtain ⟨s, hs, e⟩ := Option.map_eq_some_iff.mp h
  cases e
  obtain ⟨h1, h2, _⟩ := firstAt_spec hs
  lia
theorem forward2 : Forward find2 := by
  intro text p a b hp h
  unfold find2 at h
  obtain ⟨s, hs, e⟩ := Option.map_eq_some_iff.mp h
  obtain ⟨h1, h2, _⟩ := firstAt_spec hs
  rw [Prod.mk.injEq] at e
  obtain ⟨e1, e2⟩ := e
  subst e1
  by_cases hc : text.getD s 0 = 13 ∧ s + 1 < text.size ∧ text.getD (s + 1) 0 = 10
  · rw [if_pos hc] at e2; lia
  · rw [if_neg hc] at e2; lia
theorem pat1 {h : Heap} (X : (hd.heap_39 w.params).In h) : PatAt h 43 42 code1 :=
  ⟨⟨_, _, X 43 _ rfl, rfl, rfl, rfl, rfl, rfl, rfl⟩, _, _, _, X 42 _ rfl, rfl, by simp [code1, Builtin.Re.reRawOf]⟩
theorem pat2 {h : Heap} (X : (hd.heap_39 w.params).In h) : PatAt h 48 47 code2 :=
  ⟨⟨_, _, X 48 _ rfl, rfl, rfl, rfl, rfl, rfl, rfl⟩, _, _, _, X 47 _ rfl, rfl, by simp [code2, Builtin.Re.reRawOf]⟩
noncomputable def crlf : Str := Str.ofString "\x0d\n"
noncomputable def dots : Str := Str.ofString ".."
theorem sub1_K {h₀ : Heap} {L : Addr} {m : Str → Option Value} {A : Around} {E : Value → Shared → Prop} {s : Shared} {x : Str} {t u : Tok} {Q : Value → Shared → Prop} (F : Fr h₀ L s.heap m) (N : News h₀ L s.heap news) (X : (hd.heap_39 w.params).In h₀) (hx : x.length ≤ 1000000)
    (h : ∀ h' tk t', Fr h₀ L h' m → News h₀ L h' news → Q (.str (subText find1 x dots) t') { s with heap := h', toks := tk }) :
    wpAny (model PySem.Challenge.rw_op0032_01.row.prog w) A (call (.builtin "re.Pattern.sub") [.ref 43, .str (Str.ofString "..") u, .str x t]) Q E s :=
  sub_call searches1 forward1 (pat1 (X.keeps F.keep)) hx (by decide +kernel) (by decide +kernel) fun h' tk t' k => h h' tk t' (F.keptAll k) (N.grown k)
theorem sub2_K {h₀ : Heap} {L : Addr} {m : Str → Option Value} {A : Around} {E : Value → Shared → Prop} {s : Shared} {x : Str} {t u : Tok} {Q : Value → Shared → Prop} (F : Fr h₀ L s.heap m) (N : News h₀ L s.heap news) (X : (hd.heap_39 w.params).In h₀) (hx : x.length ≤ 1000000)
    (h : ∀ h' tk t', Fr h₀ L h' m → News h₀ L h' news → Q (.str (subText find2 x crlf) t') { s with heap := h', toks := tk }) :
    wpAny (model PySem.Challenge.rw_op0032_01.row.prog w) A (call (.builtin "re.Pattern.sub") [.ref 48, .str (Str.ofString "\x0d\n") u, .str x t]) Q E s :=
  sub_call searches2 forward2 (pat2 (X.keeps F.keep)) hx (by decide +kernel) (by decide +kernel) fun h' tk t' k => h h' tk t' (F.keptAll k) (N.grown k)
local macro_rules | `(tactic| walk_at "getMethod ref") => `(tactic| (k_here; (with_reducible show wpAny _ _ (getMethod (Value.ref 43) _ _) _ _ _); (rename Fr _ _ _ _ => kF); (with_reducible refine gm_sub (pat1 (Frag.In.keeps (by k_asm) (Fr.keep kF))) ?_)))
local macro_rules | `(tactic| walk_at "getMethod ref") => `(tactic| (k_here; (with_reducible show wpAny _ _ (getMethod (Value.ref 48) _ _) _ _ _); (rename Fr _ _ _ _ => kF); (with_reducible refine gm_sub (pat2 (Frag.In.keeps (by k_asm) (Fr.keep kF))) ?_)))
local macro_rules | `(tactic| walk_at "call builtin:re.Pattern.sub") => `(tactic| (k_here; (with_reducible show wpAny _ _ (call _ [Value.ref 43, _, _]) _ _ _); (refine sub1_K (by k_asm) (by k_asm) (by k_asm) (by assumption) ?_); intro h9 tk9 t9 F9 N9; (try dsimp only)))
local macro_rules | `(tactic| walk_at "call builtin:re.Pattern.sub") => `(tactic| (k_here; (with_reducible show wpAny _ _ (call _ [Value.ref 48, _, _]) _ _ _); (refine sub2_K (by k_asm) (by k_asm) (by k_asm) (by assumption) ?_); intro h9 tk9 t9 F9 N9; (try dsimp only)))
noncomputable def qd (x : Str) : Str := subText find1 (subText find2 x crlf) dots
theorem spec_quotedata (x : Str) (t : Tok) (hx : x.length ≤ 1000000) (hx2 : (subText find2 x crlf).length ≤ 1000000) :
    Con w mean mg mb 55 [.str x t] [] 1 20 news (fun v n => (∃ t, v = .str (qd x) t) ∧ n = news) := by
  unfold Con; k_fill; intro dp un gd cn cs a ccd cl outer A₀ base h₀ L m s Q E B F X N T hk hd hu ret
  refine wpAny_call ?_
  k_dflt (refine' code_def (binds := [(Str.ofString "data", .str x t)]) ?k1 ?k2 ?k3 ?k4 ?k5 ?kA ?kF ?kK ?k6 ?k7 ?k8 ?k9 ?kB ?_ ?c2 ?c3 ?c4 ?c5; walk_at "mine_start")
  intro g L' h' FG F' N' B' X' T'
  try dsimp only
  try k_fold
  walk_at "mine_steps"
  all_goals exact ret _ _ _ _ ⟨⟨_, rfl⟩, rfl⟩ (by k_asm) (by k_asm)
end
section
variable {w : World} {mean : ExcName → Option Value} {mg mb : Str → Option Value} {news : List (Addr × Obj)}
/-- an entry of the heap: the octets read, what was sent on either way, the text -/
structure Ent where
  a : Array UInt8
  b : Str
  c : Str
  d : Str
deriving DecidableEq
noncomputable def sLt (x y : Str) : Bool := decide (x.cps.toList < y.cps.toList)
noncomputable def bLt (x y : Array UInt8) : Bool := decide (x.toList < y.toList)
noncomputable def Ent.lt (e f : Ent) : Bool :=
  if e.a = f.a then if e.b = f.b then if e.c = f.c then if e.d = f.d then false else sLt e.d f.d else sLt e.c f.c else sLt e.b f.b else bLt e.a f.a
/-- the tuple that bears an entry -/
noncomputable def tupObj (e : Ent) (t1 t2 t3 t4 n : Nat) : Obj := { cls := .type "tuple", data := .seq #[.bytes e.a t1, .str e.b t2, .str e.c t3, .str e.d t4] n }
noncomputable def TupAt (h : Heap) (p : Addr) (e : Ent) : Prop := ∃ t1 t2 t3 t4 n, h.get? p = some (tupObj e t1 t2 t3 t4 n)
theorem TupAt.typeIs {s : Shared} {p : Addr} {e : Ent} (x : TupAt s.heap p e) : s.TypeIs (.ref p) "tuple" := by
  obtain ⟨t1, t2, t3, t4, n, h⟩ := x
  exact ⟨_, h, rfl⟩
theorem TupAt.inj {h : Heap} {p : Addr} {e f : Ent} (x : TupAt h p e) (y : TupAt h p f) : e = f := by
  obtain ⟨t1, t2, t3, t4, n, h1⟩ := x
  obtain ⟨u1, u2, u3, u4, m, h2⟩ := y
  rw [h1] at h2
  unfold tupObj at h2
  cases e; cases f
  simp_all
theorem order_lt : ∀ a b : List UInt8, (Builtin.Bytes.order a b == .lt) = decide (a < b)
  | [], [] => by decide
  | [], _ :: _ => by simp [Builtin.Bytes.order]
  | _ :: _, [] => by simp [Builtin.Bytes.order]
  | x :: a, y :: b => by
    simp only [Builtin.Bytes.order]
    have ih := order_lt a b
    by_cases h1 : x < y
    · simp [h1, List.cons_lt_cons_iff]
    · by_cases h2 : x > y
      · have : ¬ x = y := fun e => by subst e; exact absurd h2 (UInt8.lt_irrefl _)
        simp [h1, h2, List.cons_lt_cons_iff, this]
      · have : x = y := UInt8.le_antisymm (UInt8.not_lt.mp h2) (UInt8.not_lt.mp h1)
        subst this
        simp [h1, List.cons_lt_cons_iff, ih]
theorem slot_bytes_lt : Slot "bytes" (cmpInfo .Lt).2.1 "bytes.__lt__" :=
  .of (owner := "bytes") (n := "__lt__") (by rw [typeLookup_type, builtinLookup_eq_fast]; kernel_rfl) (by decide +kernel) (by decide +kernel) (by decide +kernel)
    (by first | exact .inl (by decide +kernel) | exact .inr (by decide +kernel)) (by rw [isSubtype_type]; kernel_rfl)
theorem entry_bytes_lt : entryFor table "bytes.__lt__" = some Builtin.«bytes.__lt__» := entryFor_of_tree (by kernel_rfl)
theorem args_bytes_lt (a b : Value) : argsOk "bytes.__lt__" ⟨[a, b], []⟩ := by
  unfold argsOk; rw [signature?_of (id := "bytes.__lt__") (n := ['_', '_', 't', 'l', '_', '_']) (o := ['s', 'e', 't', 'y', 'b']) (by kernel_rfl) FB.owner_bytes]; kernel_rfl
theorem gives_bytes_lt (b c : Array UInt8) (t u : Tok) : Gives (Builtin.«bytes.__lt__» ⟨[.bytes b t, .bytes c u], []⟩) (.val (.bool (bLt b c))) := by
  refine .of_wp fun M A E s Q hq => ?_
  show wpAny M A (isInstance (.bytes c u) (.type "bytes") >>= fun r => _) _ E s
  refine wpAny_bind (wpAny_isInstance (typeIs_bytes s c u) F.sub_bytes_bytes ?_)
  exact wpAny_pure ⟨_, rfl, by unfold bLt at hq; rw [← order_lt] at hq; exact hq⟩
section
variable {prog : Program} {w : World} {A : Around} {E : Value → Shared → Prop} {s : Shared}
theorem lt_bytes {b c : Array UInt8} {t u : Tok} {Q : Value → Shared → Prop} (h : Q (.bool (bLt b c)) s) : wpAny (model prog w) A (richCompare .Lt (.bytes b t) (.bytes c u)) Q E s :=
  compareOp_gives (op := .Lt) (typeIs_bytes s b t) (typeIs_bytes s c u) slot_bytes_lt entry_bytes_lt (args_bytes_lt _ _) (gives_bytes_lt b c t u) (fun e => nomatch e) h
theorem lt_strR {x y : Str} {t u : Tok} {Q : Value → Shared → Prop} (h : Q (.bool (sLt x y)) s) : wpAny (model prog w) A (richCompare .Lt (.str x t) (.str y u)) Q E s :=
  PyProof.Rows.lt_str h
theorem tuple_lt_tree {p q : Addr} {e f : Ent} {P : PySem.Fin → Shared → Prop} (hp : TupAt s.heap p e) (hq : TupAt s.heap q f) (h : P (.done (.ret (.bool (e.lt f)))) s) :
    wpAny (model prog w) A (Builtin.«tuple.__lt__» ⟨[.ref p, .ref q], []⟩) P E s := by
  have hT := hq.typeIs
  obtain ⟨t1, t2, t3, t4, n, h1⟩ := hp
  obtain ⟨u1, u2, u3, u4, m, h2⟩ := hq
  show wpAny _ _ (isInstance (.ref q) (.type "tuple") >>= fun r => _) _ _ s
  refine wpAny_bind (wpAny_isInstance hT isSubtype_tuple_tuple ?_)
  show wpAny _ _ (Builtin.Tuple.tupleItemsOf (.ref p) >>= fun r => _) _ _ s
  refine wpAny_bind (wpAny_bind (wpAny_seqItems h1 rfl (wpAny_pure ?_)))
  refine wpAny_bind (wpAny_bind (wpAny_seqItems h2 rfl (wpAny_pure ?_)))
  refine wpAny_bind ?_
  show wpAny _ _ (forIn [(Value.bytes e.a t1, Value.bytes f.a u1), (Value.str e.b t2, Value.str f.b u2), (Value.str e.c t3, Value.str f.c u3), (Value.str e.d t4, Value.str f.d u4)] _ _) _ _ _
  have hbeq : ∀ x y : Str, (x == y) = decide (x = y) := by intro x y; by_cases h : x = y <;> simp [h]
  unfold Ent.lt at h
  rw [List.forIn_cons]
  refine wpAny_bind (wpAny_bind (eqBool_bytes ?_))
  by_cases ha : e.a = f.a
  · rw [if_pos ha] at h
    have : decide (e.a.toList = f.a.toList) = true := by rw [ha]; simp
    rw [this]
    refine wpAny_pure ?_
    dsimp only
    rw [List.forIn_cons]
    refine wpAny_bind (wpAny_bind (eqBool_str ?_))
    rw [hbeq]
    by_cases hb : e.b = f.b
    · rw [if_pos hb] at h
      rw [decide_eq_true hb]
      refine wpAny_pure ?_
      dsimp only
      rw [List.forIn_cons]
      refine wpAny_bind (wpAny_bind (eqBool_str ?_))
      rw [hbeq]
      by_cases hc : e.c = f.c
      · rw [if_pos hc] at h
        rw [decide_eq_true hc]
        refine wpAny_pure ?_
        dsimp only
        rw [List.forIn_cons]
        refine wpAny_bind (wpAny_bind (eqBool_str ?_))
        rw [hbeq]
        by_cases hd : e.d = f.d
        · rw [if_pos hd] at h
          rw [decide_eq_true hd]
          refine wpAny_pure ?_
          dsimp only
          rw [List.forIn_nil]
          exact wpAny_pure (wpAny_pure h)
        · rw [if_neg hd] at h
          rw [decide_eq_false hd]
          exact wpAny_bind (wpAny_rule (wpAny_bind (lt_strR (wpAny_bind (wpAny_pure (wpAny_pure (wpAny_pure (wpAny_pure h))))))))
      · rw [if_neg hc] at h
        rw [decide_eq_false hc]
        exact wpAny_bind (wpAny_rule (wpAny_bind (lt_strR (wpAny_bind (wpAny_pure (wpAny_pure (wpAny_pure (wpAny_pure h))))))))
    · rw [if_neg hb] at h
      rw [decide_eq_false hb]
      exact wpAny_bind (wpAny_rule (wpAny_bind (lt_strR (wpAny_bind (wpAny_pure (wpAny_pure (wpAny_pure (wpAny_pure h))))))))
  · rw [if_neg ha] at h
    have : decide (e.a.toList = f.a.toList) = false := decide_eq_false fun q => ha (Array.toList_inj.mp q)
    rw [this]
    exact wpAny_bind (wpAny_rule (wpAny_bind (lt_bytes (wpAny_bind (wpAny_pure (wpAny_pure (wpAny_pure (wpAny_pure h))))))))
theorem tup_lt {p q : Addr} {e f : Ent} {Q : Value → Shared → Prop} (hu : A.units < cLine) (hp : TupAt s.heap p e) (hq : TupAt s.heap q f) (h : Q (.bool (e.lt f)) s) : wpAny (model prog w) A (compareOp .Lt (.ref p) (.ref q)) Q E s := by
  show wpAny _ _ (richCompare .Lt (.ref p) (.ref q)) Q E s
  exact wpAny_richCompare_same_room (op := .Lt) hp.typeIs hq.typeIs F.slot_tuple_lt
    (wpAny_call_entry F.slot_tuple_lt hp.typeIs F.entry_tuple_lt (tuple_lt_tree hp hq ⟨_, rfl, (fun e => nomatch e), h⟩) (F.args_tuple_lt_2 _ _)) hu
theorem tuple_eq_tree' {p q : Addr} {e f : Ent} {P : PySem.Fin → Shared → Prop} (hp : TupAt s.heap p e) (hq : TupAt s.heap q f) (h : P (.done (.ret (.bool (decide (e = f))))) s) :
    wpAny (model prog w) A (Builtin.«tuple.__eq__» ⟨[.ref p, .ref q], []⟩) P E s := by
  have hT := hq.typeIs
  obtain ⟨t1, t2, t3, t4, n, h1⟩ := hp
  obtain ⟨u1, u2, u3, u4, m, h2⟩ := hq
  show wpAny _ _ (isInstance (.ref q) (.type "tuple") >>= fun r => _) _ _ s
  refine wpAny_bind (wpAny_isInstance hT isSubtype_tuple_tuple ?_)
  show wpAny _ _ (Builtin.Tuple.tupleItemsOf (.ref p) >>= fun r => _) _ _ s
  refine wpAny_bind (wpAny_bind (wpAny_seqItems h1 rfl (wpAny_pure ?_)))
  refine wpAny_bind (wpAny_bind (wpAny_seqItems h2 rfl (wpAny_pure ?_)))
  refine wpAny_bind ?_
  show wpAny _ _ (forIn [(Value.bytes e.a t1, Value.bytes f.a u1), (Value.str e.b t2, Value.str f.b u2), (Value.str e.c t3, Value.str f.c u3), (Value.str e.d t4, Value.str f.d u4)] _ _) _ _ _
  have hbeq : ∀ x y : Str, (x == y) = decide (x = y) := by intro x y; by_cases h : x = y <;> simp [h]
  obtain ⟨ea, eb, ec, ed⟩ := e
  obtain ⟨fa, fb, fc, fd⟩ := f
  dsimp only at *
  rw [List.forIn_cons]
  refine wpAny_bind (wpAny_bind (eqBool_bytes ?_))
  by_cases ha : ea = fa
  · have : decide (ea.toList = fa.toList) = true := by rw [ha]; simp
    rw [this]
    refine wpAny_pure ?_
    dsimp only
    rw [List.forIn_cons]
    refine wpAny_bind (wpAny_bind (eqBool_str ?_))
    rw [hbeq]
    by_cases hb : eb = fb
    · rw [decide_eq_true hb]
      refine wpAny_pure ?_
      dsimp only
      rw [List.forIn_cons]
      refine wpAny_bind (wpAny_bind (eqBool_str ?_))
      rw [hbeq]
      by_cases hc : ec = fc
      · rw [decide_eq_true hc]
        refine wpAny_pure ?_
        dsimp only
        rw [List.forIn_cons]
        refine wpAny_bind (wpAny_bind (eqBool_str ?_))
        rw [hbeq]
        by_cases hd : ed = fd
        · rw [decide_eq_true hd]
          refine wpAny_pure ?_
          dsimp only
          rw [List.forIn_nil]
          rw [decide_eq_true (by subst ha hb hc hd; rfl)] at h
          exact wpAny_pure (wpAny_pure h)
        · rw [decide_eq_false hd]
          rw [decide_eq_false (by intro q; injection q; contradiction)] at h
          exact wpAny_bind (wpAny_pure (wpAny_pure (wpAny_pure (wpAny_pure h))))
      · rw [decide_eq_false hc]
        rw [decide_eq_false (by intro q; injection q; contradiction)] at h
        exact wpAny_bind (wpAny_pure (wpAny_pure (wpAny_pure (wpAny_pure h))))
    · rw [decide_eq_false hb]
      rw [decide_eq_false (by intro q; injection q; contradiction)] at h
      exact wpAny_bind (wpAny_pure (wpAny_pure (wpAny_pure (wpAny_pure h))))
  · have : decide (ea.toList = fa.toList) = false := decide_eq_false fun q => ha (Array.toList_inj.mp q)
    rw [this]
    rw [decide_eq_false (by intro q; injection q; contradiction)] at h
    exact wpAny_bind (wpAny_pure (wpAny_pure (wpAny_pure (wpAny_pure h))))
theorem tup_eqBool {p q : Addr} {e f : Ent} {Q : Bool → Shared → Prop} (hu : A.units < cLine) (hp : TupAt s.heap p e) (hq : TupAt s.heap q f) (h : Q (decide (e = f)) s) : wpAny (model prog w) A (eqBool (.ref p) (.ref q)) Q E s := by
  unfold eqBool
  try with_reducible refine wpAny_holding ?_
  show wpAny _ _ (if (Value.ref p == Value.ref q) = true then _ else _) Q E s
  by_cases hab : (Value.ref p == Value.ref q) = true
  · rw [if_pos hab]
    have e' : p = q := by have := eq_of_beq hab; injection this
    subst e'
    obtain rfl := hp.inj hq
    exact wpAny_bind (wpAny_rule (wpAny_pure (by simpa using h)))
  · rw [if_neg hab]
    exact wpAny_bind (wpAny_richCompare_same_room (op := .Eq) hp.typeIs hq.typeIs F.slot_tuple_eq
      (wpAny_call_entry F.slot_tuple_eq hp.typeIs F.entry_tuple_eq (tuple_eq_tree' hp hq ⟨_, rfl, (fun e => nomatch e), wpAny_truthy_bool h⟩) (F.args_tuple_eq_2 _ _)) hu)
end
end
section
variable {w : World} {mean : ExcName → Option Value} {mg mb : Str → Option Value} {news : List (Addr × Obj)}
noncomputable def EntIn (rest : List (Addr × Obj)) (v : Value) (e : Ent) : Prop := ∃ p t1 t2 t3 t4 n, v = .ref p ∧ (p, tupObj e t1 t2 t3 t4 n) ∈ rest
noncomputable def Ents (rest : List (Addr × Obj)) (vs : List Value) (es : List Ent) : Prop := vs.length = es.length ∧ ∀ (i : Nat) (e : Ent), es[i]? = some e → ∃ v, vs[i]? = some v ∧ EntIn rest v e
theorem EntIn.mono {r r' : List (Addr × Obj)} {v : Value} {e : Ent} (h : EntIn r v e) (hs : ∀ p ∈ r, p ∈ r') : EntIn r' v e := by
  obtain ⟨p, t1, t2, t3, t4, n, e1, e2⟩ := h
  exact ⟨p, t1, t2, t3, t4, n, e1, hs _ e2⟩
theorem Ents.mono {r r' : List (Addr × Obj)} {vs : List Value} {es : List Ent} (h : Ents r vs es) (hs : ∀ p ∈ r, p ∈ r') : Ents r' vs es :=
  ⟨h.1, fun i e hi => let ⟨v, a, b⟩ := h.2 i e hi; ⟨v, a, b.mono hs⟩⟩
theorem Ents.nil {r : List (Addr × Obj)} : Ents r [] [] := ⟨rfl, fun _ _ h => by simp at h⟩
theorem Ents.set {r : List (Addr × Obj)} {vs : List Value} {es : List Ent} {v : Value} {e : Ent} (h : Ents r vs es) (hv : EntIn r v e) (j : Nat) : Ents r (vs.set j v) (es.set j e) := by
  refine ⟨by simp [h.1], fun i f hi => ?_⟩
  have hl := h.1
  rw [List.getElem?_set] at hi
  rw [List.getElem?_set]
  by_cases hij : j = i
  · subst hij
    rw [if_pos rfl] at hi
    rw [if_pos rfl]
    by_cases hj : j < es.length
    · rw [if_pos hj] at hi
      rw [if_pos (by lia)]
      cases hi
      exact ⟨v, rfl, hv⟩
    · rw [if_neg hj] at hi
      cases hi
  · rw [if_neg hij] at hi
    rw [if_neg hij]
    exact h.2 i f hi
theorem Ents.get {r : List (Addr × Obj)} {vs : List Value} {es : List Ent} (h : Ents r vs es) {i : Nat} {v : Value} (hv : vs[i]? = some v) : ∃ e, es[i]? = some e ∧ EntIn r v e := by
  have hi : i < es.length := by
    have := (List.getElem?_eq_some_iff.mp hv).1
    rw [← h.1]; exact this
  obtain ⟨v', h1, h2⟩ := h.2 i es[i] (List.getElem?_eq_getElem hi)
  rw [hv] at h1
  cases h1
  exact ⟨_, List.getElem?_eq_getElem hi, h2⟩
theorem Ents.snoc {r : List (Addr × Obj)} {vs : List Value} {es : List Ent} {v : Value} {e : Ent} (h : Ents r vs es) (hv : EntIn r v e) : Ents r (vs ++ [v]) (es ++ [e]) := by
  refine ⟨by simp [h.1], fun i f hi => ?_⟩
  have hl := h.1
  rw [List.getElem?_append] at hi
  rw [List.getElem?_append]
  by_cases hi' : i < es.length
  · rw [if_pos hi'] at hi
    rw [if_pos (by lia)]
    exact h.2 i f hi
  · rw [if_neg hi'] at hi
    rw [if_neg (by lia)]
    have : i - es.length = 0 := by
      rcases Nat.eq_zero_or_pos (i - es.length) with h0 | h0
      · exact h0
      · rw [List.getElem?_eq_none (by simp; lia)] at hi
        cases hi
    rw [this] at hi
    have e2 : i - vs.length = 0 := by lia
    rw [e2]
    cases hi
    exact ⟨v, rfl, hv⟩
theorem EntIn.at {h₀ h : Heap} {L : Addr} {news rest : List (Addr × Obj)} {p : Addr} {e : Ent} (N : News h₀ L h news) (hs : ∀ q ∈ rest, q ∈ news) (x : EntIn rest (.ref p) e) : TupAt h p e := by
  obtain ⟨p', t1, t2, t3, t4, n, e1, e2⟩ := x
  cases e1
  exact ⟨t1, t2, t3, t4, n, (N _ (hs _ e2)).1⟩
theorem EntIn.ref {rest : List (Addr × Obj)} {v : Value} {e : Ent} (x : EntIn rest v e) : ∃ p, v = .ref p := let ⟨p, _, _, _, _, _, e1, _⟩ := x; ⟨p, e1⟩
section
variable {prog : Program} {w : World} {A : Around} {E : Value → Shared → Prop} {s : Shared} {h₀ : Heap} {L D : Addr} {m : Str → Option Value} {rest : List (Addr × Obj)} {vs : List Value} {n : Nat} {k : Int} {t u : Tok} {v : Value}
theorem hset {Q : Unit → Shared → Prop} (F : Fr h₀ L s.heap m) (N : News h₀ L s.heap ((D, W.listOf vs.toArray n) :: rest)) (hne : ∀ p ∈ rest, p.1 ≠ D) (h0 : 0 ≤ k) (h1 : k < (vs.length : Int)) (hfit : k < 2 ^ 63)
    (h : ∀ h', Fr h₀ L h' m → News h₀ L h' ((D, W.listOf (vs.set k.toNat v).toArray n) :: rest) → Q () { s with heap := h' }) : wpAny (model prog w) A (setItem (.ref D) (.int k t) v) Q E s := by
  have z := N _ (.head _)
  have hs : vs.toArray.size = vs.length := List.size_toArray
  refine ki_setAt z.1 h0 hfit (by lia) (h _ (F.change (Heap.SameBut.update ..) z.2.1 z.2.2) (ki_turn (pre := []) _ N (fun _ h => nomatch h) hne ?_ ?_))
  · show vs.toArray.setIfInBounds k.toNat v = (vs.set k.toNat v).toArray
    apply Array.toList_inj.mp
    simp
  · simp
theorem hget {value slice : PySem.Expr} {Q : Value → Shared → Prop} (N : News h₀ L s.heap ((D, W.listOf vs.toArray n) :: rest)) (h0 : 0 ≤ k) (hfit : k < 2 ^ 63) (hx : vs[k.toNat]? = some v) (h : Q v s)
    (hs : subscripted slice false (.ref D) (.int k u) = operate [.ref D, .int k u] (getItem (.ref D) (.int k u)) := by with_unfolding_all rfl) :
    wpAny (model prog w) A (subscriptTail value slice (.ref D) (.int k u)) Q E s :=
  have hl : s.heap.IsList D vs.toArray := ⟨_, (N _ (.head _)).1, rfl, n, rfl⟩
  tail_any hl.typeIs slot_list_getitem.lookup (wpAny_getItem_list hl h0 hfit (by simpa using hx) h) hs
theorem hlt {p q : Addr} {e f : Ent} {Q : Value → Shared → Prop} {news tp : List (Addr × Obj)} (hu : A.units < cLine) (N : News h₀ L s.heap ((D, W.listOf vs.toArray n) :: rest)) (hs : ∀ q ∈ tp, q ∈ rest) (hp : EntIn tp (.ref p) e) (hq : EntIn tp (.ref q) f) (h : Q (.bool (e.lt f)) s) :
    wpAny (model prog w) A (compareOp .Lt (.ref p) (.ref q)) Q E s := tup_lt hu (hp.at N fun _ h => .tail _ (hs _ h)) (hq.at N fun _ h => .tail _ (hs _ h)) h
end
section
variable {prog : Program} {w : World} {A : Around} {E : Value → Shared → Prop} {s : Shared} {h₀ : Heap} {L D : Addr} {m : Str → Option Value} {rest : List (Addr × Obj)} {vs : List Value} {n : Nat} {v : Value}
theorem happend {Q : Value → Shared → Prop} (F : Fr h₀ L s.heap m) (N : News h₀ L s.heap ((D, W.listOf vs.toArray n) :: rest)) (hne : ∀ p ∈ rest, p.1 ≠ D) (hsz : vs.length ≤ 100000)
    (h : ∀ h', Fr h₀ L h' m → News h₀ L h' ((D, W.listOf (vs ++ [v]).toArray (n + 1)) :: rest) → Q .none { s with heap := h' }) : wpAny (model prog w) A (call (.builtin "list.append") [.ref D, v]) Q E s :=
  append_K F N (Upd.head hne) (fun h' F' N' => h h' F' (by rw [List.push_toArray] at N'; exact N')) (by rw [List.size_toArray, sizeLine_eq]; lia)
theorem hlen {Q : Value → Shared → Prop} (N : News h₀ L s.heap ((D, W.listOf vs.toArray n) :: rest)) (hsz : vs.length ≤ 100000) (h : ∀ t k, Q (.int (vs.length : Int) t) { s with toks := k }) :
    wpAny (model prog w) A (call (.builtin "len") [.ref D]) Q E s :=
  kst_len N (.head _) rfl (by lia) (h _ _)
theorem htrue {Q : Bool → Shared → Prop} (N : News h₀ L s.heap ((D, W.listOf vs.toArray n) :: rest)) (hsz : vs.length ≤ 100000) (h : ∀ k, Q (!vs.isEmpty) { s with toks := k }) : wpAny (model prog w) A (truthy (.ref D)) Q E s := by
  refine wpAny_truthy_list (items := vs.toArray) ⟨_, (N _ (.head _)).1, rfl, n, rfl⟩ (by rw [List.size_toArray]; lia) ?_
  have : vs.toArray.isEmpty = vs.isEmpty := by simp
  rw [this]; exact h _
theorem hextend {b : Addr} {us : List Value} {k : Nat} {Q : Value → Shared → Prop} (F : Fr h₀ L s.heap m) (N : News h₀ L s.heap ((b, W.listOf us.toArray k) :: (D, W.listOf vs.toArray n) :: rest)) (hbD : b ≠ D) (hne : ∀ p ∈ rest, p.1 ≠ D) (hu : us.length ≠ 0) (hsz : vs.length + us.length ≤ 100000)
    (h : ∀ h', Fr h₀ L h' m → News h₀ L h' ((b, W.listOf us.toArray k) :: (D, W.listOf (vs ++ us).toArray (n + 1)) :: rest) → Q .none { s with heap := h' }) : wpAny (model prog w) A (call (.builtin "list.extend") [.ref D, .ref b]) Q E s := by
  refine kl_extend (its := vs.toArray) (its2 := us.toArray) F N (.head _) rfl (by simpa using hu) (Upd.tail hbD (Upd.head hne)) ?_ ?_ ?_ h
  · simp [Builtin.List.listTooLong, sizeLine]; lia
  · rw [sizeLine_eq]; simp; lia
  · rw [sizeLine_eq]; simp; lia
theorem last_snoc : ∀ (vs : List Value) (v : Value), kl_last (vs ++ [v]) = some (vs, v)
  | [], v => rfl
  | x :: vs, v => by
    have ih := last_snoc vs v
    show kl_last (x :: (vs ++ [v])) = _
    unfold kl_last
    rw [ih]
theorem hpop {Q : Value → Shared → Prop} (F : Fr h₀ L s.heap m) (N : News h₀ L s.heap ((D, W.listOf (vs ++ [v]).toArray n) :: rest)) (hne : ∀ p ∈ rest, p.1 ≠ D) (hsz : vs.length ≤ 100000)
    (h : ∀ h', Fr h₀ L h' m → News h₀ L h' ((D, W.listOf vs.toArray (n + 1)) :: rest) → Q v { s with heap := h' }) : wpAny (model prog w) A (call (.builtin "list.pop") [.ref D]) Q E s :=
  kl_pop F N (last_snoc vs v) (Upd.head hne) (by rw [sizeLine_eq]; simp; lia) h
end
/-- _siftdown(heap, 0, p), plain: x climbs from place p -/
noncomputable def sdGo (x : Ent) : Nat → List Ent → Nat → List Ent
  | 0, l, p => l.set p x
  | f + 1, l, p => if p = 0 then l.set p x else
    match l[(p - 1) / 2]? with
    | some y => if x.lt y then sdGo x f (l.set p y) ((p - 1) / 2) else l.set p x
    | none => l.set p x
theorem sdGo_length (x : Ent) : ∀ (f : Nat) (l : List Ent) (p : Nat), (sdGo x f l p).length = l.length
  | 0, l, p => by simp [sdGo]
  | f + 1, l, p => by
    unfold sdGo
    split
    · simp
    · split
      · split
        · rw [sdGo_length]; simp
        · simp
      · simp
theorem sdGo_fuel (x : Ent) : ∀ (f : Nat) (l : List Ent) (p : Nat), p ≤ f → sdGo x f l p = sdGo x p l p
  | 0, l, p, h => by
    have : p = 0 := by lia
    subst this; rfl
  | f + 1, l, p, h => by
    by_cases hp : p = 0
    · subst hp
      show (if 0 = 0 then l.set 0 x else _) = l.set 0 x
      rw [if_pos rfl]
    · obtain ⟨k, rfl⟩ : ∃ k, p = k + 1 := ⟨p - 1, by lia⟩
      show (if k + 1 = 0 then _ else (match l[(k + 1 - 1) / 2]? with | some y => if x.lt y then sdGo x f (l.set (k + 1) y) ((k + 1 - 1) / 2) else _ | none => _)) =
        (if k + 1 = 0 then _ else (match l[(k + 1 - 1) / 2]? with | some y => if x.lt y then sdGo x k (l.set (k + 1) y) ((k + 1 - 1) / 2) else _ | none => _))
      rw [if_neg (by lia), if_neg (by lia)]
      cases l[(k + 1 - 1) / 2]? with
      | none => rfl
      | some y =>
        dsimp only
        rw [sdGo_fuel x f _ _ (by lia), sdGo_fuel x k _ _ (by lia)]
/-- _siftup(heap, 0), plain: the hole at p sinks to a leaf, then x climbs -/
noncomputable def suGo (x : Ent) : Nat → List Ent → Nat → List Ent
  | 0, l, p => sdGo x p (l.set p x) p
  | f + 1, l, p => match l[2 * p + 1]?, l[2 * p + 2]? with
    | some y, some z => if y.lt z then suGo x f (l.set p y) (2 * p + 1) else suGo x f (l.set p z) (2 * p + 2)
    | some y, none => suGo x f (l.set p y) (2 * p + 1)
    | none, _ => sdGo x p (l.set p x) p
theorem suGo_length (x : Ent) : ∀ (f : Nat) (l : List Ent) (p : Nat), (suGo x f l p).length = l.length
  | 0, l, p => by unfold suGo; rw [sdGo_length]; simp
  | f + 1, l, p => by
    unfold suGo
    split
    · split <;> (rw [suGo_length]; simp)
    · rw [suGo_length]; simp
    · rw [sdGo_length]; simp
end
section
variable {w : World} {mean : ExcName → Option Value} {mg mb : Str → Option Value} {news : List (Addr × Obj)}
theorem anew_c7 : True := by
  w_top off
  trivial
local macro_rules | `(tactic| walk_at "call type:type") => `(tactic| ((with_reducible show wpAny _ _ (call _ [Value.bytes _ _]) _ _ _); refine call_type_of (Tx := "bytes") rfl (by decide +kernel) ?_))
local macro_rules | `(tactic| walk_at "getMethod str") => `(tactic| with_reducible refine gm_encode ?_)
local macro_rules | `(tactic| walk_at "getMethod bytes") => `(tactic| with_reducible refine gm_translate ?_)
local macro_rules | `(tactic| walk_at "call builtin:str.encode") => `(tactic| (refine encode_ascii (by assumption) (by first | assumption | lia) ?_; intro t9 k9))
local macro_rules | `(tactic| walk_at "getMethod type:bytes") => `(tactic| (k_here; refine' method_type ?F ?X ?m (by decide +kernel) ?e ?h ?_; (case F => k_asm); (case X => k_asm); (case m => kernel_rfl); (case e => k_dflt k_is); (case h => k_handed)))
local macro_rules | `(tactic| walk_at "call builtin:bytes.maketrans") => `(tactic| (refine maketrans_bytes (by rfl) ?_; intro t9 k9; (try dsimp only)))
local macro_rules | `(tactic| walk_at "call builtin:bytes.translate") => `(tactic| (refine translate_bytes (mkTab_size _ _) (by assumption) ?_; intro t9 k9; (try dsimp only)))
local macro_rules | `(tactic| walk_at "mine_start") => `(tactic| ((case kA => exact rfl); (case kF => exact rfl); (case kK => assumption); (case k1 => k_asm); (case k2 => k_asm); (case k3 => k_asm); (case k4 => k_asm); (case k5 => k_asm); (case k6 => k_is); (case k7 => k_is); (case k8 => ktr_room); (case k9 => first | exact BindsTo.of_eq rfl | exact binds_K (by k_in) rfl (by k_is) rfl rfl rfl); (case c5 => decide); (case kB => exact locs rfl); (case c2 => exact rfl); (case c3 => exact rfl); (case c4 => exact rfl); k_whole))
local macro_rules | `(tactic| walk_at "mine_use") => `(tactic| ((case k1 => k_asm); (case k2 => k_asm); (case k3 => k_asm); (case k4 => k_asm); (case k5 => k_asm); (case kK => first | exact rfl | assumption); (case kd => ktr_room); (case ku => ktr_units)))
local macro_rules | `(tactic| walk_at "mine_steps") => `(tactic| repeat' (first | (k_unfold; (try dsimp only)) | ((fail_if_success (with_reducible show wpAny _ _ (pyIter _) _ _ _)); (fail_if_success (with_reducible show InvEndN _ _ _ _ _ _ _)); (fail_if_success (with_reducible show KswEnd _ _ _ _ _ _ _ _ _ _ _ _)); (fail_if_success (with_reducible show wpAny _ _ (exec (Stmt.While _ _ _ _) _) _ _ _)); first | walk1 | (dsimp only; walk1)) | fail "no step"))
local macro_rules | `(tactic| k_all) => `(tactic| assumption)
local macro_rules | `(tactic| size_fits) => `(tactic| assumption)
local macro_rules | `(tactic| walk_at "mine_same") => `(tactic| (intro z h1 h2 h3; (simp only [List.forall_mem_cons, List.not_mem_nil, false_implies, implies_true, and_true, ne_eq] at h2); (simp only [List.contains_cons, List.contains_nil, Bool.or_false, Bool.or_eq_false_iff, beq_eq_false_iff_ne, ne_eq] at h3); first | rfl | (simp [h1, h2, h3]; done) | (simp [kstB, h1, h2, h3]; done)))
local macro_rules | `(tactic| walk_at "mine_dec") => `(tactic| first | (with_reducible assumption) | ((simp only [decide_eq_true_eq, decide_eq_false_iff_not, Bool.not_eq_true, ne_eq, beq_iff_eq, beq_eq_false_iff_ne, bne_iff_ne]); lia) | lia)
local macro_rules | `(tactic| walk_at "ite") => `(tactic| (k_here; first | (refine ite_neg (by walk_at "mine_dec") ?_) | (refine ite_pos (by walk_at "mine_dec") ?_)))
local macro_rules | `(tactic| walk_at "mine_same2") => `(tactic| (intro z h2 h3; (simp only [List.forall_mem_cons, List.not_mem_nil, false_implies, implies_true, and_true, ne_eq] at h2); (simp only [List.contains_cons, List.contains_nil, Bool.or_false, Bool.or_eq_false_iff, beq_eq_false_iff_ne, ne_eq] at h3); first | rfl | (simp [h2, h3]; done) | (simp [kstB, h2, h3]; done)))
local macro_rules | `(tactic| walk_at "exec For") => `(tactic| (k_here; (with_reducible show wpAny _ _ (exec (Stmt.For (Expr.Name _ _) _ _ [] _) _) _ _ _); (rename Fr _ _ _ _ => lF'); (with_unfolding_all refine' For_invVF lF' ?k1 ?k2 ?_; (case k1 => exact rfl); (case k2 => exact rfl); k_whole)))
local macro_rules | `(tactic| walk_at "mine_to_for") => `(tactic| repeat' (first | ((fail_if_success (with_reducible show wpAny _ _ (exec (Stmt.For _ _ _ _ _) _) _ _ _)); (fail_if_success (with_reducible show wpAny _ _ (pyIter _) _ _ _)); (fail_if_success (with_reducible show wpAny _ _ (binaryOp Operator.Pow _ _) _ _ _)); first | walk1 | (dsimp only; walk1)) | fail "no step"))
local macro_rules | `(tactic| walk_at "mine_to_tup") => `(tactic| repeat' (first | ((fail_if_success (with_reducible show wpAny _ _ (subscriptTail (Expr.Tuple _ _ _) _ _ _) _ _ _)); first | walk1 | (dsimp only; walk1)) | fail "no step"))
local macro_rules | `(tactic| walk_at "mine_stepsA") => `(tactic| repeat' (first | (k_unfold; (try dsimp only)) | ((fail_if_success (with_reducible show wpAny _ _ (pyIter _) _ _ _)); (fail_if_success (with_reducible show wpAny _ _ (call (Value.builtin "list.append") _ _) _ _ _)); (fail_if_success (with_reducible show wpAny _ _ (call (Value.ref 143) _ _) _ _ _)); (fail_if_success (with_reducible show wpAny _ _ (call (Value.ref 150) _ _) _ _ _)); (fail_if_success (with_reducible show wpAny _ _ (call (Value.builtin "sorted") _ _) _ _ _)); (fail_if_success (with_reducible show wpAny _ _ (compareOp CmpOp.Eq (Value.ref _) (Value.ref _)) _ _ _)); (fail_if_success (with_reducible show wpAny _ _ (exec (Stmt.For _ _ _ _ _) _) _ _ _)); first | walk1 | (dsimp only; walk1)) | fail "no step"))
structure SD where
  pos : Nat
  tp : Tok
  vs : List Value
  es : List Ent
theorem half {p : Nat} (hp : 0 < p) : (((p : Int) - 1).fdiv (2 ^ Int.toNat 1)).toNat = (p - 1) / 2 := by
  have e : ((p : Int) - 1) = ((p - 1 : Nat) : Int) := by lia
  have e2 : (2 ^ Int.toNat 1 : Int) = 2 := by decide
  rw [e, e2, Int.fdiv_eq_ediv_of_nonneg _ (by decide)]
  lia
theorem half0 {p : Nat} (hp : 0 < p) : 0 ≤ (((p : Int) - 1).fdiv (2 ^ Int.toNat 1)) := by
  have e2 : (2 ^ Int.toNat 1 : Int) = 2 := by decide
  rw [e2, Int.fdiv_eq_ediv_of_nonneg _ (by decide)]
  lia
local macro_rules | `(tactic| walk_at "subscriptTail") => `(tactic| (k_here; (with_reducible show wpAny _ _ (subscriptTail _ _ (Value.ref _) (Value.int _ _)) _ _ _); (refine hget (by k_asm) (by first | assumption | lia) (by first | assumption | lia) (by assumption) ?_)))
local macro_rules | `(tactic| walk_at "setItem ref int") => `(tactic| (k_here; (with_reducible show wpAny _ _ (setItem (Value.ref _) (Value.int _ _) (Value.ref _)) _ _ _); (refine hset (by k_asm) (by k_asm) (by assumption) (by first | assumption | lia) (by first | assumption | lia) (by first | assumption | lia) ?_); intro h9 F9 N9; (try dsimp only)))
local macro_rules | `(tactic| walk_at "compareOp Lt ref") => `(tactic| (k_here; (with_reducible show wpAny _ _ (compareOp CmpOp.Lt (Value.ref _) (Value.ref _)) _ _ _); (refine hlt (news := []) (by ktr_units) (by k_asm) (by assumption) (by assumption) (by assumption) ?_)))
theorem spec_siftdown {hp : Addr} {rest tp : List (Addr × Obj)} {vs : List Value} {es : List Ent} {n : Nat} {p : Nat} {x : Ent} (t u : Tok) (hs : ∀ q ∈ tp, q ∈ rest) (hne : ∀ q ∈ rest, q.1 ≠ hp) (H : Ents tp vs es) (hx : es[p]? = some x) (hlen : es.length ≤ 1000) :
    Con w mean mg mb 157 [.ref hp, .int 0 t, .int p u] [] 1 20 ((hp, W.listOf vs.toArray n) :: rest) (fun v nw => v = .none ∧ ∃ vs', nw = (hp, W.listOf vs'.toArray n) :: rest ∧ Ents tp vs' (sdGo x p es p)) := by
  obtain ⟨vx, hvx, Hx⟩ := H.2 p x hx
  obtain ⟨ap, rfl⟩ := Hx.ref
  have hp0 : p < es.length := (List.getElem?_eq_some_iff.mp hx).1
  have hvl := H.1
  unfold Con; k_fill; intro dp un gd cn cs a ccd cl outer A₀ base h₀ L m s Q E B F X N T hk hd hu ret
  refine wpAny_call ?_
  k_dflt (refine' code_def (binds := [(Str.ofString "heap", .ref hp), (Str.ofString "startpos", .int 0 t), (Str.ofString "pos", .int p u)]) ?k1 ?k2 ?k3 ?k4 ?k5 ?kA ?kF ?kK ?k6 ?k7 ?k8 ?k9 ?kB ?_ ?c2 ?c3 ?c4 ?c5; walk_at "mine_start")
  intro g L' h' FG F' N' B' X' T'
  try dsimp only
  try k_fold
  have hgx : vs[(p : Int).toNat]? = some (.ref ap) := by rw [Int.toNat_natCast]; exact hvx
  walk_at "mine_steps"
  rename News _ _ _ _ => N1
  rename Fr _ _ _ _ => F1
  refine ksw_while (σ := SD) (fun c => (hp, W.listOf c.vs.toArray n) :: rest) (fun c => [(Str.ofString "pos", .int (c.pos : Int) c.tp)]) (fun c => Ents tp c.vs c.es)
    [Str.ofString "parentpos", Str.ofString "parent"] (fun c => c.pos < c.es.length ∧ c.es.length = es.length ∧ sdGo x c.pos c.es c.pos = sdGo x p es p) (fun c => c.pos) ⟨p, u, vs, es⟩ F1 N1 H ?hk ⟨hp0, rfl, rfl⟩ ?turn
  case hk => kst_all
  case turn =>
    intro c u h tk Hc hP F2 N2
    clear F1 N1
    obtain ⟨pos, tq, vs1, es1⟩ := c
    dsimp only at *
    obtain ⟨h1, h2, h3⟩ := hP
    dsimp only [kstB] at F2
    have hl1 := Hc.1
    have fin : ∀ v, Ents tp (vs1.set pos v) (es1.set pos x) → sdGo x pos es1 pos = es1.set pos x → Ents tp (vs1.set pos v) (sdGo x p es p) := fun v q e => by rw [← h3, e]; exact q
    by_cases hz : pos = 0
    · subst hz
      have e0 : sdGo x 0 es1 0 = es1.set 0 x := rfl
      walk_at "mine_steps"
      all_goals exact ret _ _ _ _ ⟨rfl, _, rfl, fin _ (Hc.set Hx _) e0⟩ (by k_asm) (by k_asm)
    · have hpp : (pos - 1) / 2 < es1.length := by lia
      have hy := List.getElem?_eq_getElem hpp
      generalize hyy : es1[(pos - 1) / 2] = y at hy
      obtain ⟨vy, hvy, Hy⟩ := Hc.2 _ _ hy
      obtain ⟨pp, rfl⟩ := Hy.ref
      have hgp : vs1[(((pos : Int) - 1).fdiv (2 ^ Int.toNat 1)).toNat]? = some (.ref pp) := by rw [half (by lia)]; exact hvy
      have hi0 := half0 (p := pos) (by lia)
      have hi2 := half (p := pos) (by lia)
      have hi1 : ((pos : Int) - 1).fdiv (2 ^ Int.toNat 1) < 2 ^ 63 := by lia
      obtain ⟨k, rfl⟩ : ∃ k, pos = k + 1 := ⟨pos - 1, by lia⟩
      have e1 : sdGo x (k + 1) es1 (k + 1) = if x.lt y then sdGo x k (es1.set (k + 1) y) ((k + 1 - 1) / 2) else es1.set (k + 1) x := by
        show (if k + 1 = 0 then _ else (match es1[(k + 1 - 1) / 2]? with | some y => _ | none => _)) = _
        rw [if_neg (by lia), hy]
      have hfd : ((k + 1 : Nat) : Int) - 1 = (k : Int) := by lia
      have hfd2 : (((k + 1 : Nat) : Int) - 1).fdiv (2 ^ Int.toNat 1) = (((k + 1 - 1) / 2 : Nat) : Int) := by lia
      walk_at "mine_steps"
      · rename (x.lt y = true) => hxy
        rename News _ _ _ _ => nE
        refine ksw_end (⟨(k + 1 - 1) / 2, ?t1, vs1.set (k + 1) (.ref pp), es1.set (k + 1) y⟩ : SD) (by assumption) nE ?hn (Hc.set Hy _) ?hk (by walk_at "mine_same2") ⟨?p1, ?p2, ?p3⟩ ?mm
        case hk =>
          refine List.forall_mem_cons.mpr ⟨?_, List.forall_mem_nil _⟩
          rw [← hfd2]
          with_unfolding_all rfl
        case hn => exact fun p hp => hp
        case p1 => dsimp only; rw [List.length_set]; lia
        case p2 => dsimp only; rw [List.length_set]; exact h2
        case p3 =>
          rw [← h3, e1, if_pos hxy]
          dsimp only
          exact (sdGo_fuel _ _ _ _ (Nat.le_refl _)).trans (sdGo_fuel _ _ _ _ (by lia)).symm
        case mm => dsimp only; lia
      · rename (x.lt y = false) => hxy
        rw [hxy, if_neg (by decide)] at e1
        exact ret _ _ _ _ ⟨rfl, _, rfl, fin _ (Hc.set Hx _) e1⟩ (by k_asm) (by k_asm)
end
section
variable {w : World} {mean : ExcName → Option Value} {mg mb : Str → Option Value} {news : List (Addr × Obj)}
theorem anew_c8 : True := by
  w_top off
  trivial
local macro_rules | `(tactic| walk_at "call type:type") => `(tactic| ((with_reducible show wpAny _ _ (call _ [Value.bytes _ _]) _ _ _); refine call_type_of (Tx := "bytes") rfl (by decide +kernel) ?_))
local macro_rules | `(tactic| walk_at "getMethod str") => `(tactic| with_reducible refine gm_encode ?_)
local macro_rules | `(tactic| walk_at "getMethod bytes") => `(tactic| with_reducible refine gm_translate ?_)
local macro_rules | `(tactic| walk_at "call builtin:str.encode") => `(tactic| (refine encode_ascii (by assumption) (by first | assumption | lia) ?_; intro t9 k9))
local macro_rules | `(tactic| walk_at "getMethod type:bytes") => `(tactic| (k_here; refine' method_type ?F ?X ?m (by decide +kernel) ?e ?h ?_; (case F => k_asm); (case X => k_asm); (case m => kernel_rfl); (case e => k_dflt k_is); (case h => k_handed)))
local macro_rules | `(tactic| walk_at "call builtin:bytes.maketrans") => `(tactic| (refine maketrans_bytes (by rfl) ?_; intro t9 k9; (try dsimp only)))
local macro_rules | `(tactic| walk_at "call builtin:bytes.translate") => `(tactic| (refine translate_bytes (mkTab_size _ _) (by assumption) ?_; intro t9 k9; (try dsimp only)))
local macro_rules | `(tactic| walk_at "mine_start") => `(tactic| ((case kA => exact rfl); (case kF => exact rfl); (case kK => assumption); (case k1 => k_asm); (case k2 => k_asm); (case k3 => k_asm); (case k4 => k_asm); (case k5 => k_asm); (case k6 => k_is); (case k7 => k_is); (case k8 => ktr_room); (case k9 => first | exact BindsTo.of_eq rfl | exact binds_K (by k_in) rfl (by k_is) rfl rfl rfl); (case c5 => decide); (case kB => exact locs rfl); (case c2 => exact rfl); (case c3 => exact rfl); (case c4 => exact rfl); k_whole))
local macro_rules | `(tactic| walk_at "mine_use") => `(tactic| ((case k1 => k_asm); (case k2 => k_asm); (case k3 => k_asm); (case k4 => k_asm); (case k5 => k_asm); (case kK => first | exact rfl | assumption); (case kd => ktr_room); (case ku => ktr_units)))
local macro_rules | `(tactic| walk_at "mine_steps") => `(tactic| repeat' (first | (k_unfold; (try dsimp only)) | ((fail_if_success (with_reducible show wpAny _ _ (pyIter _) _ _ _)); (fail_if_success (with_reducible show InvEndN _ _ _ _ _ _ _)); (fail_if_success (with_reducible show KswEnd _ _ _ _ _ _ _ _ _ _ _ _)); (fail_if_success (with_reducible show wpAny _ _ (exec (Stmt.While _ _ _ _) _) _ _ _)); first | walk1 | (dsimp only; walk1)) | fail "no step"))
local macro_rules | `(tactic| k_all) => `(tactic| assumption)
local macro_rules | `(tactic| size_fits) => `(tactic| assumption)
local macro_rules | `(tactic| walk_at "mine_same") => `(tactic| (intro z h1 h2 h3; (simp only [List.forall_mem_cons, List.not_mem_nil, false_implies, implies_true, and_true, ne_eq] at h2); (simp only [List.contains_cons, List.contains_nil, Bool.or_false, Bool.or_eq_false_iff, beq_eq_false_iff_ne, ne_eq] at h3); first | rfl | (simp [h1, h2, h3]; done) | (simp [kstB, h1, h2, h3]; done)))
local macro_rules | `(tactic| walk_at "mine_dec") => `(tactic| first | (with_reducible assumption) | ((simp only [decide_eq_true_eq, decide_eq_false_iff_not, Bool.not_eq_true, ne_eq, beq_iff_eq, beq_eq_false_iff_ne, bne_iff_ne]); lia) | lia)
local macro_rules | `(tactic| walk_at "ite") => `(tactic| (k_here; first | (refine ite_neg (by walk_at "mine_dec") ?_) | (refine ite_pos (by walk_at "mine_dec") ?_)))
local macro_rules | `(tactic| walk_at "mine_same2") => `(tactic| (intro z h2 h3; (simp only [List.forall_mem_cons, List.not_mem_nil, false_implies, implies_true, and_true, ne_eq] at h2); (simp only [List.contains_cons, List.contains_nil, Bool.or_false, Bool.or_eq_false_iff, beq_eq_false_iff_ne, ne_eq] at h3); first | rfl | (simp [h2, h3]; done) | (simp [kstB, h2, h3]; done)))
local macro_rules | `(tactic| walk_at "exec For") => `(tactic| (k_here; (with_reducible show wpAny _ _ (exec (Stmt.For (Expr.Name _ _) _ _ [] _) _) _ _ _); (rename Fr _ _ _ _ => lF'); (with_unfolding_all refine' For_invVF lF' ?k1 ?k2 ?_; (case k1 => exact rfl); (case k2 => exact rfl); k_whole)))
local macro_rules | `(tactic| walk_at "mine_to_for") => `(tactic| repeat' (first | ((fail_if_success (with_reducible show wpAny _ _ (exec (Stmt.For _ _ _ _ _) _) _ _ _)); (fail_if_success (with_reducible show wpAny _ _ (pyIter _) _ _ _)); (fail_if_success (with_reducible show wpAny _ _ (binaryOp Operator.Pow _ _) _ _ _)); first | walk1 | (dsimp only; walk1)) | fail "no step"))
local macro_rules | `(tactic| walk_at "mine_to_tup") => `(tactic| repeat' (first | ((fail_if_success (with_reducible show wpAny _ _ (subscriptTail (Expr.Tuple _ _ _) _ _ _) _ _ _)); first | walk1 | (dsimp only; walk1)) | fail "no step"))
local macro_rules | `(tactic| walk_at "mine_stepsA") => `(tactic| repeat' (first | (k_unfold; (try dsimp only)) | ((fail_if_success (with_reducible show wpAny _ _ (pyIter _) _ _ _)); (fail_if_success (with_reducible show wpAny _ _ (call (Value.builtin "list.append") _ _) _ _ _)); (fail_if_success (with_reducible show wpAny _ _ (call (Value.ref 143) _ _) _ _ _)); (fail_if_success (with_reducible show wpAny _ _ (call (Value.ref 150) _ _) _ _ _)); (fail_if_success (with_reducible show wpAny _ _ (call (Value.builtin "sorted") _ _) _ _ _)); (fail_if_success (with_reducible show wpAny _ _ (compareOp CmpOp.Eq (Value.ref _) (Value.ref _)) _ _ _)); (fail_if_success (with_reducible show wpAny _ _ (exec (Stmt.For _ _ _ _ _) _) _ _ _)); first | walk1 | (dsimp only; walk1)) | fail "no step"))
theorem spec_siftdown' {hp : Addr} {rest tp : List (Addr × Obj)} {vs : List Value} {es : List Ent} {n : Nat} {p : Nat} {k : Int} {x : Ent} (t u : Tok) (hs : ∀ q ∈ tp, q ∈ rest) (hne : ∀ q ∈ rest, q.1 ≠ hp) (H : Ents tp vs es) (hx : es[p]? = some x) (hlen : es.length ≤ 1000) (hk : k = (p : Int)) :
    Con w mean mg mb 157 [.ref hp, .int 0 t, .int k u] [] 1 20 ((hp, W.listOf vs.toArray n) :: rest) (fun v nw => v = .none ∧ ∃ vs', nw = (hp, W.listOf vs'.toArray n) :: rest ∧ Ents tp vs' (sdGo x p es p)) := by
  subst hk; exact spec_siftdown t u hs hne H hx hlen
local macro_rules | `(tactic| walk_at "subscriptTail") => `(tactic| (k_here; (with_reducible show wpAny _ _ (subscriptTail _ _ (Value.ref _) (Value.int _ _)) _ _ _); (refine hget (by k_asm) (by first | assumption | lia) (by first | assumption | lia) (by assumption) ?_)))
local macro_rules | `(tactic| walk_at "setItem ref int") => `(tactic| (k_here; (with_reducible show wpAny _ _ (setItem (Value.ref _) (Value.int _ _) (Value.ref _)) _ _ _); (refine hset (by k_asm) (by k_asm) (by assumption) (by first | assumption | lia) (by first | assumption | lia) (by first | assumption | lia) ?_); intro h9 F9 N9; (try dsimp only)))
local macro_rules | `(tactic| walk_at "compareOp Lt ref") => `(tactic| (k_here; (with_reducible show wpAny _ _ (compareOp CmpOp.Lt (Value.ref _) (Value.ref _)) _ _ _); (refine hlt (news := []) (by ktr_units) (by k_asm) (by assumption) (by assumption) (by assumption) ?_)))
local macro_rules | `(tactic| walk_at "call builtin:len") => `(tactic| (k_here; (with_reducible show wpAny _ _ (call (Value.builtin "len") [Value.ref _]) _ _ _); (refine hlen (by k_asm) (by assumption) ?_); intro t9 k9; (try dsimp only)))
local macro_rules | `(tactic| walk_at "call builtin:list.append") => `(tactic| (k_here; (with_reducible show wpAny _ _ (call (Value.builtin "list.append") [Value.ref _, Value.ref _]) _ _ _); (refine happend (by k_asm) (by k_asm) (by assumption) (by assumption) ?_); intro h9 F9 N9; (try dsimp only)))
local macro_rules | `(tactic| walk_at "call builtin:list.pop") => `(tactic| (k_here; (with_reducible show wpAny _ _ (call (Value.builtin "list.pop") [Value.ref _]) _ _ _); (refine hpop (by k_asm) (by k_asm) (by assumption) (by assumption) ?_); intro h9 F9 N9; (try dsimp only)))
local macro_rules | `(tactic| walk_at "truthy ref") => `(tactic| (k_here; (with_reducible show wpAny _ _ (truthy (Value.ref _)) _ _ _); (refine htrue (by k_asm) (by assumption) ?_); intro k9; (try dsimp only)))
local macro_rules | `(tactic| walk_at "call ref") => `(tactic| (k_here; (with_reducible show wpAny _ _ (call (Value.ref 157) [Value.ref _, Value.int 0 _, Value.int _ _] _) _ _ _); k_dflt (refine' Con.use (spec_siftdown' _ _ (by assumption) (by assumption) (by assumption) (by assumption) (by assumption) (by lia)) ?k1 ?k2 ?k3 ?k4 ?k5 ?kK ?kd ?ku ?_; walk_at "mine_use"); intro v9 n9 h9 tk9 r9 F9 N9; obtain ⟨e1, vs9, e2, H9⟩ := r9; subst e1; subst e2; (try dsimp only)))
theorem spec_heappush {hp : Addr} {rest tp : List (Addr × Obj)} {vs : List Value} {es : List Ent} {n : Nat} {x : Ent} {ap : Addr} (hs : ∀ q ∈ tp, q ∈ rest) (hne : ∀ q ∈ rest, q.1 ≠ hp) (H : Ents tp vs es) (Hx : EntIn tp (.ref ap) x) (hlen : es.length ≤ 900) :
    Con w mean mg mb 143 [.ref hp, .ref ap] [] 3 40 ((hp, W.listOf vs.toArray n) :: rest) (fun v nw => v = .none ∧ ∃ vs' n', nw = (hp, W.listOf vs'.toArray n') :: rest ∧ Ents tp vs' (sdGo x es.length (es ++ [x]) es.length)) := by
  have H' := H.snoc Hx
  have hvl := H.1
  have hx' : (es ++ [x])[es.length]? = some x := by simp
  have hl' : (es ++ [x]).length ≤ 1000 := by simp; lia
  have hs1 : vs.length ≤ 100000 := by lia
  have hs2 : (vs ++ [Value.ref ap]).length ≤ 100000 := by simp; lia
  have hs3 : (vs ++ [Value.ref ap]).length = es.length + 1 := by simp [hvl]
  unfold Con; k_fill; intro dp un gd cn cs a ccd cl outer A₀ base h₀ L m s Q E B F X N T hk hd hu ret
  refine wpAny_call ?_
  k_dflt (refine' code_def (binds := [(Str.ofString "heap", .ref hp), (Str.ofString "item", .ref ap)]) ?k1 ?k2 ?k3 ?k4 ?k5 ?kA ?kF ?kK ?k6 ?k7 ?k8 ?k9 ?kB ?_ ?c2 ?c3 ?c4 ?c5; walk_at "mine_start")
  intro g L' h' FG F' N' B' X' T'
  try dsimp only
  try k_fold
  walk_at "mine_steps"
  all_goals exact ret _ _ _ _ ⟨rfl, _, _, rfl, by assumption⟩ (by k_asm) (by k_asm)
end
section
variable {w : World} {mean : ExcName → Option Value} {mg mb : Str → Option Value} {news : List (Addr × Obj)}
theorem anew_c9 : True := by
  w_top off
  trivial
local macro_rules | `(tactic| walk_at "call type:type") => `(tactic| ((with_reducible show wpAny _ _ (call _ [Value.bytes _ _]) _ _ _); refine call_type_of (Tx := "bytes") rfl (by decide +kernel) ?_))
local macro_rules | `(tactic| walk_at "getMethod str") => `(tactic| with_reducible refine gm_encode ?_)
local macro_rules | `(tactic| walk_at "getMethod bytes") => `(tactic| with_reducible refine gm_translate ?_)
local macro_rules | `(tactic| walk_at "call builtin:str.encode") => `(tactic| (refine encode_ascii (by assumption) (by first | assumption | lia) ?_; intro t9 k9))
local macro_rules | `(tactic| walk_at "getMethod type:bytes") => `(tactic| (k_here; refine' method_type ?F ?X ?m (by decide +kernel) ?e ?h ?_; (case F => k_asm); (case X => k_asm); (case m => kernel_rfl); (case e => k_dflt k_is); (case h => k_handed)))
local macro_rules | `(tactic| walk_at "call builtin:bytes.maketrans") => `(tactic| (refine maketrans_bytes (by rfl) ?_; intro t9 k9; (try dsimp only)))
local macro_rules | `(tactic| walk_at "call builtin:bytes.translate") => `(tactic| (refine translate_bytes (mkTab_size _ _) (by assumption) ?_; intro t9 k9; (try dsimp only)))
local macro_rules | `(tactic| walk_at "mine_start") => `(tactic| ((case kA => exact rfl); (case kF => exact rfl); (case kK => assumption); (case k1 => k_asm); (case k2 => k_asm); (case k3 => k_asm); (case k4 => k_asm); (case k5 => k_asm); (case k6 => k_is); (case k7 => k_is); (case k8 => ktr_room); (case k9 => first | exact BindsTo.of_eq rfl | exact binds_K (by k_in) rfl (by k_is) rfl rfl rfl); (case c5 => decide); (case kB => exact locs rfl); (case c2 => exact rfl); (case c3 => exact rfl); (case c4 => exact rfl); k_whole))
local macro_rules | `(tactic| walk_at "mine_use") => `(tactic| ((case k1 => k_asm); (case k2 => k_asm); (case k3 => k_asm); (case k4 => k_asm); (case k5 => k_asm); (case kK => first | exact rfl | assumption); (case kd => ktr_room); (case ku => ktr_units)))
local macro_rules | `(tactic| walk_at "mine_steps") => `(tactic| repeat' (first | (k_unfold; (try dsimp only)) | ((fail_if_success (with_reducible show wpAny _ _ (pyIter _) _ _ _)); (fail_if_success (with_reducible show InvEndN _ _ _ _ _ _ _)); (fail_if_success (with_reducible show KswEnd _ _ _ _ _ _ _ _ _ _ _ _)); (fail_if_success (with_reducible show wpAny _ _ (exec (Stmt.While _ _ _ _) _) _ _ _)); first | walk1 | (dsimp only; walk1)) | fail "no step"))
local macro_rules | `(tactic| k_all) => `(tactic| assumption)
local macro_rules | `(tactic| size_fits) => `(tactic| assumption)
local macro_rules | `(tactic| walk_at "mine_same") => `(tactic| (intro z h1 h2 h3; (simp only [List.forall_mem_cons, List.not_mem_nil, false_implies, implies_true, and_true, ne_eq] at h2); (simp only [List.contains_cons, List.contains_nil, Bool.or_false, Bool.or_eq_false_iff, beq_eq_false_iff_ne, ne_eq] at h3); first | rfl | (simp [h1, h2, h3]; done) | (simp [kstB, h1, h2, h3]; done)))
local macro_rules | `(tactic| walk_at "mine_dec") => `(tactic| first | (with_reducible assumption) | ((simp only [decide_eq_true_eq, decide_eq_false_iff_not, Bool.not_eq_true, ne_eq, beq_iff_eq, beq_eq_false_iff_ne, bne_iff_ne]); lia) | lia)
local macro_rules | `(tactic| walk_at "ite") => `(tactic| (k_here; first | (refine ite_neg (by walk_at "mine_dec") ?_) | (refine ite_pos (by walk_at "mine_dec") ?_)))
local macro_rules | `(tactic| walk_at "mine_same2") => `(tactic| (intro z h2 h3; (simp only [List.forall_mem_cons, List.not_mem_nil, false_implies, implies_true, and_true, ne_eq] at h2); (simp only [List.contains_cons, List.contains_nil, Bool.or_false, Bool.or_eq_false_iff, beq_eq_false_iff_ne, ne_eq] at h3); first | rfl | (simp [h2, h3]; done) | (simp [kstB, h2, h3]; done)))
local macro_rules | `(tactic| walk_at "exec For") => `(tactic| (k_here; (with_reducible show wpAny _ _ (exec (Stmt.For (Expr.Name _ _) _ _ [] _) _) _ _ _); (rename Fr _ _ _ _ => lF'); (with_unfolding_all refine' For_invVF lF' ?k1 ?k2 ?_; (case k1 => exact rfl); (case k2 => exact rfl); k_whole)))
local macro_rules | `(tactic| walk_at "mine_to_for") => `(tactic| repeat' (first | ((fail_if_success (with_reducible show wpAny _ _ (exec (Stmt.For _ _ _ _ _) _) _ _ _)); (fail_if_success (with_reducible show wpAny _ _ (pyIter _) _ _ _)); (fail_if_success (with_reducible show wpAny _ _ (binaryOp Operator.Pow _ _) _ _ _)); first | walk1 | (dsimp only; walk1)) | fail "no step"))
local macro_rules | `(tactic| walk_at "mine_to_tup") => `(tactic| repeat' (first | ((fail_if_success (with_reducible show wpAny _ _ (subscriptTail (Expr.Tuple _ _ _) _ _ _) _ _ _)); first | walk1 | (dsimp only; walk1)) | fail "no step"))
local macro_rules | `(tactic| walk_at "mine_stepsA") => `(tactic| repeat' (first | (k_unfold; (try dsimp only)) | ((fail_if_success (with_reducible show wpAny _ _ (pyIter _) _ _ _)); (fail_if_success (with_reducible show wpAny _ _ (call (Value.builtin "list.append") _ _) _ _ _)); (fail_if_success (with_reducible show wpAny _ _ (call (Value.ref 143) _ _) _ _ _)); (fail_if_success (with_reducible show wpAny _ _ (call (Value.ref 150) _ _) _ _ _)); (fail_if_success (with_reducible show wpAny _ _ (call (Value.builtin "sorted") _ _) _ _ _)); (fail_if_success (with_reducible show wpAny _ _ (compareOp CmpOp.Eq (Value.ref _) (Value.ref _)) _ _ _)); (fail_if_success (with_reducible show wpAny _ _ (exec (Stmt.For _ _ _ _ _) _) _ _ _)); first | walk1 | (dsimp only; walk1)) | fail "no step"))
local macro_rules | `(tactic| walk_at "subscriptTail") => `(tactic| (k_here; (with_reducible show wpAny _ _ (subscriptTail _ _ (Value.ref _) (Value.int _ _)) _ _ _); (refine hget (by k_asm) (by first | assumption | lia) (by first | assumption | lia) (by assumption) ?_)))
local macro_rules | `(tactic| walk_at "setItem ref int") => `(tactic| (k_here; (with_reducible show wpAny _ _ (setItem (Value.ref _) (Value.int _ _) (Value.ref _)) _ _ _); (refine hset (by k_asm) (by k_asm) (by assumption) (by first | assumption | lia) (by first | assumption | lia) (by first | assumption | lia) ?_); intro h9 F9 N9; (try dsimp only)))
local macro_rules | `(tactic| walk_at "compareOp Lt ref") => `(tactic| (k_here; (with_reducible show wpAny _ _ (compareOp CmpOp.Lt (Value.ref _) (Value.ref _)) _ _ _); (refine hlt (news := []) (by ktr_units) (by k_asm) (by assumption) (by assumption) (by assumption) ?_)))
local macro_rules | `(tactic| walk_at "call builtin:len") => `(tactic| (k_here; (with_reducible show wpAny _ _ (call (Value.builtin "len") [Value.ref _]) _ _ _); (refine hlen (by k_asm) (by assumption) ?_); intro t9 k9; (try dsimp only)))
local macro_rules | `(tactic| walk_at "call builtin:list.pop") => `(tactic| (k_here; (with_reducible show wpAny _ _ (call (Value.builtin "list.pop") [Value.ref _]) _ _ _); (refine hpop (by k_asm) (by k_asm) (by assumption) (by assumption) ?_); intro h9 F9 N9; (try dsimp only)))
local macro_rules | `(tactic| walk_at "truthy ref") => `(tactic| (k_here; (with_reducible show wpAny _ _ (truthy (Value.ref _)) _ _ _); (refine htrue (by k_asm) (by assumption) ?_); intro k9; (try dsimp only)))
local macro_rules | `(tactic| walk_at "call ref") => `(tactic| (k_here; (with_reducible show wpAny _ _ (call (Value.ref 157) [Value.ref _, Value.int 0 _, Value.int _ _] _) _ _ _); k_dflt (refine' Con.use (spec_siftdown' _ _ (by assumption) (by assumption) (by assumption) (by assumption) (by assumption) (by lia)) ?k1 ?k2 ?k3 ?k4 ?k5 ?kK ?kd ?ku ?_; walk_at "mine_use"); intro v9 n9 h9 tk9 r9 F9 N9; obtain ⟨e1, vs9, e2, H9⟩ := r9; subst e1; subst e2; (try dsimp only)))
structure SU where
  pos : Nat
  tp : Tok
  tc : Tok
  vs : List Value
  es : List Ent
theorem spec_siftup {hp : Addr} {rest tp : List (Addr × Obj)} {vs : List Value} {es : List Ent} {n : Nat} {x : Ent} (t : Tok) (hs : ∀ q ∈ tp, q ∈ rest) (hne : ∀ q ∈ rest, q.1 ≠ hp) (H : Ents tp vs es) (hx : es[0]? = some x) (hlen : es.length ≤ 900) :
    Con w mean mg mb 164 [.ref hp, .int 0 t] [] 3 40 ((hp, W.listOf vs.toArray n) :: rest) (fun v nw => v = .none ∧ ∃ vs', nw = (hp, W.listOf vs'.toArray n) :: rest ∧ Ents tp vs' (suGo x es.length es 0)) := by
  obtain ⟨vx, hvx, Hx⟩ := H.2 0 x hx
  obtain ⟨ap, rfl⟩ := Hx.ref
  have hp0 : 0 < es.length := (List.getElem?_eq_some_iff.mp hx).1
  have hvl := H.1
  have hs1 : vs.length ≤ 100000 := by lia
  have hgx : vs[(0 : Int).toNat]? = some (.ref ap) := hvx
  unfold Con; k_fill; intro dp un gd cn cs a ccd cl outer A₀ base h₀ L m s Q E B F X N T hk hd hu ret
  refine wpAny_call ?_
  k_dflt (refine' code_def (binds := [(Str.ofString "heap", .ref hp), (Str.ofString "pos", .int 0 t)]) ?k1 ?k2 ?k3 ?k4 ?k5 ?kA ?kF ?kK ?k6 ?k7 ?k8 ?k9 ?kB ?_ ?c2 ?c3 ?c4 ?c5; walk_at "mine_start")
  intro g L' h' FG F' N' B' X' T'
  try dsimp only
  try k_fold
  walk_at "mine_steps"
  rename News _ _ _ _ => N1
  rename Fr _ _ _ _ => F1
  refine ksw_while (σ := SU) (fun c => (hp, W.listOf c.vs.toArray n) :: rest) (fun c => [(Str.ofString "pos", .int (c.pos : Int) c.tp), (Str.ofString "childpos", .int (2 * (c.pos : Int) + 1) c.tc)]) (fun c => Ents tp c.vs c.es)
    [Str.ofString "rightpos"] (fun c => c.pos < c.es.length ∧ c.es.length = es.length ∧ ∃ f, es.length ≤ f + c.pos ∧ suGo x f c.es c.pos = suGo x es.length es 0) (fun c => es.length - c.pos) ⟨0, ?t1, ?t2, vs, es⟩ F1 N1 H ?hk ⟨hp0, rfl, es.length, Nat.le_refl _, rfl⟩ ?turn
  case hk => kst_all
  case turn =>
    intro c u h tk Hc hP F2 N2
    clear F1 N1
    obtain ⟨pos, tq, tc, vs1, es1⟩ := c
    dsimp only at *
    obtain ⟨h1, h2, f, hf, h3⟩ := hP
    dsimp only [kstB] at F2
    have hl1 := Hc.1
    by_cases hc : 2 * pos + 1 < es1.length
    · have hy := List.getElem?_eq_getElem hc
      generalize hyy : es1[2 * pos + 1] = y at hy
      obtain ⟨vy, hvy, Hy⟩ := Hc.2 _ _ hy
      obtain ⟨py, rfl⟩ := Hy.ref
      have ec : (2 * (pos : Int) + 1).toNat = 2 * pos + 1 := by lia
      have hgy : vs1[(2 * (pos : Int) + 1).toNat]? = some (.ref py) := by rw [ec]; exact hvy
      have ec1 : ((2 * pos + 1 : Nat) : Int) = 2 * (pos : Int) + 1 := by lia
      have ec2 : 2 * ((2 * pos + 1 : Nat) : Int) + 1 = 2 * (2 * (pos : Int) + 1) + 1 := by lia
      obtain ⟨g, rfl⟩ : ∃ g, f = g + 1 := ⟨f - 1, by lia⟩
      by_cases hr : 2 * pos + 2 < es1.length
      · have hz := List.getElem?_eq_getElem hr
        generalize hzz : es1[2 * pos + 2] = z at hz
        obtain ⟨vz, hvz, Hz⟩ := Hc.2 _ _ hz
        obtain ⟨pz, rfl⟩ := Hz.ref
        have er : (2 * (pos : Int) + 1 + 1).toNat = 2 * pos + 2 := by lia
        have hgz : vs1[(2 * (pos : Int) + 1 + 1).toNat]? = some (.ref pz) := by rw [er]; exact hvz
        have er1 : ((2 * pos + 2 : Nat) : Int) = 2 * (pos : Int) + 1 + 1 := by lia
        have er2 : 2 * ((2 * pos + 2 : Nat) : Int) + 1 = 2 * (2 * (pos : Int) + 1 + 1) + 1 := by lia
        have e1 : suGo x (g + 1) es1 pos = if y.lt z then suGo x g (es1.set pos y) (2 * pos + 1) else suGo x g (es1.set pos z) (2 * pos + 2) := by
          show (match es1[2 * pos + 1]?, es1[2 * pos + 2]? with | some y, some z => _ | some y, none => _ | none, _ => _) = _
          rw [hy, hz]
        walk_at "mine_steps"
        · rename (y.lt z = true) => hyz
          rename News _ _ _ _ => nE
          refine ksw_end (⟨2 * pos + 1, ?a0, ?b0, vs1.set (pos : Int).toNat (.ref py), es1.set pos y⟩ : SU) (by assumption) nE (fun p hp => hp) (Hc.set Hy _) ?hk (by walk_at "mine_same2") ⟨?p1, ?p2, g, ?p3, ?p4⟩ ?mm
          case hk =>
            refine List.forall_mem_cons.mpr ⟨?_, List.forall_mem_cons.mpr ⟨?_, List.forall_mem_nil _⟩⟩
            · show _ = some (Value.int ((2 * pos + 1 : Nat) : Int) _)
              rw [ec1]; with_unfolding_all rfl
            · show _ = some (Value.int (2 * ((2 * pos + 1 : Nat) : Int) + 1) _)
              rw [ec2]; with_unfolding_all rfl
          case p1 => dsimp only; rw [List.length_set]; lia
          case p2 => dsimp only; rw [List.length_set]; exact h2
          case p3 => dsimp only; lia
          case p4 => rw [← h3, e1, if_pos hyz]
          case mm => dsimp only; lia
        · rename (y.lt z = false) => hyz
          rename News _ _ _ _ => nE
          refine ksw_end (⟨2 * pos + 2, ?a1, ?b1, vs1.set (pos : Int).toNat (.ref pz), es1.set pos z⟩ : SU) (by assumption) nE (fun p hp => hp) (Hc.set Hz _) ?hk (by walk_at "mine_same2") ⟨?p1, ?p2, g, ?p3, ?p4⟩ ?mm
          case hk =>
            refine List.forall_mem_cons.mpr ⟨?_, List.forall_mem_cons.mpr ⟨?_, List.forall_mem_nil _⟩⟩
            · show _ = some (Value.int ((2 * pos + 2 : Nat) : Int) _)
              rw [er1]; with_unfolding_all rfl
            · show _ = some (Value.int (2 * ((2 * pos + 2 : Nat) : Int) + 1) _)
              rw [er2]; with_unfolding_all rfl
          case p1 => dsimp only; rw [List.length_set]; lia
          case p2 => dsimp only; rw [List.length_set]; exact h2
          case p3 => dsimp only; lia
          case p4 => rw [← h3, e1, hyz, if_neg (by decide)]
          case mm => dsimp only; lia
      · have hz : es1[2 * pos + 2]? = none := List.getElem?_eq_none (by lia)
        have e1 : suGo x (g + 1) es1 pos = suGo x g (es1.set pos y) (2 * pos + 1) := by
          show (match es1[2 * pos + 1]?, es1[2 * pos + 2]? with | some y, some z => _ | some y, none => _ | none, _ => _) = _
          rw [hy, hz]
        walk_at "mine_steps"
        rename News _ _ _ _ => nE
        refine ksw_end (⟨2 * pos + 1, ?a2, ?b2, vs1.set (pos : Int).toNat (.ref py), es1.set pos y⟩ : SU) (by assumption) nE (fun p hp => hp) (Hc.set Hy _) ?hk (by walk_at "mine_same2") ⟨?p1, ?p2, g, ?p3, ?p4⟩ ?mm
        case hk =>
          refine List.forall_mem_cons.mpr ⟨?_, List.forall_mem_cons.mpr ⟨?_, List.forall_mem_nil _⟩⟩
          · show _ = some (Value.int ((2 * pos + 1 : Nat) : Int) _)
            rw [ec1]; with_unfolding_all rfl
          · show _ = some (Value.int (2 * ((2 * pos + 1 : Nat) : Int) + 1) _)
            rw [ec2]; with_unfolding_all rfl
        case p1 => dsimp only; rw [List.length_set]; lia
        case p2 => dsimp only; rw [List.length_set]; exact h2
        case p3 => dsimp only; lia
        case p4 => rw [← h3, e1]
        case mm => dsimp only; lia
    · have hy : es1[2 * pos + 1]? = none := List.getElem?_eq_none (by lia)
      have e1 : suGo x f es1 pos = sdGo x pos (es1.set pos x) pos := by
        cases f with
        | zero => rfl
        | succ f =>
          show (match es1[2 * pos + 1]?, es1[2 * pos + 2]? with | some y, some z => _ | some y, none => _ | none, _ => _) = _
          rw [hy]
      have hset : Ents tp (vs1.set (pos : Int).toNat (.ref ap)) (es1.set pos x) := Hc.set Hx _
      have hgp : (es1.set pos x)[pos]? = some x := by rw [List.getElem?_set, if_pos rfl, if_pos h1]
      have hl9 : (es1.set pos x).length ≤ 1000 := by rw [List.length_set]; lia
      walk_at "mine_steps"
      all_goals exact ret _ _ _ _ ⟨rfl, _, rfl, by rw [← h3, e1]; assumption⟩ (by k_asm) (by k_asm)
end
section
variable {w : World} {mean : ExcName → Option Value} {mg mb : Str → Option Value} {news : List (Addr × Obj)}
theorem anew_c10 : True := by
  w_top off
  trivial
local macro_rules | `(tactic| walk_at "call type:type") => `(tactic| ((with_reducible show wpAny _ _ (call _ [Value.bytes _ _]) _ _ _); refine call_type_of (Tx := "bytes") rfl (by decide +kernel) ?_))
local macro_rules | `(tactic| walk_at "getMethod str") => `(tactic| with_reducible refine gm_encode ?_)
local macro_rules | `(tactic| walk_at "getMethod bytes") => `(tactic| with_reducible refine gm_translate ?_)
local macro_rules | `(tactic| walk_at "call builtin:str.encode") => `(tactic| (refine encode_ascii (by assumption) (by first | assumption | lia) ?_; intro t9 k9))
local macro_rules | `(tactic| walk_at "getMethod type:bytes") => `(tactic| (k_here; refine' method_type ?F ?X ?m (by decide +kernel) ?e ?h ?_; (case F => k_asm); (case X => k_asm); (case m => kernel_rfl); (case e => k_dflt k_is); (case h => k_handed)))
local macro_rules | `(tactic| walk_at "call builtin:bytes.maketrans") => `(tactic| (refine maketrans_bytes (by rfl) ?_; intro t9 k9; (try dsimp only)))
local macro_rules | `(tactic| walk_at "call builtin:bytes.translate") => `(tactic| (refine translate_bytes (mkTab_size _ _) (by assumption) ?_; intro t9 k9; (try dsimp only)))
local macro_rules | `(tactic| walk_at "mine_start") => `(tactic| ((case kA => exact rfl); (case kF => exact rfl); (case kK => assumption); (case k1 => k_asm); (case k2 => k_asm); (case k3 => k_asm); (case k4 => k_asm); (case k5 => k_asm); (case k6 => k_is); (case k7 => k_is); (case k8 => ktr_room); (case k9 => first | exact BindsTo.of_eq rfl | exact binds_K (by k_in) rfl (by k_is) rfl rfl rfl); (case c5 => decide); (case kB => exact locs rfl); (case c2 => exact rfl); (case c3 => exact rfl); (case c4 => exact rfl); k_whole))
local macro_rules | `(tactic| walk_at "mine_use") => `(tactic| ((case k1 => k_asm); (case k2 => k_asm); (case k3 => k_asm); (case k4 => k_asm); (case k5 => k_asm); (case kK => first | exact rfl | assumption); (case kd => ktr_room); (case ku => ktr_units)))
local macro_rules | `(tactic| walk_at "mine_steps") => `(tactic| repeat' (first | (k_unfold; (try dsimp only)) | ((fail_if_success (with_reducible show wpAny _ _ (pyIter _) _ _ _)); (fail_if_success (with_reducible show InvEndN _ _ _ _ _ _ _)); (fail_if_success (with_reducible show KswEnd _ _ _ _ _ _ _ _ _ _ _ _)); (fail_if_success (with_reducible show wpAny _ _ (exec (Stmt.While _ _ _ _) _) _ _ _)); first | walk1 | (dsimp only; walk1)) | fail "no step"))
local macro_rules | `(tactic| k_all) => `(tactic| assumption)
local macro_rules | `(tactic| size_fits) => `(tactic| assumption)
local macro_rules | `(tactic| walk_at "mine_same") => `(tactic| (intro z h1 h2 h3; (simp only [List.forall_mem_cons, List.not_mem_nil, false_implies, implies_true, and_true, ne_eq] at h2); (simp only [List.contains_cons, List.contains_nil, Bool.or_false, Bool.or_eq_false_iff, beq_eq_false_iff_ne, ne_eq] at h3); first | rfl | (simp [h1, h2, h3]; done) | (simp [kstB, h1, h2, h3]; done)))
local macro_rules | `(tactic| walk_at "mine_dec") => `(tactic| first | (with_reducible assumption) | ((simp only [decide_eq_true_eq, decide_eq_false_iff_not, Bool.not_eq_true, ne_eq, beq_iff_eq, beq_eq_false_iff_ne, bne_iff_ne]); lia) | lia)
local macro_rules | `(tactic| walk_at "ite") => `(tactic| (k_here; first | (refine ite_neg (by walk_at "mine_dec") ?_) | (refine ite_pos (by walk_at "mine_dec") ?_)))
local macro_rules | `(tactic| walk_at "mine_same2") => `(tactic| (intro z h2 h3; (simp only [List.forall_mem_cons, List.not_mem_nil, false_implies, implies_true, and_true, ne_eq] at h2); (simp only [List.contains_cons, List.contains_nil, Bool.or_false, Bool.or_eq_false_iff, beq_eq_false_iff_ne, ne_eq] at h3); first | rfl | (simp [h2, h3]; done) | (simp [kstB, h2, h3]; done)))
local macro_rules | `(tactic| walk_at "exec For") => `(tactic| (k_here; (with_reducible show wpAny _ _ (exec (Stmt.For (Expr.Name _ _) _ _ [] _) _) _ _ _); (rename Fr _ _ _ _ => lF'); (with_unfolding_all refine' For_invVF lF' ?k1 ?k2 ?_; (case k1 => exact rfl); (case k2 => exact rfl); k_whole)))
local macro_rules | `(tactic| walk_at "mine_to_for") => `(tactic| repeat' (first | ((fail_if_success (with_reducible show wpAny _ _ (exec (Stmt.For _ _ _ _ _) _) _ _ _)); (fail_if_success (with_reducible show wpAny _ _ (pyIter _) _ _ _)); (fail_if_success (with_reducible show wpAny _ _ (binaryOp Operator.Pow _ _) _ _ _)); first | walk1 | (dsimp only; walk1)) | fail "no step"))
local macro_rules | `(tactic| walk_at "mine_to_tup") => `(tactic| repeat' (first | ((fail_if_success (with_reducible show wpAny _ _ (subscriptTail (Expr.Tuple _ _ _) _ _ _) _ _ _)); first | walk1 | (dsimp only; walk1)) | fail "no step"))
local macro_rules | `(tactic| walk_at "mine_stepsA") => `(tactic| repeat' (first | (k_unfold; (try dsimp only)) | ((fail_if_success (with_reducible show wpAny _ _ (pyIter _) _ _ _)); (fail_if_success (with_reducible show wpAny _ _ (call (Value.builtin "list.append") _ _) _ _ _)); (fail_if_success (with_reducible show wpAny _ _ (call (Value.ref 143) _ _) _ _ _)); (fail_if_success (with_reducible show wpAny _ _ (call (Value.ref 150) _ _) _ _ _)); (fail_if_success (with_reducible show wpAny _ _ (call (Value.builtin "sorted") _ _) _ _ _)); (fail_if_success (with_reducible show wpAny _ _ (compareOp CmpOp.Eq (Value.ref _) (Value.ref _)) _ _ _)); (fail_if_success (with_reducible show wpAny _ _ (exec (Stmt.For _ _ _ _ _) _) _ _ _)); first | walk1 | (dsimp only; walk1)) | fail "no step"))
local macro_rules | `(tactic| walk_at "subscriptTail") => `(tactic| (k_here; (with_reducible show wpAny _ _ (subscriptTail _ _ (Value.ref _) (Value.int _ _)) _ _ _); (refine hget (by k_asm) (by first | assumption | lia) (by first | assumption | lia) (by assumption) ?_)))
local macro_rules | `(tactic| walk_at "setItem ref int") => `(tactic| (k_here; (with_reducible show wpAny _ _ (setItem (Value.ref _) (Value.int _ _) (Value.ref _)) _ _ _); (refine hset (by k_asm) (by k_asm) (by assumption) (by first | assumption | lia) (by first | assumption | lia) (by first | assumption | lia) ?_); intro h9 F9 N9; (try dsimp only)))
local macro_rules | `(tactic| walk_at "call builtin:list.pop") => `(tactic| (k_here; (with_reducible show wpAny _ _ (call (Value.builtin "list.pop") [Value.ref _]) _ _ _); (refine hpop (by k_asm) (by k_asm) (by assumption) (by assumption) ?_); intro h9 F9 N9; (try dsimp only)))
local macro_rules | `(tactic| walk_at "truthy ref") => `(tactic| (k_here; (with_reducible show wpAny _ _ (truthy (Value.ref _)) _ _ _); (refine htrue (by k_asm) (by assumption) ?_); intro k9; (try dsimp only)))
local macro_rules | `(tactic| walk_at "call ref") => `(tactic| (k_here; (with_reducible show wpAny _ _ (call (Value.ref 164) [Value.ref _, Value.int 0 _] _) _ _ _); k_dflt (refine' Con.use (spec_siftup _ (by assumption) (by assumption) (by assumption) (by assumption) (by assumption)) ?k1 ?k2 ?k3 ?k4 ?k5 ?kK ?kd ?ku ?_; walk_at "mine_use"); intro v9 n9 h9 tk9 r9 F9 N9; obtain ⟨e1, vs9, e2, H9⟩ := r9; subst e1; subst e2; (try dsimp only)))
/-- heappop, plain, of y, the rest behind -/
noncomputable def popGo (x : Ent) : List Ent → Ent × List Ent
  | [] => (x, [])
  | y :: l => (y, suGo x (l.length + 1) (x :: l) 0)
theorem spec_heappop {hp : Addr} {rest tp : List (Addr × Obj)} {vs : List Value} {es : List Ent} {n : Nat} {x : Ent} (hs : ∀ q ∈ tp, q ∈ rest) (hne : ∀ q ∈ rest, q.1 ≠ hp) (H : Ents tp vs (es ++ [x])) (hlen : es.length ≤ 800) :
    Con w mean mg mb 150 [.ref hp] [] 5 60 ((hp, W.listOf vs.toArray n) :: rest) (fun v nw => EntIn tp v (popGo x es).1 ∧ ∃ vs' n', nw = (hp, W.listOf vs'.toArray n') :: rest ∧ Ents tp vs' (popGo x es).2) := by
  obtain ⟨vs₁, vx, rfl⟩ : ∃ vs₁ vx, vs = vs₁ ++ [vx] := by
    have hl := H.1
    refine ⟨vs.dropLast, vs.getLast (by intro e; subst e; simp at hl), (List.dropLast_concat_getLast _).symm⟩
  have hl0 := H.1
  have hl : vs₁.length = es.length := by simpa using hl0
  have Hx : EntIn tp vx x := by
    obtain ⟨v, h1, h2⟩ := H.2 es.length x (by simp)
    rw [← hl] at h1
    have : v = vx := by simpa using h1.symm
    rw [← this]; exact h2
  have H' : Ents tp vs₁ es := by
    refine ⟨hl, fun i e hi => ?_⟩
    have hil := (List.getElem?_eq_some_iff.mp hi).1
    obtain ⟨v, h1, h2⟩ := H.2 i e (by rw [List.getElem?_append_left hil]; exact hi)
    rw [List.getElem?_append_left (by lia)] at h1
    exact ⟨v, h1, h2⟩
  obtain ⟨px, rfl⟩ := Hx.ref
  have hs1 : vs₁.length ≤ 100000 := by lia
  cases es with
  | nil =>
    have : vs₁ = [] := List.eq_nil_of_length_eq_zero (by simpa using hl)
    subst this
    unfold Con; k_fill; intro dp un gd cn cs a ccd cl outer A₀ base h₀ L m s Q E B F X N T hk hd hu ret
    refine wpAny_call ?_
    k_dflt (refine' code_def (binds := [(Str.ofString "heap", .ref hp)]) ?k1 ?k2 ?k3 ?k4 ?k5 ?kA ?kF ?kK ?k6 ?k7 ?k8 ?k9 ?kB ?_ ?c2 ?c3 ?c4 ?c5; walk_at "mine_start")
    intro g L' h' FG F' N' B' X' T'
    try dsimp only
    try k_fold
    walk_at "mine_steps"
    all_goals exact ret _ _ _ _ ⟨Hx, [], _, rfl, Ents.nil⟩ (by k_asm) (by k_asm)
  | cons y l =>
    obtain ⟨vy, h1, Hy⟩ := H'.2 0 y rfl
    obtain ⟨py, rfl⟩ := Hy.ref
    have hgy : vs₁[(0 : Int).toNat]? = some (.ref py) := h1
    have hb : (0 : Int) < (vs₁.length : Int) := by rw [hl]; simp
    have hset : Ents tp (vs₁.set (0 : Int).toNat (.ref px)) (x :: l) := H'.set Hx 0
    have hx0 : (x :: l)[0]? = some x := rfl
    have hl9 : (x :: l).length ≤ 900 := by simp at hlen ⊢; lia
    have hem : vs₁.isEmpty = false := by
      cases vs₁ with
      | nil => simp at hl
      | cons _ _ => rfl
    unfold Con; k_fill; intro dp un gd cn cs a ccd cl outer A₀ base h₀ L m s Q E B F X N T hk hd hu ret
    refine wpAny_call ?_
    k_dflt (refine' code_def (binds := [(Str.ofString "heap", .ref hp)]) ?k1 ?k2 ?k3 ?k4 ?k5 ?kA ?kF ?kK ?k6 ?k7 ?k8 ?k9 ?kB ?_ ?c2 ?c3 ?c4 ?c5; walk_at "mine_start")
    intro g L' h' FG F' N' B' X' T'
    try dsimp only
    try k_fold
    walk_at "mine_steps"
    all_goals exact ret _ _ _ _ ⟨Hy, _, _, rfl, by assumption⟩ (by k_asm) (by k_asm)
end
section
variable {w : World} {mean : ExcName → Option Value} {mg mb : Str → Option Value} {news : List (Addr × Obj)}
section
variable {prog : Program} {w : World} {A : Around} {E : Value → Shared → Prop} {s : Shared} {h₀ : Heap} {L : Addr} {m : Str → Option Value} {env : Env} {news : List (Addr × Obj)}
/-- an element's end: what came of v, and nothing changed -/
noncomputable def EltEnd (R : Value → Value → Prop) (v : Value) (s₃ : Shared) (y : Value) (s₄ : Shared) : Prop := R v y ∧ Keeps s₃ s₄
/-- a comprehension over a list, its element quiet -/
theorem comp_list {l : Addr} {vs : List Value} {scope : Scope} {x : Str} {elt : Expr} {Q : Value → Shared → Prop} (R : Value → Value → Prop) (hh : A.handled = none) (F : Fr h₀ L s.heap m) (N : News h₀ L s.heap news)
    (hl : s.heap.IsList l vs.toArray) (hsz : vs.length ≤ 1000000)
    (helt : ∀ C v s₃ m₃ E', v ∈ vs → s₃.heap.Ns C m₃ → m₃ x = some v → wpAny (model prog w) A (eval elt (compEnv scope C env)) (EltEnd R v s₃) E' s₃)
    (done : ∀ D h' tk ys n, (∀ p ∈ news, p.1 ≠ D) → Paired R vs ys → Fr h₀ L h' m → News h₀ L h' ((D, W.listOf ys.toArray n) :: news) → Q (.ref D) { s with heap := h', toks := tk }) :
    wpAny (model prog w) A (pyIter (.ref l)) (CompPost prog w A env scope x [] elt Q) E s := by
  obtain ⟨ol, hol, _⟩ := id hl
  have hlt : l < s.heap.objs.size := Heap.lt_size hol
  have hne : l ≠ s.heap.objs.size := Nat.ne_of_lt hlt
  refine wpAny_pyIter_list hl ?_
  have W := Walks.list (prog := prog) (w := w) hh s.heap.objs.size l hne vs.toArray
  refine ⟨fun _ => true, R, _, _, _, _, _, _, rfl, W, ?_, ⟨⟨_, Heap.get?_push_size _ rfl, rfl, rfl⟩, hl.at fun o e => Heap.get?_push_of_some _ e⟩, ?_, ⟨?_, ?_⟩, ?_⟩
  · rw [List.size_toArray, sizeLine_eq]; lia
  · intro b hb
    show b < (s.heap.push _).objs.size
    rw [Heap.size_push]
    rcases List.mem_cons.mp hb with e | hb
    · rw [e]; exact Nat.lt_succ_self _
    · rw [List.mem_singleton.mp hb]; exact Nat.lt_succ_of_lt hlt
  · intro C i v s₃ m₃ E' _ _ _ _ _
    rw [List.forIn_nil]
    exact wpAny_pure ⟨rfl, s₃.heap, s₃.toks, rfl, fun _ _ e => e⟩
  · intro C i v s₃ m₃ E' hv _ hn hx _ _
    exact helt C v s₃ m₃ E' (List.mem_of_getElem? (by simpa using hv)) hn hx
  · intro D h' tk ys vs' hD hIL hPL hlen hP hF hk
    obtain ⟨n, hn⟩ := hPL
    have hvs : vs' = vs := by
      apply List.ext_getElem?
      intro j
      by_cases hj : j < vs'.length
      · have := hP j _ (List.getElem?_eq_getElem hj)
        rw [List.getElem?_eq_getElem hj]
        simpa using this.symm
      · have h2 : ¬ j < vs.length := by simpa [hlen] using hj
        rw [List.getElem?_eq_none (by lia), List.getElem?_eq_none (by lia)]
    subst hvs
    have hf : vs'.filter (fun _ => true) = vs' := by simp
    rw [hf] at hF
    have keep : ∀ b o, s.heap.get? b = some o → h'.get? b = some o := fun b o e => hk b o (by simp; exact Nat.ne_of_lt (Heap.lt_size e)) (Heap.get?_push_of_some _ e)
    have fresh : s.heap.get? D = none := by
      cases q : s.heap.get? D with
      | none => rfl
      | some o => rw [Heap.get?_push_of_some _ q] at hD; cases hD
    have hne' : ∀ p ∈ news, p.1 ≠ D := fun p hp e => by
      have := (N p hp).1
      rw [e, fresh] at this; cases this
    have hL : D ≠ L := fun e => by
      obtain ⟨oL, _, _, hL, _⟩ := F.ns
      rw [← e, fresh] at hL; cases hL
    have h0 : h₀.get? D = none := by
      cases q : h₀.get? D with
      | none => rfl
      | some o => have := F.keep _ _ q; rw [fresh] at this; cases this
    refine done D h' tk ys.toList n hne' hF (F.keptAll keep) fun p hp => ?_
    rcases List.mem_cons.mp hp with e | hp
    · subst e
      exact ⟨by rw [Array.toArray_toList]; exact hn, hL, h0⟩
    · exact ⟨keep _ _ (N p hp).1, (N p hp).2⟩
theorem slice_keep_ns {value slice : Expr} {x : Str} {t uj : Tok} {j : Int} {Q : Value → Shared → Prop} (hsz : x.length ≤ 1000000) (h : ∀ h' t' k, (∀ b o, s.heap.get? b = some o → h'.get? b = some o) → Q (.str (Txt.slice x none (some j)) t') { s with heap := h', toks := k })
    (hs : subscripted slice false (.str x t) (.ref s.heap.objs.size) = operate [.ref s.heap.objs.size, .str x t] (getItem (.str x t) (.ref s.heap.objs.size)) := by with_unfolding_all rfl)
    (ht : ∀ r, letTemporaryGo value (.str x t) r = pure () := by intro _; with_unfolding_all rfl) :
    wpAny (model prog w) A (subscriptTail value slice (.str x t) (.ref s.heap.objs.size)) Q E { s with heap := s.heap.push { cls := .type "slice", data := .fields #[.none, .int j uj, .none] } } :=
  tail_of_ItemOn (SBH.sliceItem_ns (P := fun h => ∀ b o, s.heap.get? b = some o → h.get? b = some o) (fun _ _ hk b o e => Heap.get?_push_of_some _ (hk b o e)) (fun _ _ e => e) h (by rw [sizeLine_eq]; lia)) hs ht
end
/-- texts to texts, by g -/
noncomputable def StrRel (g : Str → Str) (v y : Value) : Prop := ∃ r t t', v = .str r t ∧ y = .str (g r) t'
theorem strs_paired {g : Str → Str} : ∀ {vs ys : List Value} {rs : List Str}, StrsAre vs rs → Paired (StrRel g) vs ys → StrsAre ys (rs.map g)
  | _, _, _, .nil, .nil => .nil
  | _, _, _, .cons r t h, .cons ⟨r', _, t', e1, e2⟩ hp => by
    cases e1
    rw [e2]
    exact .cons _ t' (strs_paired h hp)
theorem strsAre_mem : ∀ {vs : List Value} {rs : List Str} {v : Value}, StrsAre vs rs → v ∈ vs → ∃ r t, v = .str r t ∧ r ∈ rs
  | _, _, v, .cons r t h, hv => by
    rcases List.mem_cons.mp hv with e | hv
    · exact ⟨r, t, e, .head _⟩
    · obtain ⟨r', t', e, hm⟩ := strsAre_mem h hv
      exact ⟨r', t', e, .tail _ hm⟩
end
section
variable {w : World} {mean : ExcName → Option Value} {mg mb : Str → Option Value} {news : List (Addr × Obj)}
theorem anew_c11 : True := by
  w_top off
  trivial
local macro_rules | `(tactic| walk_at "call type:type") => `(tactic| ((with_reducible show wpAny _ _ (call _ [Value.bytes _ _]) _ _ _); refine call_type_of (Tx := "bytes") rfl (by decide +kernel) ?_))
local macro_rules | `(tactic| walk_at "getMethod str") => `(tactic| with_reducible refine gm_encode ?_)
local macro_rules | `(tactic| walk_at "getMethod bytes") => `(tactic| with_reducible refine gm_translate ?_)
local macro_rules | `(tactic| walk_at "call builtin:str.encode") => `(tactic| (refine encode_ascii (by assumption) (by first | assumption | lia) ?_; intro t9 k9))
local macro_rules | `(tactic| walk_at "getMethod type:bytes") => `(tactic| (k_here; refine' method_type ?F ?X ?m (by decide +kernel) ?e ?h ?_; (case F => k_asm); (case X => k_asm); (case m => kernel_rfl); (case e => k_dflt k_is); (case h => k_handed)))
local macro_rules | `(tactic| walk_at "call builtin:bytes.maketrans") => `(tactic| (refine maketrans_bytes (by rfl) ?_; intro t9 k9; (try dsimp only)))
local macro_rules | `(tactic| walk_at "call builtin:bytes.translate") => `(tactic| (refine translate_bytes (mkTab_size _ _) (by assumption) ?_; intro t9 k9; (try dsimp only)))
local macro_rules | `(tactic| walk_at "mine_start") => `(tactic| ((case kA => exact rfl); (case kF => exact rfl); (case kK => assumption); (case k1 => k_asm); (case k2 => k_asm); (case k3 => k_asm); (case k4 => k_asm); (case k5 => k_asm); (case k6 => k_is); (case k7 => k_is); (case k8 => ktr_room); (case k9 => first | exact BindsTo.of_eq rfl | exact binds_K (by k_in) rfl (by k_is) rfl rfl rfl); (case c5 => decide); (case kB => exact locs rfl); (case c2 => exact rfl); (case c3 => exact rfl); (case c4 => exact rfl); k_whole))
local macro_rules | `(tactic| walk_at "mine_use") => `(tactic| ((case k1 => k_asm); (case k2 => k_asm); (case k3 => k_asm); (case k4 => k_asm); (case k5 => k_asm); (case kK => first | exact rfl | assumption); (case kd => ktr_room); (case ku => ktr_units)))
local macro_rules | `(tactic| walk_at "mine_steps") => `(tactic| repeat' (first | (k_unfold; (try dsimp only)) | ((fail_if_success (with_reducible show wpAny _ _ (pyIter _) _ _ _)); (fail_if_success (with_reducible show InvEndN _ _ _ _ _ _ _)); (fail_if_success (with_reducible show KswEnd _ _ _ _ _ _ _ _ _ _ _ _)); (fail_if_success (with_reducible show wpAny _ _ (exec (Stmt.While _ _ _ _) _) _ _ _)); first | walk1 | (dsimp only; walk1)) | fail "no step"))
local macro_rules | `(tactic| k_all) => `(tactic| assumption)
local macro_rules | `(tactic| size_fits) => `(tactic| assumption)
local macro_rules | `(tactic| walk_at "mine_same") => `(tactic| (intro z h1 h2 h3; (simp only [List.forall_mem_cons, List.not_mem_nil, false_implies, implies_true, and_true, ne_eq] at h2); (simp only [List.contains_cons, List.contains_nil, Bool.or_false, Bool.or_eq_false_iff, beq_eq_false_iff_ne, ne_eq] at h3); first | rfl | (simp [h1, h2, h3]; done) | (simp [kstB, h1, h2, h3]; done)))
local macro_rules | `(tactic| walk_at "mine_dec") => `(tactic| first | (with_reducible assumption) | ((simp only [decide_eq_true_eq, decide_eq_false_iff_not, Bool.not_eq_true, ne_eq, beq_iff_eq, beq_eq_false_iff_ne, bne_iff_ne]); lia) | lia)
local macro_rules | `(tactic| walk_at "ite") => `(tactic| (k_here; first | (refine ite_neg (by walk_at "mine_dec") ?_) | (refine ite_pos (by walk_at "mine_dec") ?_)))
local macro_rules | `(tactic| walk_at "mine_same2") => `(tactic| (intro z h2 h3; (simp only [List.forall_mem_cons, List.not_mem_nil, false_implies, implies_true, and_true, ne_eq] at h2); (simp only [List.contains_cons, List.contains_nil, Bool.or_false, Bool.or_eq_false_iff, beq_eq_false_iff_ne, ne_eq] at h3); first | rfl | (simp [h2, h3]; done) | (simp [kstB, h2, h3]; done)))
local macro_rules | `(tactic| walk_at "exec For") => `(tactic| (k_here; (with_reducible show wpAny _ _ (exec (Stmt.For (Expr.Name _ _) _ _ [] _) _) _ _ _); (rename Fr _ _ _ _ => lF'); (with_unfolding_all refine' For_invVF lF' ?k1 ?k2 ?_; (case k1 => exact rfl); (case k2 => exact rfl); k_whole)))
local macro_rules | `(tactic| walk_at "mine_to_for") => `(tactic| repeat' (first | ((fail_if_success (with_reducible show wpAny _ _ (exec (Stmt.For _ _ _ _ _) _) _ _ _)); (fail_if_success (with_reducible show wpAny _ _ (pyIter _) _ _ _)); (fail_if_success (with_reducible show wpAny _ _ (binaryOp Operator.Pow _ _) _ _ _)); first | walk1 | (dsimp only; walk1)) | fail "no step"))
local macro_rules | `(tactic| walk_at "mine_to_tup") => `(tactic| repeat' (first | ((fail_if_success (with_reducible show wpAny _ _ (subscriptTail (Expr.Tuple _ _ _) _ _ _) _ _ _)); first | walk1 | (dsimp only; walk1)) | fail "no step"))
local macro_rules | `(tactic| walk_at "mine_stepsA") => `(tactic| repeat' (first | (k_unfold; (try dsimp only)) | ((fail_if_success (with_reducible show wpAny _ _ (pyIter _) _ _ _)); (fail_if_success (with_reducible show wpAny _ _ (call (Value.builtin "list.append") _ _) _ _ _)); (fail_if_success (with_reducible show wpAny _ _ (call (Value.ref 143) _ _) _ _ _)); (fail_if_success (with_reducible show wpAny _ _ (call (Value.ref 150) _ _) _ _ _)); (fail_if_success (with_reducible show wpAny _ _ (call (Value.builtin "sorted") _ _) _ _ _)); (fail_if_success (with_reducible show wpAny _ _ (compareOp CmpOp.Eq (Value.ref _) (Value.ref _)) _ _ _)); (fail_if_success (with_reducible show wpAny _ _ (exec (Stmt.For _ _ _ _ _) _) _ _ _)); first | walk1 | (dsimp only; walk1)) | fail "no step"))
local macro_rules | `(tactic| walk_at "subscriptTail") => `(tactic| ((with_reducible show wpAny _ _ (subscriptTail _ _ (Value.str _ _) (Value.ref _)) _ _ _); (refine slice_keep_ns (by assumption) ?_); intro h9 t9 k9 hk9; (have hn9 := Heap.Ns.keeps (by assumption) hk9); (try dsimp only)))
/-- a row as it is sent -/
noncomputable def rowOf (r : Str) : Str := if (Txt.slice r none (some 1) == Str.ofString ".") = true then Str.ofString "." ++ r else r
theorem spec_rows (x : Str) (t : Tok) (hx : x.length ≤ 1000) :
    Con w mean mg mb 183 [.str x t] [] 2 20 news (fun v nw => ∃ D ys n, v = .ref D ∧ (∀ p ∈ news, p.1 ≠ D) ∧ StrsAre ys ((Txt.split x (Str.ofString "\n")).map rowOf) ∧ nw = (D, W.listOf ys.toArray n) :: news) := by
  unfold Con; k_fill; intro dp un gd cn cs a ccd cl outer A₀ base h₀ L m s Q E B F X N T hk hd hu ret
  refine wpAny_call ?_
  k_dflt (refine' code_def (binds := [(Str.ofString "text", .str x t)]) ?k1 ?k2 ?k3 ?k4 ?k5 ?kA ?kF ?kK ?k6 ?k7 ?k8 ?k9 ?kB ?_ ?c2 ?c3 ?c4 ?c5; walk_at "mine_start")
  intro g L' h' FG F' N' B' X' T'
  try dsimp only
  try k_fold
  walk_at "mine_steps"
  rename StrsAre _ _ => hS
  rename (List.map _ _ = Txt.split _ _) => hE
  rename Heap.IsList _ _ _ => hL
  rename (∀ a : Str, a ∈ _ → a.length ≤ x.length) => hLen
  rename News _ _ _ _ => N1
  rename Fr _ _ _ _ => F1
  have hcount := (fact_split x (Str.ofString "\n")).2
  refine comp_list (StrRel rowOf) rfl F1 N1 hL ?sz1 ?el1 ?dn1
  case sz1 =>
    rw [hS.length, hE]
    lia
  case el1 =>
    intro C v s₃ m₃ E' hv hn hm
    obtain ⟨r, tr, rfl, hr⟩ := strsAre_mem hS hv
    have hr : r.length ≤ 1000000 := Nat.le_trans (hLen r hr) (by lia)
    walk_at "mine_steps"
    · rename ((_ == Str.ofString ".") = true) => hc
      exact ⟨⟨r, tr, _, rfl, congrArg (fun z => Value.str z _) (if_pos hc).symm⟩, _, _, rfl, by assumption⟩
    · rename ((_ == Str.ofString ".") = false) => hc
      exact ⟨⟨r, tr, _, rfl, congrArg (fun z => Value.str z _) (if_neg (by rw [hc]; decide)).symm⟩, _, _, rfl, by assumption⟩
  case dn1 =>
    intro D h' tk ys n hne hP F2 N2
    have hSt := strs_paired hS hP
    rw [hE] at hSt
    clear F1 N1 hL
    walk_at "mine_steps"
    rename News _ _ _ _ => nE
    refine ret _ _ _ _ ⟨D, ys, n, rfl, fun p hp => hne p (.tail _ hp), hSt, rfl⟩ (by k_asm) (fun p hp => nE p ?_)
    rcases List.mem_cons.mp hp with e | hp
    · rw [e]; exact .head _
    · exact .tail _ (.tail _ hp)
end
section
variable {w : World} {mean : ExcName → Option Value} {mg mb : Str → Option Value} {news : List (Addr × Obj)}
noncomputable def KGen {σ : Type} (Led : σ → List (Addr × Obj)) (ps : σ → List (Str × Value)) (x : Str) (stored : List Str) (m₀ : Str → Option Value) (P : Nat → σ → Prop) (i : Nat) (m : Str → Option Value) (nx : List (Addr × Obj)) : Prop :=
  ∃ c : σ, nx = Led c ∧ (∀ p ∈ ps c, m p.1 = some p.2) ∧ (∀ z, z ≠ x → (∀ p ∈ ps c, z ≠ p.1) → stored.contains z = false → m z = m₀ z) ∧ P i c
section
variable {prog : Program} {w : World} {A : Around} {E : Value → Shared → Prop} {s : Shared} {env : Env} {h₀ : Heap} {x : Str} {body : List Stmt} {Q : Flow → Shared → Prop}
theorem loop_gen {σ : Type} {I : Addr} {fp wr : List Addr} {n : Nat} {Pv : Nat → Value → Prop} {St : Nat → Heap → Prop} {m₀ : Str → Option Value} (Led : σ → List (Addr × Obj)) (ps : σ → List (Str × Value)) (stored : List Str) (P : Nat → σ → Prop) (c₀ : σ)
    (W : Walks prog w A I fp wr n Pv St) (hLf : env.locals ∉ fp) (hwr : ∀ b ∈ wr, h₀.get? b = none) (hnw : ∀ p ∈ Led c₀, p.1 ∉ wr) (hfp : ∀ q ∈ Led c₀, q.1 ∉ fp) (hst : St 0 s.heap) (F : Fr h₀ env.locals s.heap m₀) (N : News h₀ env.locals s.heap (Led c₀))
    (hk : ∀ p ∈ ps c₀, m₀ p.1 = some p.2) (hp : P 0 c₀)
    (turn : ∀ (c : σ) i v (u : Str → Option Value) h tk own, i < n → Pv i v → OwnOff own ((Led c₀).map (·.1)) → P i c →
      Fr h₀ env.locals h (fun y => if y = x then some v else kstB (fun z => if stored.contains z then u z else m₀ z) (ps c) y) → News h₀ env.locals h (Led c ++ own) →
      wpAny (model prog w) A (execs body env) (InvPostN h₀ env.locals (KGen Led ps x stored m₀ P (i + 1)) own ((Led c₀).map (·.1)) { s with heap := h, toks := tk } Q) E { s with heap := h, toks := tk })
    (done : ∀ (c : σ) (u : Str → Option Value) h tk, P n c → Fr h₀ env.locals h (fun y => if y = x then u y else kstB (fun z => if stored.contains z then u z else m₀ z) (ps c) y) → News h₀ env.locals h (Led c) → Q .next { s with heap := h, toks := tk }) :
    LoopAtV prog w A h₀ env x body Q E (.ref I) s := by
  refine loop_invN (fun i m nx => KGen Led ps x stored m₀ P i m nx) W hLf hwr hnw hfp hst F N ⟨c₀, rfl, hk, fun _ _ _ _ => rfl, hp⟩ ?_ ?_
  · rintro i v m₁ nx h tk own hi hv _ hoff ⟨c, rfl, h1, h2, hp'⟩ F₁ N₁
    exact turn c i v m₁ h tk own hi hv hoff hp' (kst_fr h1 h2 F₁) N₁
  · rintro m₁ nx h tk ⟨c, rfl, h1, h2, hp'⟩ F₁ N₁
    exact done c m₁ h tk hp' (kst_frOut h1 h2 F₁) N₁
theorem gen_end {σ : Type} {Led : σ → List (Addr × Obj)} {ps : σ → List (Str × Value)} {stored : List Str} {m₀ : Str → Option Value} {P : Nat → σ → Prop} {i : Nat} (c : σ) {L : Addr} {m' : Str → Option Value} {own news' : List (Addr × Obj)} {adr : List Addr} {s₁ : Shared} {h' : Heap} {tk : Nat}
    (F : Fr h₀ L h' m') (N : News h₀ L h' news') (hn : ∀ p ∈ Led c, p ∈ news') (ho : ∀ p ∈ own, p ∈ news') (ha : (Led c).map (·.1) = adr) (hk : ∀ p ∈ ps c, m' p.1 = some p.2) (hr : ∀ z, z ≠ x → (∀ p ∈ ps c, z ≠ p.1) → stored.contains z = false → m' z = m₀ z) (hp : P i c) :
    InvEndN h₀ L (KGen Led ps x stored m₀ P i) own adr s₁ { s₁ with heap := h', toks := tk } :=
  InvEndN.intro F N ⟨c, rfl, hk, hr, hp⟩ ha hn ho
/-- a loop over a range -/
theorem loop_range {σ : Type} {r : Addr} {a b st : Int} {t₁ t₂ t₃ : Tok} {n : Nat} {m₀ : Str → Option Value} (Led : σ → List (Addr × Obj)) (ps : σ → List (Str × Value)) (stored : List Str) (P : Nat → σ → Prop) (c₀ : σ)
    (hh : A.handled = none) (hr : IsRange s.heap r a b st t₁ t₂ t₃) (hsmall : Builtin.Range.small a b st = true) (hn : Builtin.Range.rangeSize a b st = (n : Int)) (F : Fr h₀ env.locals s.heap m₀) (N : News h₀ env.locals s.heap (Led c₀))
    (hk : ∀ p ∈ ps c₀, m₀ p.1 = some p.2) (hp : P 0 c₀)
    (turn : ∀ (c : σ) (i : Nat) t (u : Str → Option Value) h tk own, i < n → OwnOff own ((Led c₀).map (·.1)) → P i c →
      Fr h₀ env.locals h (fun y => if y = x then some (.int (a + i * st) t) else kstB (fun z => if stored.contains z then u z else m₀ z) (ps c) y) → News h₀ env.locals h (Led c ++ own) →
      wpAny (model prog w) A (execs body env) (InvPostN h₀ env.locals (KGen Led ps x stored m₀ P (i + 1)) own ((Led c₀).map (·.1)) { s with heap := h, toks := tk } Q) E { s with heap := h, toks := tk })
    (done : ∀ (c : σ) (u : Str → Option Value) h tk, P n c → Fr h₀ env.locals h (fun y => if y = x then u y else kstB (fun z => if stored.contains z then u z else m₀ z) (ps c) y) → News h₀ env.locals h (Led c) → Q .next { s with heap := h, toks := tk }) :
    wpAny (model prog w) A (pyIter (.ref r)) (fun it s₂ => LoopAtV prog w A h₀ env x body Q E it s₂) E s := by
  refine wpAny_pyIter_range hr hsmall ?_
  rw [hn]
  have W := Walks.range (prog := prog) (w := w) hh s.heap.objs.size a st n
  refine loop_gen Led ps stored P c₀ W ?_ ?_ ?_ ?_ (by show IsRangeIter _ _ _ _ _; simpa using Heap.get?_push_size _ rfl) (F.push _) (fun p hp => ⟨Heap.get?_push_of_some _ (N p hp).1, (N p hp).2⟩) hk hp ?_ ?_
  · intro hm
    exact absurd F.ns.lt ((List.mem_singleton.mp hm) ▸ Nat.lt_irrefl _)
  · intro b hb
    rw [List.mem_singleton.mp hb]
    exact next_is_new F
  · intro p hp hI
    exact absurd (Heap.lt_size (N p hp).1) ((List.mem_singleton.mp hI) ▸ Nat.lt_irrefl _)
  · intro p hp hI
    exact absurd (Heap.lt_size (N p hp).1) ((List.mem_singleton.mp hI) ▸ Nat.lt_irrefl _)
  · rintro c i v u h tk own hi ⟨t, rfl⟩ off hp' F₁ N₁
    exact turn c i t u h tk own hi off hp' F₁ N₁
  · intro c u h tk hp' F₁ N₁
    exact done c u h tk hp' F₁ N₁
/-- a loop over a list that is of the ledger (at its end) or below it, and is not changed -/
theorem loop_list {σ : Type} {l : Addr} {vs : List Value} {m₀ : Str → Option Value} (Led : σ → List (Addr × Obj)) (ps : σ → List (Str × Value)) (stored : List Str) (P : Nat → σ → Prop) (c₀ : σ)
    (hh : A.handled = none) (hl : s.heap.IsList l vs.toArray) (hL : env.locals ≠ l) (hnl : ∀ p ∈ Led c₀, p.1 ≠ l) (F : Fr h₀ env.locals s.heap m₀) (N : News h₀ env.locals s.heap (Led c₀))
    (hk : ∀ p ∈ ps c₀, m₀ p.1 = some p.2) (hp : P 0 c₀)
    (turn : ∀ (c : σ) (i : Nat) v (u : Str → Option Value) h tk own, vs[i]? = some v → OwnOff own ((Led c₀).map (·.1)) → P i c →
      Fr h₀ env.locals h (fun y => if y = x then some v else kstB (fun z => if stored.contains z then u z else m₀ z) (ps c) y) → News h₀ env.locals h (Led c ++ own) →
      wpAny (model prog w) A (execs body env) (InvPostN h₀ env.locals (KGen Led ps x stored m₀ P (i + 1)) own ((Led c₀).map (·.1)) { s with heap := h, toks := tk } Q) E { s with heap := h, toks := tk })
    (done : ∀ (c : σ) (u : Str → Option Value) h tk, P vs.length c → Fr h₀ env.locals h (fun y => if y = x then u y else kstB (fun z => if stored.contains z then u z else m₀ z) (ps c) y) → News h₀ env.locals h (Led c) → Q .next { s with heap := h, toks := tk }) :
    wpAny (model prog w) A (pyIter (.ref l)) (fun it s₂ => LoopAtV prog w A h₀ env x body Q E it s₂) E s := by
  obtain ⟨ol, hol, _⟩ := id hl
  have hlt : l < s.heap.objs.size := Heap.lt_size hol
  have hne : l ≠ s.heap.objs.size := Nat.ne_of_lt hlt
  refine wpAny_pyIter_list hl ?_
  have W := Walks.list (prog := prog) (w := w) hh s.heap.objs.size l hne vs.toArray
  have hsz : vs.toArray.size = vs.length := by simp
  rw [hsz] at W
  refine loop_gen Led ps stored P c₀ W ?_ ?_ ?_ ?_ ⟨⟨_, Heap.get?_push_size _ rfl, rfl, rfl⟩, hl.at fun o e => Heap.get?_push_of_some _ e⟩ (F.push _) (fun p hp => ⟨Heap.get?_push_of_some _ (N p hp).1, (N p hp).2⟩) hk hp ?_ ?_
  · intro hm
    rcases List.mem_cons.mp hm with e | hm
    · exact absurd F.ns.lt (e ▸ Nat.lt_irrefl _)
    · exact hL (List.mem_singleton.mp hm)
  · intro b hb
    rw [List.mem_singleton.mp hb]
    exact next_is_new F
  · intro p hp hI
    exact absurd (Heap.lt_size (N p hp).1) ((List.mem_singleton.mp hI) ▸ Nat.lt_irrefl _)
  · intro p hp hI
    rcases List.mem_cons.mp hI with e | hI
    · exact absurd (Heap.lt_size (N p hp).1) (e ▸ Nat.lt_irrefl _)
    · exact hnl p hp (List.mem_singleton.mp hI)
  · rintro c i v u h tk own hi hv off hp' F₁ N₁
    exact turn c i v u h tk own (by simpa using hv) off hp' F₁ N₁
  · intro c u h tk hp' F₁ N₁
    exact done c u h tk hp' F₁ N₁
end
theorem newsTail {h₀ h : Heap} {L : Addr} {a : Addr × Obj} {l : List (Addr × Obj)} (N : News h₀ L h (a :: l)) : News h₀ L h l := fun p hp => N p (.tail _ hp)
theorem allLt_mem {d : Addr} : ∀ {l : List (Addr × Obj)}, AllLt d l → ∀ p ∈ l, p.1 < d
  | [], _, _, h => nomatch h
  | _ :: _, ⟨a, b⟩, p, h => by
    rcases List.mem_cons.mp h with e | h
    · rw [e]; exact a
    · exact allLt_mem b p h
end
section
variable {w : World} {mean : ExcName → Option Value} {mg mb : Str → Option Value} {news : List (Addr × Obj)}
theorem anew_c12 : True := by
  w_top off
  trivial
local macro_rules | `(tactic| walk_at "call type:type") => `(tactic| ((with_reducible show wpAny _ _ (call _ [Value.bytes _ _]) _ _ _); refine call_type_of (Tx := "bytes") rfl (by decide +kernel) ?_))
local macro_rules | `(tactic| walk_at "getMethod str") => `(tactic| with_reducible refine gm_encode ?_)
local macro_rules | `(tactic| walk_at "getMethod bytes") => `(tactic| with_reducible refine gm_translate ?_)
local macro_rules | `(tactic| walk_at "call builtin:str.encode") => `(tactic| (refine encode_ascii (by assumption) (by first | assumption | lia) ?_; intro t9 k9))
local macro_rules | `(tactic| walk_at "getMethod type:bytes") => `(tactic| (k_here; refine' method_type ?F ?X ?m (by decide +kernel) ?e ?h ?_; (case F => k_asm); (case X => k_asm); (case m => kernel_rfl); (case e => k_dflt k_is); (case h => k_handed)))
local macro_rules | `(tactic| walk_at "call builtin:bytes.maketrans") => `(tactic| (refine maketrans_bytes (by rfl) ?_; intro t9 k9; (try dsimp only)))
local macro_rules | `(tactic| walk_at "call builtin:bytes.translate") => `(tactic| (refine translate_bytes (mkTab_size _ _) (by assumption) ?_; intro t9 k9; (try dsimp only)))
local macro_rules | `(tactic| walk_at "mine_start") => `(tactic| ((case kA => exact rfl); (case kF => exact rfl); (case kK => assumption); (case k1 => k_asm); (case k2 => k_asm); (case k3 => k_asm); (case k4 => k_asm); (case k5 => k_asm); (case k6 => k_is); (case k7 => k_is); (case k8 => ktr_room); (case k9 => first | exact BindsTo.of_eq rfl | exact binds_K (by k_in) rfl (by k_is) rfl rfl rfl); (case c5 => decide); (case kB => exact locs rfl); (case c2 => exact rfl); (case c3 => exact rfl); (case c4 => exact rfl); k_whole))
local macro_rules | `(tactic| walk_at "mine_use") => `(tactic| ((case k1 => k_asm); (case k2 => k_asm); (case k3 => k_asm); (case k4 => k_asm); (case k5 => k_asm); (case kK => first | exact rfl | assumption); (case kd => ktr_room); (case ku => ktr_units)))
local macro_rules | `(tactic| walk_at "mine_steps") => `(tactic| repeat' (first | (k_unfold; (try dsimp only)) | ((fail_if_success (with_reducible show wpAny _ _ (pyIter _) _ _ _)); (fail_if_success (with_reducible show InvEndN _ _ _ _ _ _ _)); (fail_if_success (with_reducible show KswEnd _ _ _ _ _ _ _ _ _ _ _ _)); (fail_if_success (with_reducible show wpAny _ _ (exec (Stmt.While _ _ _ _) _) _ _ _)); first | walk1 | (dsimp only; walk1)) | fail "no step"))
local macro_rules | `(tactic| k_all) => `(tactic| assumption)
local macro_rules | `(tactic| size_fits) => `(tactic| assumption)
local macro_rules | `(tactic| walk_at "mine_same") => `(tactic| (intro z h1 h2 h3; (simp only [List.forall_mem_cons, List.not_mem_nil, false_implies, implies_true, and_true, ne_eq] at h2); (simp only [List.contains_cons, List.contains_nil, Bool.or_false, Bool.or_eq_false_iff, beq_eq_false_iff_ne, ne_eq] at h3); first | rfl | (simp [h1, h2, h3]; done) | (simp [kstB, h1, h2, h3]; done)))
local macro_rules | `(tactic| walk_at "mine_dec") => `(tactic| first | (with_reducible assumption) | ((simp only [decide_eq_true_eq, decide_eq_false_iff_not, Bool.not_eq_true, ne_eq, beq_iff_eq, beq_eq_false_iff_ne, bne_iff_ne]); lia) | lia)
local macro_rules | `(tactic| walk_at "ite") => `(tactic| (k_here; first | (refine ite_neg (by walk_at "mine_dec") ?_) | (refine ite_pos (by walk_at "mine_dec") ?_)))
local macro_rules | `(tactic| walk_at "mine_same2") => `(tactic| (intro z h2 h3; (simp only [List.forall_mem_cons, List.not_mem_nil, false_implies, implies_true, and_true, ne_eq] at h2); (simp only [List.contains_cons, List.contains_nil, Bool.or_false, Bool.or_eq_false_iff, beq_eq_false_iff_ne, ne_eq] at h3); first | rfl | (simp [h2, h3]; done) | (simp [kstB, h2, h3]; done)))
local macro_rules | `(tactic| walk_at "exec For") => `(tactic| (k_here; (with_reducible show wpAny _ _ (exec (Stmt.For (Expr.Name _ _) _ _ [] _) _) _ _ _); (rename Fr _ _ _ _ => lF'); (with_unfolding_all refine' For_invVF lF' ?k1 ?k2 ?_; (case k1 => exact rfl); (case k2 => exact rfl); k_whole)))
local macro_rules | `(tactic| walk_at "mine_to_for") => `(tactic| repeat' (first | ((fail_if_success (with_reducible show wpAny _ _ (exec (Stmt.For _ _ _ _ _) _) _ _ _)); (fail_if_success (with_reducible show wpAny _ _ (pyIter _) _ _ _)); (fail_if_success (with_reducible show wpAny _ _ (binaryOp Operator.Pow _ _) _ _ _)); first | walk1 | (dsimp only; walk1)) | fail "no step"))
local macro_rules | `(tactic| walk_at "mine_to_tup") => `(tactic| repeat' (first | ((fail_if_success (with_reducible show wpAny _ _ (subscriptTail (Expr.Tuple _ _ _) _ _ _) _ _ _)); first | walk1 | (dsimp only; walk1)) | fail "no step"))
local macro_rules | `(tactic| walk_at "mine_stepsA") => `(tactic| repeat' (first | (k_unfold; (try dsimp only)) | ((fail_if_success (with_reducible show wpAny _ _ (pyIter _) _ _ _)); (fail_if_success (with_reducible show wpAny _ _ (call (Value.builtin "list.append") _ _) _ _ _)); (fail_if_success (with_reducible show wpAny _ _ (call (Value.ref 143) _ _) _ _ _)); (fail_if_success (with_reducible show wpAny _ _ (call (Value.ref 150) _ _) _ _ _)); (fail_if_success (with_reducible show wpAny _ _ (call (Value.builtin "sorted") _ _) _ _ _)); (fail_if_success (with_reducible show wpAny _ _ (compareOp CmpOp.Eq (Value.ref _) (Value.ref _)) _ _ _)); (fail_if_success (with_reducible show wpAny _ _ (exec (Stmt.For _ _ _ _ _) _) _ _ _)); first | walk1 | (dsimp only; walk1)) | fail "no step"))
local macro_rules | `(tactic| walk_at "call builtin:len") => `(tactic| (k_here; (with_reducible show wpAny _ _ (call (Value.builtin "len") [Value.ref _]) _ _ _); (refine hlen (by k_asm) (by assumption) ?_); intro t9 k9; (try dsimp only)))
local macro_rules | `(tactic| walk_at "call builtin:list.extend") => `(tactic| (k_here; (with_reducible show wpAny _ _ (call (Value.builtin _) [Value.ref _, Value.ref _]) _ _ _); (rename (_ ∧ _ ∧ AllLt _ _) => hX9); (refine hextend (by k_asm) (by k_asm) (Nat.ne_of_gt (And.left hX9)) (by assumption) (by simp) (by first | assumption | (simp; lia)) ?_); intro h9 F9 N9; (try dsimp only)))
structure OS where
  vs : List Value
  out : List Int
  n : Nat
noncomputable def numOf (l : List Int) : Int := l.foldl (fun a v => a * 64 + v) 0
noncomputable def quadAt (ns : List Int) (i : Nat) : List Int := ((ns ++ [0, 0, 0]).drop (4 * i)).take 4
noncomputable def threeOf (N : Int) : List Int := [N / 65536, N / 256 % 256, N % 256]
noncomputable def octs (ns : List Int) (m : Nat) : List Int := (List.range m).flatMap fun i => threeOf (numOf (quadAt ns i))
theorem octs_length (ns : List Int) (m : Nat) : (octs ns m).length = 3 * m := by
  induction m with
  | zero => rfl
  | succ m ih =>
    unfold octs at ih ⊢
    rw [List.range_succ, List.flatMap_append, List.length_append, ih]
    simp [threeOf]; lia
theorem ownNe2 {O V : Addr} {oV oO : Obj} {rest own : List (Addr × Obj)} (h : V < O ∧ AllLt O rest) (off : OwnOff own (((O, oO) :: (V, oV) :: rest).map (·.1))) : ∀ p ∈ (V, oV) :: (rest ++ own), p.1 ≠ O := by
  intro p hp
  rcases List.mem_cons.mp hp with e | hp
  · rw [e]; exact Nat.ne_of_lt h.1
  · rcases List.mem_append.mp hp with hp | hp
    · exact Nat.ne_of_lt (allLt_mem h.2 p hp)
    · exact off p hp O (by simp)
theorem octs_succ (ns : List Int) (m : Nat) : octs ns (m + 1) = octs ns m ++ threeOf (numOf (quadAt ns m)) := by
  unfold octs
  rw [List.range_succ, List.flatMap_append]
  simp
theorem numOf_range : ∀ (l : List Int) (a : Int), 0 ≤ a → (∀ v ∈ l, 0 ≤ v ∧ v < 64) → 0 ≤ l.foldl (fun a v => a * 64 + v) a ∧ l.foldl (fun a v => a * 64 + v) a < (a + 1) * 64 ^ l.length
  | [], a, ha, _ => by simp; lia
  | v :: l, a, ha, h => by
    have hv := h v (.head _)
    have ih := numOf_range l (a * 64 + v) (by lia) fun x hx => h x (.tail _ hx)
    refine ⟨ih.1, Int.lt_of_lt_of_le ih.2 ?_⟩
    rw [List.length_cons, Int.pow_succ']
    have e : (a + 1) * (64 * 64 ^ l.length) = (a * 64 + 64) * 64 ^ l.length := by rw [← Int.mul_assoc]; congr 1; lia
    rw [e]
    exact Int.mul_le_mul_of_nonneg_right (by lia) (Int.pow_nonneg (by decide))
theorem octs_range {ns : List Int} (hr : ∀ v ∈ ns, 0 ≤ v ∧ v < 64) {m : Nat} : ∀ x ∈ octs ns m, 0 ≤ x ∧ x < 256 := by
  intro x hx
  unfold octs at hx
  obtain ⟨i, _, hx⟩ := List.mem_flatMap.mp hx
  have hq : ∀ v ∈ quadAt ns i, 0 ≤ v ∧ v < 64 := by
    intro v hv
    unfold quadAt at hv
    have hv := List.mem_of_mem_drop (List.mem_of_mem_take hv)
    rcases List.mem_append.mp hv with h | h
    · exact hr v h
    · simp at h; lia
  have hn := numOf_range (quadAt ns i) 0 (by decide) hq
  have hl : (quadAt ns i).length ≤ 4 := by unfold quadAt; simp; lia
  have hp : (64 : Int) ^ (quadAt ns i).length ≤ 64 ^ 4 := by
    have : (quadAt ns i).length = 0 ∨ (quadAt ns i).length = 1 ∨ (quadAt ns i).length = 2 ∨ (quadAt ns i).length = 3 ∨ (quadAt ns i).length = 4 := by lia
    rcases this with e | e | e | e | e <;> rw [e] <;> decide
  have e4 : (64 : Int) ^ 4 = 16777216 := by decide
  have hb : 0 ≤ numOf (quadAt ns i) ∧ numOf (quadAt ns i) < 16777216 := by
    unfold numOf
    lia
  unfold threeOf at hx
  simp at hx
  rcases hx with e | e | e <;> rw [e] <;> lia
theorem range4_size (k : Nat) : Builtin.Range.rangeSize 0 (k : Int) 4 = (((k + 3) / 4 : Nat) : Int) := by
  unfold Builtin.Range.rangeSize
  rw [if_pos (by decide)]
  split <;> lia
theorem range4_small {k : Nat} (hk : k ≤ 1000) : Builtin.Range.small 0 (k : Int) 4 = true := by
  unfold Builtin.Range.small
  rw [range4_size]
  unfold Builtin.Range.rangeFitsLong
  rw [if_pos (show (4 : Int) > 0 by decide)]
  simp only [Bool.and_eq_true, Bool.or_eq_true, decide_eq_true_eq, beq_iff_eq]
  lia
theorem quad_eq {ns : List Int} {i : Nat} (hi : i < (ns.length + 3) / 4) :
    List.take (min (0 + (i : Int) * 4 + 4).toNat (ns ++ [0, 0, 0]).length - (0 + (i : Int) * 4).toNat) (List.drop (0 + (i : Int) * 4).toNat (ns ++ [0, 0, 0])) = quadAt ns i := by
  have e1 : (0 + (i : Int) * 4).toNat = 4 * i := by lia
  have e2 : (0 + (i : Int) * 4 + 4).toNat = 4 * i + 4 := by lia
  have e3 : min (4 * i + 4) (ns ++ [0, 0, 0]).length - 4 * i = 4 := by simp; lia
  rw [e1, e2, e3]; rfl
theorem quad_len {ns : List Int} {i : Nat} (hi : i < (ns.length + 3) / 4) : (quadAt ns i).length = 4 := by
  unfold quadAt; simp; lia
theorem numOf_snoc {l : List Int} {j : Nat} {v : Int} (h : l[j]? = some v) : numOf (l.take (j + 1)) = numOf (l.take j) * 64 + v := by
  rw [List.take_add_one, h]
  simp [numOf]
theorem spec_octets {V : Addr} {vs : List Value} {ns : List Int} {n : Nat} {rest : List (Addr × Obj)} (hI : IntsAre vs ns) (hlen : ns.length ≤ 1000) (hr : ∀ v ∈ ns, 0 ≤ v ∧ v < 64) (hne : ∀ q ∈ rest, q.1 ≠ V) :
    Con w mean mg mb 178 [.ref V] [] 2 20 ((V, W.listOf vs.toArray n) :: rest) (fun v nw => (∃ t, v = .bytes (byteArr (octs ns ((ns.length + 3) / 4))) t) ∧ nw = (V, W.listOf vs.toArray n) :: rest) := by
  have hvl := hI.length
  have hs1 : vs.length ≤ 100000 := by lia
  unfold Con; k_fill; intro dp un gd cn cs a ccd cl outer A₀ base h₀ L m s Q E B F X N T hk hd hu ret
  refine wpAny_call ?_
  k_dflt (refine' code_def (binds := [(Str.ofString "values", .ref V)]) ?k1 ?k2 ?k3 ?k4 ?k5 ?kA ?kF ?kK ?k6 ?k7 ?k8 ?k9 ?kB ?_ ?c2 ?c3 ?c4 ?c5; walk_at "mine_start")
  intro g L' h' FG F' N' B' X' T'
  try dsimp only
  try k_fold
  walk_at "mine_steps"
  rename IsRange _ _ _ _ _ _ _ _ => hR
  rename (_ ∧ AllLt _ rest) => hlt0
  rename News _ _ _ _ => N1
  rename Fr _ _ _ _ => F1
  refine loop_range (σ := OS) (n := (ns.length + 3) / 4) (fun c => (_, W.listOf c.vs.toArray c.n) :: (V, W.listOf vs.toArray n) :: rest) (fun _ => []) [Str.ofString "number", Str.ofString "value"] (fun i c => IntsAre c.vs c.out ∧ c.out = octs ns i) ⟨[], [], 0⟩ rfl hR ?hs ?hn F1 N1 ?hk ⟨.nil, rfl⟩ ?turn ?done
  case hk => exact List.forall_mem_nil _
  case hs => exact range4_small hlen
  case hn => exact range4_size ns.length
  case turn =>
    intro c i t u h tk own hi off hP F2 N2
    obtain ⟨hc, ho⟩ := hP
    clear F1 N1 hR
    have hneO := ownNe2 hlt0 off
    have hol : c.out.length = 3 * i := by rw [ho, octs_length]
    have hcl := hc.length
    have hszO : c.vs.length + 3 ≤ 100000 := by lia
    try k_fold
    dsimp only [kstB, List.cons_append] at F2 N2
    walk_at "mine_steps"
    rename IntsAre _ _ => hQ
    rename News _ _ _ _ => N3
    rename Fr _ _ _ _ => F3
    rename (_ ∧ _ ∧ _ ∧ _ ∧ AllLt _ _) => hlt
    have hz := N3 _ (.head _)
    rw [quad_eq hi] at hQ
    have hql := quad_len hi
    refine loop_list (σ := Int × Tok) (fun _ => (_, W.listOf c.vs.toArray c.n) :: (V, W.listOf vs.toArray n) :: (rest ++ own)) (fun c => [(Str.ofString "number", .int c.1 c.2)]) [] (fun j d => d.1 = numOf ((quadAt ns i).take j)) ⟨0, ?t5⟩ rfl ⟨_, hz.1, rfl, _, rfl⟩ ?hL5 ?hnl5 F3 (newsTail (newsTail (newsTail N3))) ?hk5 ?hp5 ?turn5 ?done5
    case hk5 => kst_all
    case hL5 => exact fun e => hz.2.1 e.symm
    case hnl5 =>
      intro p hp
      rcases List.mem_cons.mp hp with e | hp
      · rw [e]; exact Nat.ne_of_lt hlt.2.2.1
      · rcases List.mem_cons.mp hp with e | hp
        · rw [e]; exact Nat.ne_of_lt hlt.2.2.2.1
        · exact Nat.ne_of_lt (allLt_mem hlt.2.2.2.2 p hp)
    case hp5 => rfl
    case turn5 =>
      intro d j v u h tk own2 hv off2 hd F4 N4
      clear F3 N3 F2 N2
      try k_fold
      dsimp only [kstB, List.cons_append] at F4 N4
      obtain ⟨vi, ti, rfl, hvi⟩ : ∃ vi ti, v = .int vi ti ∧ (quadAt ns i)[j]? = some vi := IntsAre.at hQ j v hv
      walk_at "mine_steps"
      rename News _ _ _ _ => nE
      refine gen_end (⟨d.1 * 64 + vi, ?t6⟩ : Int × Tok) (by assumption) nE (fun p hp => List.mem_append.mpr (.inl hp)) (fun p hp => .tail _ (.tail _ (List.mem_append.mpr (.inr hp)))) rfl ?hk6 (by walk_at "mine_same") ?hp6
      case hk6 => kst_all
      case hp6 => rw [numOf_snoc hvi, ← hd]
    case done5 =>
      intro d u h tk hd F4 N4
      clear F3 N3 F2 N2
      have hd' : d.1 = numOf (quadAt ns i) := by
        rw [hd]; congr 1
        have := hQ.length
        rw [this, List.take_length]
      try k_fold
      dsimp only [kstB, List.cons_append] at F4 N4
      walk_at "mine_steps"
      rename News _ _ _ _ => nE
      refine gen_end (⟨_, octs ns (i + 1), _⟩ : OS) (by assumption) nE (by kst_in) (by intro p hp; kst_mem) (by rfl) (List.forall_mem_nil _) (by walk_at "mine_same") ⟨?_, rfl⟩
      have e : octs ns (i + 1) = c.out ++ [d.1.fdiv 65536, (d.1.fdiv 256).fmod 256, d.1.fmod 256] := by
        rw [ho, octs_succ, ← hd', Int.fdiv_eq_ediv_of_nonneg _ (by decide), Int.fdiv_eq_ediv_of_nonneg _ (by decide), Int.fmod_eq_emod_of_nonneg _ (by decide), Int.fmod_eq_emod_of_nonneg _ (by decide)]
        rfl
      rw [e]
      exact IntsAre.append hc (.cons _ _ (.cons _ _ (.cons _ _ .nil)))
  case done =>
    intro c u h tk hP F2 N2
    obtain ⟨hc, ho⟩ := hP
    clear F1 N1 hR
    have ok2 : ∀ x ∈ c.out, 0 ≤ x ∧ x < 256 := by rw [ho]; exact octs_range hr
    have hszO : c.out.length ≤ 16777216 := by rw [ho, octs_length]; lia
    try k_fold
    dsimp only [kstB] at F2
    walk_at "mine_steps"
    rename News _ _ _ _ => nE
    exact ret _ _ _ _ ⟨⟨_, by rw [ho]⟩, rfl⟩ (by k_asm) (newsTail nE)
end
section
variable {w : World} {mean : ExcName → Option Value} {mg mb : Str → Option Value} {news : List (Addr × Obj)}
local macro_rules | `(tactic| walk_at "mine_none") => `(tactic| skip)
theorem anew_c13 : True := by
  w_top off
  trivial
local macro_rules | `(tactic| walk_at "call type:type") => `(tactic| ((with_reducible show wpAny _ _ (call _ [Value.bytes _ _]) _ _ _); refine call_type_of (Tx := "bytes") rfl (by decide +kernel) ?_))
local macro_rules | `(tactic| walk_at "getMethod str") => `(tactic| with_reducible refine gm_encode ?_)
local macro_rules | `(tactic| walk_at "getMethod bytes") => `(tactic| with_reducible refine gm_translate ?_)
local macro_rules | `(tactic| walk_at "call builtin:str.encode") => `(tactic| (refine encode_ascii (by assumption) (by first | assumption | lia) ?_; intro t9 k9))
local macro_rules | `(tactic| walk_at "getMethod type:bytes") => `(tactic| (k_here; refine' method_type ?F ?X ?m (by decide +kernel) ?e ?h ?_; (case F => k_asm); (case X => k_asm); (case m => kernel_rfl); (case e => k_dflt k_is); (case h => k_handed)))
local macro_rules | `(tactic| walk_at "call builtin:bytes.maketrans") => `(tactic| (refine maketrans_bytes (by rfl) ?_; intro t9 k9; (try dsimp only)))
local macro_rules | `(tactic| walk_at "call builtin:bytes.translate") => `(tactic| (refine translate_bytes (mkTab_size _ _) (by assumption) ?_; intro t9 k9; (try dsimp only)))
local macro_rules | `(tactic| walk_at "mine_start") => `(tactic| ((case kA => exact rfl); (case kF => exact rfl); (case kK => assumption); (case k1 => k_asm); (case k2 => k_asm); (case k3 => k_asm); (case k4 => k_asm); (case k5 => k_asm); (case k6 => k_is); (case k7 => k_is); (case k8 => ktr_room); (case k9 => first | exact BindsTo.of_eq rfl | exact binds_K (by k_in) rfl (by k_is) rfl rfl rfl); (case c5 => decide); (case kB => exact locs rfl); (case c2 => exact rfl); (case c3 => exact rfl); (case c4 => exact rfl); k_whole))
local macro_rules | `(tactic| walk_at "mine_use") => `(tactic| ((case k1 => k_asm); (case k2 => k_asm); (case k3 => k_asm); (case k4 => k_asm); (case k5 => k_asm); (case kK => first | exact rfl | assumption); (case kd => ktr_room); (case ku => ktr_units)))
local macro_rules | `(tactic| walk_at "mine_steps") => `(tactic| repeat' (first | (k_unfold; (try dsimp only)) | ((fail_if_success (with_reducible show wpAny _ _ (pyIter _) _ _ _)); (fail_if_success (with_reducible show InvEndN _ _ _ _ _ _ _)); (fail_if_success (with_reducible show KswEnd _ _ _ _ _ _ _ _ _ _ _ _)); (fail_if_success (with_reducible show wpAny _ _ (exec (Stmt.While _ _ _ _) _) _ _ _)); first | walk1 | (dsimp only; walk1)) | fail "no step"))
local macro_rules | `(tactic| k_all) => `(tactic| assumption)
local macro_rules | `(tactic| size_fits) => `(tactic| assumption)
local macro_rules | `(tactic| walk_at "mine_same") => `(tactic| (intro z h1 h2 h3; (simp only [List.forall_mem_cons, List.not_mem_nil, false_implies, implies_true, and_true, ne_eq] at h2); (simp only [List.contains_cons, List.contains_nil, Bool.or_false, Bool.or_eq_false_iff, beq_eq_false_iff_ne, ne_eq] at h3); first | rfl | (simp [h1, h2, h3]; done) | (simp [kstB, h1, h2, h3]; done)))
local macro_rules | `(tactic| walk_at "mine_dec") => `(tactic| first | (with_reducible assumption) | ((simp only [decide_eq_true_eq, decide_eq_false_iff_not, Bool.not_eq_true, ne_eq, beq_iff_eq, beq_eq_false_iff_ne, bne_iff_ne]); lia) | lia)
local macro_rules | `(tactic| walk_at "ite") => `(tactic| (k_here; first | (refine ite_neg (by walk_at "mine_dec") ?_) | (refine ite_pos (by walk_at "mine_dec") ?_)))
local macro_rules | `(tactic| walk_at "mine_same2") => `(tactic| (intro z h2 h3; (simp only [List.forall_mem_cons, List.not_mem_nil, false_implies, implies_true, and_true, ne_eq] at h2); (simp only [List.contains_cons, List.contains_nil, Bool.or_false, Bool.or_eq_false_iff, beq_eq_false_iff_ne, ne_eq] at h3); first | rfl | (simp [h2, h3]; done) | (simp [kstB, h2, h3]; done)))
local macro_rules | `(tactic| walk_at "exec For") => `(tactic| (k_here; (with_reducible show wpAny _ _ (exec (Stmt.For (Expr.Name _ _) _ _ [] _) _) _ _ _); (rename Fr _ _ _ _ => lF'); (with_unfolding_all refine' For_invVF lF' ?k1 ?k2 ?_; (case k1 => exact rfl); (case k2 => exact rfl); k_whole)))
local macro_rules | `(tactic| walk_at "mine_to_for") => `(tactic| repeat' (first | ((fail_if_success (with_reducible show wpAny _ _ (exec (Stmt.For _ _ _ _ _) _) _ _ _)); (fail_if_success (with_reducible show wpAny _ _ (pyIter _) _ _ _)); (fail_if_success (with_reducible show wpAny _ _ (binaryOp Operator.Pow _ _) _ _ _)); first | walk1 | (dsimp only; walk1)) | fail "no step"))
local macro_rules | `(tactic| walk_at "mine_to_tup") => `(tactic| repeat' (first | ((fail_if_success (with_reducible show wpAny _ _ (subscriptTail (Expr.Tuple _ _ _) _ _ _) _ _ _)); first | walk1 | (dsimp only; walk1)) | fail "no step"))
local macro_rules | `(tactic| walk_at "mine_stepsA") => `(tactic| repeat' (first | (k_unfold; (try dsimp only)) | ((fail_if_success (with_reducible show wpAny _ _ (pyIter _) _ _ _)); (fail_if_success (with_reducible show wpAny _ _ (call (Value.builtin "list.append") _ _) _ _ _)); (fail_if_success (with_reducible show wpAny _ _ (call (Value.ref 143) _ _) _ _ _)); (fail_if_success (with_reducible show wpAny _ _ (call (Value.ref 150) _ _) _ _ _)); (fail_if_success (with_reducible show wpAny _ _ (call (Value.builtin "sorted") _ _) _ _ _)); (fail_if_success (with_reducible show wpAny _ _ (compareOp CmpOp.Eq (Value.ref _) (Value.ref _)) _ _ _)); (fail_if_success (with_reducible show wpAny _ _ (exec (Stmt.For _ _ _ _ _) _) _ _ _)); first | walk1 | (dsimp only; walk1)) | fail "no step"))
local macro_rules | `(tactic| walk_at "call builtin:list.append") => `(tactic| (k_here; (with_reducible show wpAny _ _ (call (Value.builtin "list.append") [Value.ref _, Value.int _ _]) _ _ _); (refine happend (by k_asm) (by first | assumption | exact newsTail (by assumption)) (by assumption) (by lia) ?_); intro h9 F9 N9; (try dsimp only)))
/-- a contract with a premise on the heap below -/
noncomputable def ConH (P : Heap → Prop) (w : World) (mean : ExcName → Option Value) (mg mb : Str → Option Value) (f : Addr) (vs : List Value) (kw : List (Str × Value)) (d u : Nat)
    (news : List (Addr × Obj)) (R : Value → List (Addr × Obj) → Prop) : Prop :=
  ∀ (dp un : Nat) (gd : Option (List Code)) (cn : Str) (cs : Scope) (a : Addr) (ccd : Value) (cl : List (Str × Addr)) (outer : List Env) (A₀ : Around) (base h₀ : Heap) (L : Addr)
    (m : Str → Option Value) (s : Shared) (Q E : Value → Shared → Prop),
    P h₀ → Below A₀ base outer h₀ → Fr h₀ L s.heap m → (hd.heap_39 w.params).In h₀ → News h₀ L s.heap news → Top hd.view_39 lo mean mg mb h₀ → cs.kind = .function →
    dp + d < recursionLimit → un + u < cLine →
    (∀ v news' h' tk', R v news' → Fr h₀ L h' m → News h₀ L h' news' → Q v { s with heap := h', toks := tk' }) →
    wpAny (model PySem.Challenge.rw_op0032_01.row.prog w) (ktrTop dp un gd cn cs L a ccd cl outer) (call (.ref f) vs kw) Q E s
noncomputable def pick (x : Int) : Int := if x % 3 = 0 then 62 else if x % 3 = 1 then 63 else x / 3 % 62
noncomputable def vstep (vals : List Int) (x : Int) : List Int := vals ++ [if pick x = 63 ∧ vals.count 63 = 3 then 62 else pick x]
noncomputable def vals1 (ns : List Int) : List Int := (if ns.take 5 = [] then [1, 0] else ns.take 5).foldl vstep [62, 63] ++ [25]
noncomputable def lawVals (ns : List Int) : List Int := vals1 ns ++ List.replicate ((-((vals1 ns).length : Int)) % 4).toNat 0
theorem vstep_length (l : List Int) : ∀ a : List Int, (l.foldl vstep a).length = a.length + l.length := by
  induction l with
  | nil => intro a; rfl
  | cons x l ih => intro a; rw [List.foldl_cons, ih]; simp [vstep]; lia
theorem pick_eq (x : Int) : [62, 63, (x.fdiv 3).fmod 62].getD (x.fmod 3).toNat 0 = pick x := by
  have h1 : x.fmod 3 = x % 3 := Int.fmod_eq_emod_of_nonneg _ (by decide)
  have h2 : x.fdiv 3 = x / 3 := Int.fdiv_eq_ediv_of_nonneg _ (by decide)
  have h3 : (x / 3).fmod 62 = x / 3 % 62 := Int.fmod_eq_emod_of_nonneg _ (by decide)
  rw [h1, h2, h3]
  unfold pick
  have : x % 3 = 0 ∨ x % 3 = 1 ∨ x % 3 = 2 := by lia
  rcases this with e | e | e <;> rw [e] <;> rfl
theorem vfold_snoc {l : List Int} {j : Nat} {v : Int} {a : List Int} (h : l[j]? = some v) : (l.take (j + 1)).foldl vstep a = vstep ((l.take j).foldl vstep a) v := by
  rw [List.take_add_one, h]
  simp
local macro_rules | `(tactic| walk_at "call builtin:len") => `(tactic| (k_here; (with_reducible show wpAny _ _ (call (Value.builtin "len") [Value.ref _]) _ _ _); (refine hlen (newsTail (by assumption)) (by simp only [List.length_append, List.length_cons, List.length_nil]; lia) ?_); intro t9 k9; (try dsimp only)))
theorem rep_len (x : Int) : (List.replicate (x.fmod 4).toNat [(0 : Int)]).flatten.length ≤ 3 := by
  rw [Int.fmod_eq_emod_of_nonneg _ (by decide)]
  simp only [List.length_flatten, List.map_replicate, List.sum_replicate_nat, List.length_cons, List.length_nil]
  lia
theorem flat_rep (k : Nat) : (List.replicate k [(0 : Int)]).flatten = List.replicate k 0 := by
  induction k with
  | zero => rfl
  | succ k ih => rw [List.replicate_succ, List.flatten_cons, ih]; rfl
theorem vals_end {vs : List Value} {out ns : List Int} {t : Tok} (hc : IntsAre vs out) (h : vals1 ns = out ++ [25]) :
    out ++ [25] ++ (List.replicate ((-(((vs ++ [Value.int 25 t]).length : Nat) : Int)).fmod 4).toNat [(0 : Int)]).flatten = lawVals ns := by
  unfold lawVals
  rw [h, flat_rep, Int.fmod_eq_emod_of_nonneg _ (by decide)]
  simp only [List.length_append, List.length_cons, List.length_nil, hc.length]
theorem vals1_of {ws : List Value} {out ns bs : List Int} (hB : IntsAre ws bs) (ho : out = (bs.take ws.length).foldl vstep [62, 63]) (e : (if ns.take 5 = [] then [1, 0] else ns.take 5) = bs) : vals1 ns = out ++ [25] := by
  unfold vals1
  rw [e, ho, hB.length, List.take_length]
theorem ints10 {h₀ h : Heap} {L l : Addr} {a b : Tok} {k : Nat} {rest : List (Addr × Obj)} (_ : News h₀ L h ((l, W.listOf #[Value.int 1 a, Value.int 0 b] k) :: rest)) : IntsAre [Value.int 1 a, Value.int 0 b] [1, 0] := .cons _ _ (.cons _ _ .nil)
structure VS where
  vs : List Value
  out : List Int
  n : Nat
theorem spec_values {S : Addr} {sv : List Value} {ns : List Int} (hI : IntsAre sv ns) (hlen : ns.length ≤ 63) :
    ConH (fun h => h.IsList S sv.toArray) w mean mg mb 171 [.ref S] [] 2 20 news (fun v nw => ∃ D ys n, v = .ref D ∧ (∀ p ∈ news, p.1 ≠ D) ∧ IntsAre ys (lawVals ns) ∧ nw = (D, W.listOf ys.toArray n) :: news) := by
  have hvl := hI.length
  unfold ConH; k_fill; intro dp un gd cn cs a ccd cl outer A₀ base h₀ L m s Q E hS B F X N T hk hd hu ret
  refine wpAny_call ?_
  k_dflt (refine' code_def (binds := [(Str.ofString "script", .ref S)]) ?k1 ?k2 ?k3 ?k4 ?k5 ?kA ?kF ?kK ?k6 ?k7 ?k8 ?k9 ?kB ?_ ?c2 ?c3 ?c4 ?c5; walk_at "mine_start")
  intro g L' h' FG F' N' B' X' T'
  try dsimp only
  try k_fold
  have hS' := Fr.lst FG hS
  walk_at "mine_steps"
  · rename News _ _ _ _ => N1
    rename Fr _ _ _ _ => F1
    rename (0 < (List.take 5 ns).length) => h05
    rename IntsAre _ (List.take 5 ns) => hB
    rename (_ ∧ AllLt _ news) => hlt0
    rename (∀ p : Addr × Obj, p ∈ news → p.1 < _) => hV0
    have hz := N1 _ (.head _)
    have hVD := hlt0.1
    have hAl := hlt0.2
    have N2 := newsTail N1
    refine loop_list (σ := VS) (fun c => (_, W.listOf c.vs.toArray c.n) :: news) (fun _ => []) [Str.ofString "value"] (fun j c => IntsAre c.vs c.out ∧ c.out = ((List.take 5 ns).take j).foldl vstep [62, 63]) ⟨_, [62, 63], _⟩ rfl ⟨_, hz.1, rfl, _, rfl⟩ ?hL5 ?hnl5 F1 N2 ?hk5 ?hp5 ?turn5 ?done5
    case hk5 => exact List.forall_mem_nil _
    case hL5 => exact fun e => hz.2.1 e.symm
    case hnl5 =>
      intro p hp
      rcases List.mem_cons.mp hp with e | hp
      · rw [e]; exact Nat.ne_of_lt hVD
      · exact Nat.ne_of_lt (allLt_mem hAl p hp)
    case hp5 => exact ⟨.cons _ _ (.cons _ _ .nil), rfl⟩
    case turn5 =>
      intro c j v u h tk own hv off hP F4 N4
      obtain ⟨hc, ho⟩ := hP
      clear F1 N1 N2
      try k_fold
      dsimp only [kstB, List.cons_append] at F4 N4
      have hj : j < 5 := by
        have := List.getElem?_eq_some_iff.mp hv
        obtain ⟨hj, _⟩ := this
        rw [hB.length] at hj
        simp only [List.length_take, List.length_cons, List.length_nil] at hj
        lia
      have hne5 : ∀ p ∈ news ++ own, p.1 ≠ _ := fun p hp => (List.mem_append.mp hp).elim (fun hp => Nat.ne_of_lt (hV0 p hp)) (fun hp => off p hp _ (.head _))
      have hs5 : c.vs.length ≤ 1000 := by
        rw [hc.length, ho, vstep_length]
        simp only [List.length_take, List.length_cons, List.length_nil]
        lia
      obtain ⟨vi, ti, rfl, hvi⟩ : ∃ vi ti, v = .int vi ti ∧ (List.take 5 ns)[j]? = some vi := IntsAre.at hB j v hv
      walk_at "mine_steps"
      · rename News _ _ _ _ => nE
        rename (_ = (63 : Int)) => h63
        rename (((List.count 63 c.out : Nat) : Int) = 3) => h3
        refine gen_end (⟨_, vstep c.out vi, _⟩ : VS) (by assumption) nE (by kst_in) (by intro p hp; kst_mem) (by rfl) (List.forall_mem_nil _) (by walk_at "mine_same") ⟨?_, by rw [vfold_snoc hvi, ho]⟩
        rw [pick_eq] at h63
        unfold vstep
        rw [if_pos ⟨h63, by lia⟩]
        exact IntsAre.append hc (.cons _ _ .nil)
      · rename News _ _ _ _ => nE
        rename (((List.count 63 c.out : Nat) : Int) ≠ 3) => h3
        refine gen_end (⟨_, vstep c.out vi, _⟩ : VS) (by assumption) nE (by kst_in) (by intro p hp; kst_mem) (by rfl) (List.forall_mem_nil _) (by walk_at "mine_same") ⟨?_, by rw [vfold_snoc hvi, ho]⟩
        rw [pick_eq]
        unfold vstep
        rw [if_neg (by intro e; lia)]
        exact IntsAre.append hc (.cons _ _ .nil)
      · rename News _ _ _ _ => nE
        rename (_ ≠ (63 : Int)) => h63
        refine gen_end (⟨_, vstep c.out vi, _⟩ : VS) (by assumption) nE (by kst_in) (by intro p hp; kst_mem) (by rfl) (List.forall_mem_nil _) (by walk_at "mine_same") ⟨?_, by rw [vfold_snoc hvi, ho]⟩
        rw [pick_eq] at h63 ⊢
        unfold vstep
        rw [if_neg (by intro e; exact h63 e.1)]
        exact IntsAre.append hc (.cons _ _ .nil)
    case done5 =>
      intro c u h tk hP F4 N4
      obtain ⟨hc, ho⟩ := hP
      clear F1 N1 N2
      have hne5 : ∀ p ∈ news, p.1 ≠ _ := fun p hp => Nat.ne_of_lt (hV0 p hp)
      have hs5 : c.vs.length ≤ 1000 := by
        have := hB.length
        rw [hc.length, ho, vstep_length]
        simp only [List.length_take, List.length_cons, List.length_nil] at this ⊢
        lia
      try k_fold
      dsimp only [kstB, List.cons_append] at F4 N4
      walk_at "mine_steps"
      rename News _ _ _ _ => N5
      rename Fr _ _ _ _ => F5
      rename IntsAre _ (List.flatten _) => i5
      rename (_ ∧ _ ∧ AllLt _ news) => hlt5
      refine kmk_add_ints F5 N5 (News.isList N5 (.tail _ (.tail _ (.head _)))) (News.isList N5 (.head _)) (IntsAre.append hc (.cons 25 _ .nil)) i5 ?_ ?_
      · intro D' ws' h' F6 N6 l6 hI6
        rw [vals_end hc (vals1_of hB ho (if_neg (by intro e; rw [e] at h05; exact Nat.lt_irrefl 0 h05)))] at hI6
        try k_fold
        walk_at "mine_steps"
        rename News _ _ _ _ => nE
        refine ret _ _ _ _ ⟨D', ws', 0, rfl, fun p hp => Nat.ne_of_lt (l6 p (.tail _ (.tail _ (.tail _ hp)))), hI6, rfl⟩ (by k_asm) (fun p hp => nE p ?_)
        rcases List.mem_cons.mp hp with e | hp
        · rw [e]; exact .head _
        · exact .tail _ (.tail _ (.tail _ (.tail _ hp)))
      · rw [sizeLine_eq]
        have := hc.length
        refine Nat.le_trans (Nat.add_le_add_left (rep_len _) _) ?_
        simp only [List.length_append, List.length_cons, List.length_nil]
        lia
  · rename News _ _ _ _ => N1
    rename Fr _ _ _ _ => F1
    rename (¬ 0 < (List.take 5 ns).length) => h05
    have hB := ints10 N1
    rename (_ ∧ _ ∧ AllLt _ news) => hlt0
    rename (∀ p : Addr × Obj, p ∈ news → p.1 < _) => hV0
    have hz := N1 _ (.head _)
    have hVD := hlt0.2.1
    have hAl := hlt0.2.2
    have N2 := newsTail (newsTail N1)
    refine loop_list (σ := VS) (fun c => (_, W.listOf c.vs.toArray c.n) :: news) (fun _ => []) [Str.ofString "value"] (fun j c => IntsAre c.vs c.out ∧ c.out = (([1, 0] : List Int).take j).foldl vstep [62, 63]) ⟨_, [62, 63], _⟩ rfl ⟨_, hz.1, rfl, _, rfl⟩ ?hL5 ?hnl5 F1 N2 ?hk5 ?hp5 ?turn5 ?done5
    case hk5 => exact List.forall_mem_nil _
    case hL5 => exact fun e => hz.2.1 e.symm
    case hnl5 =>
      intro p hp
      rcases List.mem_cons.mp hp with e | hp
      · rw [e]; exact Nat.ne_of_lt hVD
      · exact Nat.ne_of_lt (allLt_mem hAl p hp)
    case hp5 => exact ⟨.cons _ _ (.cons _ _ .nil), rfl⟩
    case turn5 =>
      intro c j v u h tk own hv off hP F4 N4
      obtain ⟨hc, ho⟩ := hP
      clear F1 N1 N2
      try k_fold
      dsimp only [kstB, List.cons_append] at F4 N4
      have hj : j < 5 := by
        have := List.getElem?_eq_some_iff.mp hv
        obtain ⟨hj, _⟩ := this
        rw [hB.length] at hj
        simp only [List.length_take, List.length_cons, List.length_nil] at hj
        lia
      have hne5 : ∀ p ∈ news ++ own, p.1 ≠ _ := fun p hp => (List.mem_append.mp hp).elim (fun hp => Nat.ne_of_lt (hV0 p hp)) (fun hp => off p hp _ (.head _))
      have hs5 : c.vs.length ≤ 1000 := by
        rw [hc.length, ho, vstep_length]
        simp only [List.length_take, List.length_cons, List.length_nil]
        lia
      obtain ⟨vi, ti, rfl, hvi⟩ : ∃ vi ti, v = .int vi ti ∧ ([1, 0] : List Int)[j]? = some vi := IntsAre.at hB j v hv
      walk_at "mine_steps"
      · rename News _ _ _ _ => nE
        rename (_ = (63 : Int)) => h63
        rename (((List.count 63 c.out : Nat) : Int) = 3) => h3
        refine gen_end (⟨_, vstep c.out vi, _⟩ : VS) (by assumption) nE (by kst_in) (by intro p hp; kst_mem) (by rfl) (List.forall_mem_nil _) (by walk_at "mine_same") ⟨?_, by rw [vfold_snoc hvi, ho]⟩
        rw [pick_eq] at h63
        unfold vstep
        rw [if_pos ⟨h63, by lia⟩]
        exact IntsAre.append hc (.cons _ _ .nil)
      · rename News _ _ _ _ => nE
        rename (((List.count 63 c.out : Nat) : Int) ≠ 3) => h3
        refine gen_end (⟨_, vstep c.out vi, _⟩ : VS) (by assumption) nE (by kst_in) (by intro p hp; kst_mem) (by rfl) (List.forall_mem_nil _) (by walk_at "mine_same") ⟨?_, by rw [vfold_snoc hvi, ho]⟩
        rw [pick_eq]
        unfold vstep
        rw [if_neg (by intro e; lia)]
        exact IntsAre.append hc (.cons _ _ .nil)
      · rename News _ _ _ _ => nE
        rename (_ ≠ (63 : Int)) => h63
        refine gen_end (⟨_, vstep c.out vi, _⟩ : VS) (by assumption) nE (by kst_in) (by intro p hp; kst_mem) (by rfl) (List.forall_mem_nil _) (by walk_at "mine_same") ⟨?_, by rw [vfold_snoc hvi, ho]⟩
        rw [pick_eq] at h63 ⊢
        unfold vstep
        rw [if_neg (by intro e; exact h63 e.1)]
        exact IntsAre.append hc (.cons _ _ .nil)
    case done5 =>
      intro c u h tk hP F4 N4
      obtain ⟨hc, ho⟩ := hP
      clear F1 N1 N2
      have hne5 : ∀ p ∈ news, p.1 ≠ _ := fun p hp => Nat.ne_of_lt (hV0 p hp)
      have hs5 : c.vs.length ≤ 1000 := by
        have := hB.length
        rw [hc.length, ho, vstep_length]
        simp only [List.length_take, List.length_cons, List.length_nil] at this ⊢
        lia
      try k_fold
      dsimp only [kstB, List.cons_append] at F4 N4
      walk_at "mine_steps"
      rename News _ _ _ _ => N5
      rename Fr _ _ _ _ => F5
      rename IntsAre _ (List.flatten _) => i5
      rename (_ ∧ _ ∧ AllLt _ news) => hlt5
      refine kmk_add_ints F5 N5 (News.isList N5 (.tail _ (.tail _ (.head _)))) (News.isList N5 (.head _)) (IntsAre.append hc (.cons 25 _ .nil)) i5 ?_ ?_
      · intro D' ws' h' F6 N6 l6 hI6
        rw [vals_end hc (vals1_of hB ho (if_pos (List.eq_nil_of_length_eq_zero (Nat.le_zero.mp (Nat.not_lt.mp h05)))))] at hI6
        try k_fold
        walk_at "mine_steps"
        rename News _ _ _ _ => nE
        refine ret _ _ _ _ ⟨D', ws', 0, rfl, fun p hp => Nat.ne_of_lt (l6 p (.tail _ (.tail _ (.tail _ hp)))), hI6, rfl⟩ (by k_asm) (fun p hp => nE p ?_)
        rcases List.mem_cons.mp hp with e | hp
        · rw [e]; exact .head _
        · exact .tail _ (.tail _ (.tail _ (.tail _ hp)))
      · rw [sizeLine_eq]
        have := hc.length
        refine Nat.le_trans (Nat.add_le_add_left (rep_len _) _) ?_
        simp only [List.length_append, List.length_cons, List.length_nil]
        lia
end
section
variable {w : World} {mean : ExcName → Option Value} {mg mb : Str → Option Value} {news : List (Addr × Obj)}
section
variable {prog : Program} {w : World} {A : Around} {E : Value → Shared → Prop} {s : Shared} {h₀ : Heap} {L : Addr} {m : Str → Option Value} {env : Env}
/-- a comprehension's source, whatever it is: its iterator, and the turns to come -/
noncomputable def SrcG (prog : Program) (w : World) (A : Around) (h₀ : Heap) (L : Addr) (m : Str → Option Value) (env : Env) (elt : PySem.Expr) (x : Str) (scope : Scope) (cl : List (Str × Addr)) (Fin : Shared → List Value → List (Addr × Obj) → Prop) (E : Value → Shared → Prop) (xv : Value) (s₁ : Shared) : Prop :=
  wpAny (model prog w) A (pyIter xv) (fun it s₂ => ∃ I fp n P St S news, it = .ref I ∧ Walks prog w A I fp [I] n P St ∧ n ≤ sizeLine ∧ (∀ i h, St i h → ∃ o, h.get? I = some o) ∧
    (∀ i h h' o nw, St i h → h.get? I = some o → h'.get? I = some o → (∀ b o, h₀.get? b = some o → h'.get? b = some o) → News h₀ L h' nw → S nw → St i h') ∧ St 0 s₂.heap ∧ (∀ b ∈ fp, b < s₂.heap.objs.size) ∧
    Fr h₀ L s₂.heap m ∧ News h₀ L s₂.heap news ∧ L ≠ I ∧ h₀.get? I = none ∧ (∀ p ∈ news, p.1 ≠ I) ∧ S news ∧ LCg.CompRest prog w A h₀ L m env elt x scope cl s₂ S P (Fin s₂) n 0 [] news) E s₁
theorem lc_mine {elt iter : PySem.Expr} {x : Str} {px : Pos} {scope : Scope} {cl : List (Str × Addr)} {pos : Pos} {Q : Value → Shared → Prop} (F₀ : Fr h₀ L s.heap m)
    (hclos : closureFor scope env = pure cl) (hcell : ∀ y ∈ scope.names, y.2 ≠ .cell) (hkind : scope.kind = .function)
    (hnames : ∀ y ∈ scope.names, y.2 = .local → scope.names.lookup y.1 = some .local) (hx : scope.names.lookup x = some .local)
    (h : wpAny (model prog w) A (eval iter env) (SrcG prog w A h₀ L m env elt x scope cl (fun s₂ => LCg.FinE h₀ L m s₂ Q) E) E s)
    (hs : ∀ x, foldedSetIterable iter env x = pure x := by intro _; rfl) :
    wpAny (model prog w) A (eval (.ListComp elt [⟨.Name x px, iter, [], 0⟩] scope pos) env) Q E s := by
  rw [eval_ListComp]
  refine wpAny_comprehension_free (use := none) rfl hs hclos hkind hnames (wpAny_mono h (fun xv s₁ h₁ => wpAny_mono h₁ (fun it s₂ h₂ => ?_) fun _ _ e => e) fun _ _ e => e)
  obtain ⟨I, fp, n, P, St, S, news, rfl, W, hsz, hIo, hSt, hst, hfp, F, N, hIL, hI₀, off, hS, R⟩ := h₂
  refine LCg.block_U W hsz hIo hSt hcell hkind hx hst hfp F N hIL hI₀ off hS R ?_
  intro D C h tk m' ys news' F' N' o1 hn hC₀ hD₀ hCL hDL hCD offC fin
  refine ⟨m', hn, fun h'' hs'' => fin D h'' tk (F'.change hs'' hCL hC₀) (fun p hp => ⟨hs''.extBut _ _ ?_ (N' p hp).1, (N' p hp).2⟩) o1⟩
  rcases List.mem_cons.mp hp with e | hp
  · rw [e]; exact Ne.symm hCD
  · exact offC p hp
theorem lc_assign {elt iter : PySem.Expr} {x y : Str} {px py : Pos} {scope : Scope} {cl : List (Str × Addr)} {pos spos : Pos} {Q : Flow → Shared → Prop} (F₀ : Fr h₀ L s.heap m) (hLe : env.locals = L)
    (hsw : swapsWith (.ListComp elt [⟨.Name x px, iter, [], 0⟩] scope pos) (some (.Name y py)) spos.line env = pure true)
    (hclos : closureFor scope env = pure cl) (hcell : ∀ z ∈ scope.names, z.2 ≠ .cell) (hkind : scope.kind = .function)
    (hnames : ∀ z ∈ scope.names, z.2 = .local → scope.names.lookup z.1 = some .local) (hx : scope.names.lookup x = some .local)
    (hy : env.kindOf y = some .local) (hp : (env.scope.kind == .class || (env.scope.kind == .module && env.locals != env.globals)) = false)
    (h : wpAny (model prog w) A (eval iter env) (SrcG prog w A h₀ L m env elt x scope cl (fun s₂ => LCg.FinA h₀ L m s₂ y Q) E) E s)
    (hs : ∀ x, foldedSetIterable iter env x = pure x := by intro _; rfl) :
    wpAny (model prog w) A (exec (.Assign [.Name y py] (.ListComp elt [⟨.Name x px, iter, [], 0⟩] scope pos) spos) env) Q E s := by
  subst hLe
  rw [exec_Assign_Name_used _ _ _ _ hsw]
  refine wpAny_bind (wpAny_standAt (wpAny_bind ?_))
  show wpAny _ A (do let _ ← comprehension (.ListComp elt [⟨.Name x px, iter, [], 0⟩] scope pos) scope env _ (newList []) false (eval iter env) (some (assign (.Name y py) env))) _ _ s
  refine wpAny_bind (wpAny_mono (wpAny_comprehension_free (use := some (assign (.Name y py) env)) (Q := fun _ s' => Q .next s') rfl hs hclos hkind hnames
    (wpAny_mono h (fun xv s₁ h₁ => wpAny_mono h₁ (fun it s₂ h₂ => ?_) fun _ _ e => e) fun _ _ e => e)) (fun _ s' hq => wpAny_pure (wpAny_pure hq)) fun _ _ e => e)
  obtain ⟨I, fp, n, P, St, S, news, rfl, W, hsz, hIo, hSt, hst, hfp, F, N, hIL, hI₀, off, hS, R⟩ := h₂
  refine LCg.block_U W hsz hIo hSt hcell hkind hx hst hfp F N hIL hI₀ off hS R ?_
  intro D C h' tk m' ys news' F' N' o1 hn hC₀ hD₀ hCL hDL hCD offC fin
  show wpAny _ A (assign (.Name y py) env (.ref D)) _ _ _
  refine wpAny_assign_Name (wpAny_storeName_local hy F'.ns (fun h₂ hn₂ hs₂ => ?_) hp)
  have hL₀ : h₀.get? env.locals = none := Heap.get?_none_of_le F'.above
  have F₂ : Fr h₀ env.locals h₂ (fun z => if z = y then some (.ref D) else m z) := ⟨hn₂, fun b o e => hs₂.extBut b o (fun q => by rw [q, hL₀] at e; cases e) (F'.keep b o e), F'.above⟩
  refine ⟨m', hn.sameBut hs₂ hCL, fun h'' hs'' => fin D h'' _ (F₂.change hs'' hCL hC₀) (fun p hp => ⟨hs''.extBut _ _ ?_ (hs₂.extBut _ _ (N' p hp).2.1 (N' p hp).1), (N' p hp).2⟩) o1⟩
  rcases List.mem_cons.mp hp with e | hp
  · rw [e]; exact Ne.symm hCD
  · exact offC p hp
/-- the turns, by what holds before each -/
theorem rest_inv {elt : PySem.Expr} {x : Str} {scope : Scope} {cl : List (Str × Addr)} {S : List (Addr × Obj) → Prop} {P : Nat → Value → Prop} {Fin : List Value → List (Addr × Obj) → Prop} {n : Nat} (J : Nat → List Value → List (Addr × Obj) → Prop)
    (turn : ∀ i ys nw v I oI C oC D m₂ h tk (E' : Value → Shared → Prop), i < n → J i ys nw → P i v → LCg.NsObj oC m₂ → m₂ x = some v → Fr h₀ L h m → News h₀ L h ((I, oI) :: (C, oC) :: (D, LCg.lst ys) :: nw) → LCg.Off3 I C D nw → ((@Ne Nat I C) ∧ (@Ne Nat I D) ∧ (@Ne Nat C D)) →
      wpAny (model prog w) A (eval elt (compEnvC scope cl C env)) (LCg.CompEnd h₀ L m { s with heap := h, toks := tk } I oI C oC D (LCg.lst ys) S (fun y nw' => J (i + 1) (ys ++ [y]) nw')) E' { s with heap := h, toks := tk })
    (fin : ∀ ys nw, J n ys nw → Fin ys nw) : ∀ k i ys nw, i + k = n → J i ys nw → LCg.CompRest prog w A h₀ L m env elt x scope cl s S P Fin k i ys nw
  | 0, i, ys, nw, e, j => fin ys nw (by have : i = n := by lia
                                        rw [← this]; exact j)
  | k + 1, i, ys, nw, e, j => by
    refine LCg.CompRest.succ ?_
    intro v I oI C oC D m₂ h tk E' hv hC hx F N off ne
    refine wpAny_mono (turn i ys nw v I oI C oC D m₂ h tk E' (by lia) j hv hC hx F N off ne) (fun y s' z => ?_) fun _ _ e => e
    obtain ⟨h', tk', nw', e1, F1, N1, o1, s1, j1⟩ := z
    exact ⟨h', tk', nw', e1, F1, N1, o1, s1, rest_inv J turn fin k (i + 1) (ys ++ [y]) nw' (by lia) j1⟩
/-- a text as a source -/
theorem src_str {elt : PySem.Expr} {x : Str} {scope : Scope} {cl : List (Str × Addr)} {Fin : Shared → List Value → List (Addr × Obj) → Prop} {z : Str} {t : Tok} {news : List (Addr × Obj)}
    (hh : A.handled = none) (F : Fr h₀ L s.heap m) (N : News h₀ L s.heap news) (hz : z.cps.size ≤ sizeLine)
    (h : ∀ g, LCg.CompRest prog w A h₀ L m env elt x scope cl { s with heap := g } (fun _ => True) (SignAt z) (Fin { s with heap := g }) z.cps.size 0 [] news) :
    SrcG prog w A h₀ L m env elt x scope cl Fin E (.str z t) s := by
  have hfp : ∀ (o : Obj), ∀ b ∈ [s.heap.objs.size], b < (s.heap.push o).objs.size := fun o b hb => by
    rw [List.mem_singleton.mp hb, Heap.size_push]; exact Nat.lt_succ_self _
  have hst : ∀ (ty : String) (i : Nat) (h h' : Heap) (o : Obj) (nw : List (Addr × Obj)), h.IsStrIter s.heap.objs.size ty z t i → h.get? s.heap.objs.size = some o → h'.get? s.heap.objs.size = some o → (∀ b o, h₀.get? b = some o → h'.get? b = some o) → News h₀ L h' nw → True → h'.IsStrIter s.heap.objs.size ty z t i := by
    intro ty i h h' o nw st e e' _ _ _
    obtain ⟨o', q, r⟩ := st
    rw [e] at q; cases q
    exact ⟨o, e', r⟩
  unfold SrcG
  cases ha : z.cps.all (· < 128)
  · refine wpAny_pyIter_wide ha ⟨_, _, _, _, _, fun _ => True, news, rfl, Walks.strWide hh _ z t, hz, fun i h st => (by obtain ⟨o, e, _⟩ := st; exact ⟨o, e⟩), hst _, ⟨_, Heap.get?_push_size _ rfl, rfl, rfl⟩, hfp _, F.push _, N.grown fun _ _ e => Heap.get?_push_of_some _ e, Nat.ne_of_lt F.ns.lt, next_is_new F, fun p hp => Nat.ne_of_lt (Heap.lt_size (N p hp).1), trivial, h _⟩
  · refine wpAny_pyIter_ascii ha ⟨_, _, _, _, _, fun _ => True, news, rfl, Walks.strAscii hh _ z t, hz, fun i h st => (by obtain ⟨o, e, _⟩ := st; exact ⟨o, e⟩), hst _, ⟨_, Heap.get?_push_size _ rfl, rfl, rfl⟩, hfp _, F.push _, N.grown fun _ _ e => Heap.get?_push_of_some _ e, Nat.ne_of_lt F.ns.lt, next_is_new F, fun p hp => Nat.ne_of_lt (Heap.lt_size (N p hp).1), trivial, h _⟩
/-- bytes as a source -/
theorem src_bytes {elt : PySem.Expr} {x : Str} {scope : Scope} {cl : List (Str × Addr)} {Fin : Shared → List Value → List (Addr × Obj) → Prop} {z : Array UInt8} {t : Tok} {news : List (Addr × Obj)}
    (hh : A.handled = none) (F : Fr h₀ L s.heap m) (N : News h₀ L s.heap news) (hz : z.size ≤ sizeLine)
    (h : ∀ g, LCg.CompRest prog w A h₀ L m env elt x scope cl { s with heap := g } (fun _ => True) (fun i v => ∃ c u, z[i]? = some c ∧ v = .int (c.toNat : Int) u) (Fin { s with heap := g }) z.size 0 [] news) :
    SrcG prog w A h₀ L m env elt x scope cl Fin E (.bytes z t) s := by
  unfold SrcG
  refine KBw.pyIter_bytes ⟨_, _, _, _, _, fun _ => True, news, rfl, KBw.walks hh _ z t, hz, fun i h st => (by obtain ⟨o, e, _⟩ := st; exact ⟨o, e⟩), ?_, ⟨_, Heap.get?_push_size _ rfl, rfl, rfl⟩, ?_, F.push _, N.grown fun _ _ e => Heap.get?_push_of_some _ e, Nat.ne_of_lt F.ns.lt, next_is_new F, fun p hp => Nat.ne_of_lt (Heap.lt_size (N p hp).1), trivial, h _⟩
  · intro i h h' o nw st e e' _ _ _
    obtain ⟨o', q, r⟩ := st
    rw [e] at q; cases q
    exact ⟨o, e', r⟩
  · intro b hb
    show b < (s.heap.push _).objs.size
    rw [List.mem_singleton.mp hb, Heap.size_push]; exact Nat.lt_succ_self _
/-- a list of the ledger as a source -/
theorem src_list {elt : PySem.Expr} {x : Str} {scope : Scope} {cl : List (Str × Addr)} {Fin : Shared → List Value → List (Addr × Obj) → Prop} {ax : Addr} {vs : List Value} {k : Nat} {news : List (Addr × Obj)}
    (hh : A.handled = none) (F : Fr h₀ L s.heap m) (N : News h₀ L s.heap news) (hm : (ax, W.listOf vs.toArray k) ∈ news) (hz : vs.length ≤ 1000000)
    (h : ∀ g, LCg.CompRest prog w A h₀ L m env elt x scope cl { s with heap := g } (LCg.SrcAt h₀ ax vs.toArray) (fun i v => vs[i]? = some v) (Fin { s with heap := g }) vs.length 0 [] news) :
    SrcG prog w A h₀ L m env elt x scope cl Fin E (.ref ax) s := by
  have S : LCg.SrcAt h₀ ax vs.toArray news := .inr ⟨_, hm, rfl, _, rfl⟩
  have hl := S.list F.keep N
  have hlt : ax < s.heap.objs.size := by obtain ⟨_, e, _⟩ := hl; exact Heap.lt_size e
  have up : ∀ b o, s.heap.get? b = some o → (s.heap.push { cls := .type "list_iterator", data := .fields #[.ref ax, .int 0 0] }).get? b = some o := fun b o e => Heap.get?_push_of_some _ e
  unfold SrcG
  refine wpAny_pyIter_list hl ⟨_, [s.heap.objs.size, ax], vs.length, fun i v => vs[i]? = some v, _, LCg.SrcAt h₀ ax vs.toArray, news, rfl, ?_, ?_, fun i h st => (by obtain ⟨o, e, _⟩ := st.1; exact ⟨o, e⟩), LCg.list_st, ⟨⟨_, Heap.get?_push_size _ rfl, rfl, rfl⟩, hl.push _⟩, ?_, F.push _, N.grown up, Nat.ne_of_lt F.ns.lt, next_is_new F, fun p hp => Nat.ne_of_lt (Heap.lt_size (N p hp).1), S, h _⟩
  · have W := Walks.list (prog := prog) (w := w) hh s.heap.objs.size ax (Nat.ne_of_lt hlt) vs.toArray
    simpa using W
  · rw [sizeLine_eq]; lia
  · intro b hb
    show b < (s.heap.push _).objs.size
    rw [Heap.size_push]
    rcases List.mem_cons.mp hb with e | hb
    · rw [e]; exact Nat.lt_succ_self _
    · rw [List.mem_singleton.mp hb]; exact Nat.lt_succ_of_lt hlt
end
end
section
variable {w : World} {mean : ExcName → Option Value} {mg mb : Str → Option Value} {news : List (Addr × Obj)}
section
variable {prog : Program} {w : World} {A : Around} {E : Value → Shared → Prop} {s : Shared} {env : Env} {h₀ : Heap} {x : Str} {body : List Stmt} {Q : Flow → Shared → Prop}
/-- a loop over a range whose turns may keep new objects: J says what the ledger is before each turn -/
theorem loop_rangeG {r : Addr} {a b st : Int} {t₁ t₂ t₃ : Tok} {n : Nat} {m₀ : Str → Option Value} {news : List (Addr × Obj)} (J : Nat → (Str → Option Value) → List (Addr × Obj) → Prop)
    (hh : A.handled = none) (hr : IsRange s.heap r a b st t₁ t₂ t₃) (hsmall : Builtin.Range.small a b st = true) (hn : Builtin.Range.rangeSize a b st = (n : Int)) (F : Fr h₀ env.locals s.heap m₀) (N : News h₀ env.locals s.heap news) (hj : J 0 m₀ news)
    (turn : ∀ (i : Nat) t (m₁ : Str → Option Value) nx h tk I oI, i < n → oI.cls = .type "range_iterator" → OwnOff [(I, oI)] (nx.map (·.1)) → J i m₁ nx →
      Fr h₀ env.locals h (fun y => if y = x then some (.int (a + i * st) t) else m₁ y) → News h₀ env.locals h (nx ++ [(I, oI)]) →
      wpAny (model prog w) A (execs body env) (InvPostG h₀ env.locals (J (i + 1)) [(I, oI)] { s with heap := h, toks := tk } Q) E { s with heap := h, toks := tk })
    (done : ∀ (m₁ : Str → Option Value) nx h tk, J n m₁ nx → Fr h₀ env.locals h m₁ → News h₀ env.locals h nx → Q .next { s with heap := h, toks := tk }) :
    wpAny (model prog w) A (pyIter (.ref r)) (fun it s₂ => LoopAtV prog w A h₀ env x body Q E it s₂) E s := by
  refine wpAny_pyIter_range hr hsmall ?_
  rw [hn]
  have W := Walks.range (prog := prog) (w := w) hh s.heap.objs.size a st n
  have hI0 : h₀.get? s.heap.objs.size = none := next_is_new F
  refine ⟨_, _, _, n, _, _, m₀, news, J, rfl, W, ?_, ?_, ?_, by show IsRangeIter _ _ _ _ _; simpa using Heap.get?_push_size _ rfl, F.push _, (fun p hp => ⟨Heap.get?_push_of_some _ (N p hp).1, (N p hp).2⟩), hj, ?_, ?_⟩
  · intro hm
    exact absurd F.ns.lt ((List.mem_singleton.mp hm) ▸ Nat.lt_irrefl _)
  · intro b hb
    rw [List.mem_singleton.mp hb]
    exact hI0
  · intro p hp hI
    exact absurd (Heap.lt_size (N p hp).1) ((List.mem_singleton.mp hI) ▸ Nat.lt_irrefl _)
  · rintro i v m₁ news₁ s₁ own ⟨hh', tk', rfl⟩ hin ⟨t, rfl⟩ hJ hoff hown _ hfp hst F₁ N₁
    obtain ⟨oI, hst', hcI⟩ : ∃ oI, hh'.get? s.heap.objs.size = some oI ∧ oI.cls = .type "range_iterator" := ⟨_, hst, rfl⟩
    have hIown := hfp _ (List.mem_singleton.mpr rfl) hI0 _ hst'
    have hsep : OwnOff [(s.heap.objs.size, oI)] (news₁.map (·.1)) := by
      intro p hp b hb e
      obtain ⟨q, hq, rfl⟩ := List.mem_map.mp hb
      rw [List.mem_singleton.mp hp] at e
      exact hoff q hq (List.mem_singleton.mpr e.symm)
    have N₂ : News h₀ env.locals hh' (news₁ ++ [(s.heap.objs.size, oI)]) := fun p hp => by
      rcases List.mem_append.mp hp with h | h
      · exact N₁ p (List.mem_append.mpr (.inr h))
      · rw [List.mem_singleton.mp h]; exact N₁ _ (List.mem_append.mpr (.inl hIown))
    refine wpAny_mono (turn i t m₁ news₁ hh' tk' _ _ hin hcI hsep hJ F₁ N₂) (fun f s₂ p => ?_) fun _ _ e => e
    have hfpw : ∀ p ∈ own, p = (s.heap.objs.size, oI) := fun p hp => by
      have e1 := List.mem_singleton.mp (hown p hp)
      have e2 := (N₁ p (List.mem_append.mpr (.inl hp))).1
      obtain ⟨p1, p2⟩ := p
      dsimp only at e1 e2
      subst e1
      rw [hst'] at e2
      injection e2 with e2
      rw [← e2]
    have fin : InvEndG h₀ env.locals (J (i + 1)) [(s.heap.objs.size, oI)] { s with heap := hh', toks := tk' } s₂ → LoopStepU h₀ env.locals [s.heap.objs.size] own (J (i + 1)) { s with heap := hh', toks := tk' } .next s₂ := by
      rintro ⟨h', tk, m', news', nx, e, F', N', hn, ho, ha, hm⟩
      refine ⟨rfl, h', tk, m', nx, e, F', fun p hp => N' p ((List.mem_append.mp hp).elim (fun hp => ho p (by rw [hfpw p hp]; exact List.mem_singleton.mpr rfl)) (hn p)), fun p hp hq => ?_, hm⟩
      exact ha _ (List.mem_singleton.mpr rfl) p.1 (List.mem_map.mpr ⟨p, hp, rfl⟩) (List.mem_singleton.mp hq).symm
    cases f with
    | ret v => exact .ret p
    | brk => exact .brk p
    | next => exact .next (fin p)
    | cont => exact .cont (fin p)
  · rintro h' tk m' news' F' N' _ hJ
    exact done m' news' h' tk hJ F' N'
/-- what holds before a turn: of the frame, the names that the loop does not store; of the ledger, P -/
noncomputable def JK (x : Str) (stored : List Str) (m₀ : Str → Option Value) (P : Nat → List (Addr × Obj) → Prop) (i : Nat) (m : Str → Option Value) (nx : List (Addr × Obj)) : Prop :=
  (∀ z, z ≠ x → (∀ p ∈ ([] : List (Str × Value)), z ≠ p.1) → stored.contains z = false → m z = m₀ z) ∧ P i nx
theorem loop_rangeK {r : Addr} {a b st : Int} {t₁ t₂ t₃ : Tok} {n : Nat} {m₀ : Str → Option Value} {news : List (Addr × Obj)} (stored : List Str) (P : Nat → List (Addr × Obj) → Prop)
    (hh : A.handled = none) (hr : IsRange s.heap r a b st t₁ t₂ t₃) (hsmall : Builtin.Range.small a b st = true) (hn : Builtin.Range.rangeSize a b st = (n : Int)) (F : Fr h₀ env.locals s.heap m₀) (N : News h₀ env.locals s.heap news) (hp : P 0 news)
    (turn : ∀ (i : Nat) t (u : Str → Option Value) nx h tk I oI, i < n → oI.cls = .type "range_iterator" → OwnOff [(I, oI)] (nx.map (·.1)) → P i nx →
      Fr h₀ env.locals h (fun y => if y = x then some (.int (a + i * st) t) else kstB (fun z => if stored.contains z then u z else m₀ z) [] y) → News h₀ env.locals h (nx ++ [(I, oI)]) →
      wpAny (model prog w) A (execs body env) (InvPostG h₀ env.locals (JK x stored m₀ P (i + 1)) [(I, oI)] { s with heap := h, toks := tk } Q) E { s with heap := h, toks := tk })
    (done : ∀ (u : Str → Option Value) nx h tk, P n nx → Fr h₀ env.locals h (fun y => if y = x then u y else kstB (fun z => if stored.contains z then u z else m₀ z) [] y) → News h₀ env.locals h nx → Q .next { s with heap := h, toks := tk }) :
    wpAny (model prog w) A (pyIter (.ref r)) (fun it s₂ => LoopAtV prog w A h₀ env x body Q E it s₂) E s := by
  refine loop_rangeG (JK x stored m₀ P) hh hr hsmall hn F N ⟨fun _ _ _ _ => rfl, hp⟩ ?_ ?_
  · rintro i t m₁ nx h tk I oI hi hcI off ⟨h1, h2⟩ F₁ N₁
    exact turn i t m₁ nx h tk I oI hi hcI off h2 (kst_fr (fun _ hp => nomatch hp) h1 F₁) N₁
  · rintro m₁ nx h tk ⟨h1, h2⟩ F₁ N₁
    exact done m₁ nx h tk h2 (kst_frOut (fun _ hp => nomatch hp) h1 F₁) N₁
theorem rangeK_end {stored : List Str} {m₀ : Str → Option Value} {P : Nat → List (Addr × Obj) → Prop} {i : Nat} {L : Addr} {m' : Str → Option Value} {own news' nx : List (Addr × Obj)} {s₁ : Shared} {h' : Heap} {tk : Nat}
    (F : Fr h₀ L h' m') (N : News h₀ L h' news') (hr : ∀ z, z ≠ x → (∀ p ∈ ([] : List (Str × Value)), z ≠ p.1) → stored.contains z = false → m' z = m₀ z) (hp : P i nx)
    (ha : OwnOff own (nx.map (·.1))) (hn : ∀ p ∈ nx, p ∈ news') (ho : ∀ p ∈ own, p ∈ news') :
    InvEndG h₀ L (JK x stored m₀ P i) own s₁ { s₁ with heap := h', toks := tk } :=
  InvEndG.intro F N ⟨hr, hp⟩ ha hn ho
end

/-- before this: a token has been made -/
noncomputable def Tk (s : Shared) (P : Prop) : Prop := @LE.le Nat _ 1 s.toks → P
section
variable {prog : Program} {w : World} {M : Model} {A : Around} {E : Value → Shared → Prop} {s : Shared} {env : Env}
theorem toksQ {α : Type} {t : Sem α} {Q : α → Shared → Prop} {n : Nat} (hn : n ≤ s.toks) (h : wpAny M A t (fun a s' => n ≤ s'.toks → Q a s') E s) : wpAny M A t Q E s :=
  wpAny_with_toks hn (wpAny_mono h (fun _ _ x => x) fun _ _ e _ => e)
theorem execs_toks {st : Stmt} {rest : List Stmt} {Q : Flow → Shared → Prop} (hn : @LE.le Nat _ 1 s.toks)
    (h : wpAny M A (exec st env) (fun f s' => Tk s' (match f with | .next => wpAny M A (execs rest env) Q E s' | f => Q f s')) E s) : wpAny M A (execs (st :: rest) env) Q E s :=
  wpAny_execs_cons (wpAny_with_toks hn (wpAny_mono h (fun _ _ x => x) fun _ _ e _ => e))
theorem mrepl {x y z : Str} {t u v : Tok} {Q : Value → Shared → Prop} (hu : @LE.le Nat _ 1 u) (hv : @LE.le Nat _ 1 v) (huv : @Ne Nat u v) (hyz : (y == z) = false) (hx : x.length ≤ 1000) (hz : z.length ≤ 2)
    (h : ∀ t' k, @LE.le Nat _ s.toks k → Q (.str (Txt.replace x y z) t') { s with toks := k }) : wpAny (model prog w) A (call (.builtin "str.replace") [.str x t, .str y u, .str z v]) Q E s := by
  refine wpAny_with_toks (Nat.le_refl _) (SC.replace (Nat.ne_of_gt hu) (Nat.ne_of_gt hv) huv hyz ?_ fun t' k hk => h t' k hk)
  have := Nat.mul_le_mul_left (x.length + 1) hz
  lia
end
end
section
variable {w : World} {mean : ExcName → Option Value} {mg mb : Str → Option Value} {news : List (Addr × Obj)}
open PySem.StrLaws PySem.Builtin.Str
/-- the marks of a text -/
noncomputable abbrev cl (x : Str) : List Nat := x.cps.toList
theorem cl_app (a b : Str) : cl (a ++ b) = cl a ++ cl b := by
  show (a.cps ++ b.cps).toList = _
  simp
theorem str_ext {a b : Str} (h : cl a = cl b) : a = b := by cases a; cases b; exact congrArg Str.mk (Array.toList_inj.mp h)
theorem cl_sub (x : Str) (i j : Nat) : cl (strSub x i j) = ((cl x).drop i).take (j - i) := strSub_toList x i j
theorem cl_len (x : Str) : (cl x).length = x.length := by simp [Str.length]
theorem nl_eq : Str.ofString "\n" = ⟨#[10]⟩ := by decide +kernel
theorem cr_eq : Str.ofString "\x0d" = ⟨#[13]⟩ := by decide +kernel
theorem cn_eq : Str.ofString "\x0d\n" = ⟨#[13, 10]⟩ := by decide +kernel
theorem em_eq : Str.ofString "" = ⟨#[]⟩ := by decide +kernel
theorem A_eq : Str.ofString "A" = ⟨#[65]⟩ := by decide +kernel
theorem dd_eq : Str.ofString ".." = ⟨#[46, 46]⟩ := by decide +kernel
theorem d_eq : Str.ofString "." = ⟨#[46]⟩ := by decide +kernel
theorem tj (sep : Str) (ys : List Str) : Txt.join sep ys = Str.join sep ys := glued_eq_join sep ys
theorem join_cc (sep x y : Str) (r : List Str) : Str.join sep (x :: y :: r) = x ++ sep ++ Str.join sep (y :: r) := rfl
theorem join_flat : ∀ ys : List Str, cl (Str.join ⟨#[]⟩ ys) = (ys.map cl).flatten
  | [] => rfl
  | [x] => by show cl x = _; simp
  | x :: y :: r => by
    rw [join_cc, cl_app, cl_app, join_flat (y :: r)]
    simp [cl]
noncomputable def subst1 (c : Nat) (z l : List Nat) : List Nat := l.flatMap fun x => if x = c then z else [x]
theorem subst1_app (c : Nat) (z a b : List Nat) : subst1 c z (a ++ b) = subst1 c z a ++ subst1 c z b := List.flatMap_append
theorem subst1_free {c : Nat} {z : List Nat} : ∀ {l : List Nat}, c ∉ l → subst1 c z l = l
  | [], _ => rfl
  | x :: l, h => by
    have h1 : x ≠ c := fun e => h (by rw [e]; exact .head _)
    have ih := subst1_free (z := z) (l := l) fun e => h (.tail _ e)
    show (if x = c then z else [x]) ++ subst1 c z l = _
    rw [if_neg h1, ih]; rfl
theorem subst1_one (c : Nat) (z : List Nat) : subst1 c z [c] = z := by simp [subst1]
/-- parts free of c: the separator changed -/
theorem join_subst {c : Nat} {z : Str} : ∀ parts : List Str, (∀ p ∈ parts, c ∉ cl p) → cl (Str.join z parts) = subst1 c (cl z) (cl (Str.join ⟨#[c]⟩ parts))
  | [], _ => rfl
  | [x], h => (subst1_free (h x (.head _))).symm
  | x :: y :: r, h => by
    rw [join_cc, join_cc, cl_app, cl_app, cl_app, cl_app, join_subst (y :: r) fun p hp => h p (.tail _ hp), subst1_app, subst1_app, subst1_free (h x (.head _))]
    have : cl (⟨#[c]⟩ : Str) = [c] := rfl
    rw [this, subst1_one]
theorem replace1 (x z : Str) (c : Nat) : cl (Txt.replace x ⟨#[c]⟩ z) = subst1 c (cl z) (cl x) := by
  rw [replace_one, join_subst _ (split_free x c), join_split]
/-- "\r\n" to "\n" -/
noncomputable def crunch : List Nat → List Nat
  | [] => []
  | [c] => [c]
  | c :: d :: r => if c = 13 ∧ d = 10 then 10 :: crunch r else c :: crunch (d :: r)
noncomputable def nrm (l : List Nat) : List Nat := subst1 13 [10] (crunch l)
noncomputable def brk : List Nat → List Nat
  | [] => []
  | [c] => if c = 10 ∨ c = 13 then [13, 10] else [c]
  | c :: d :: r => if c = 13 ∧ d = 10 then 13 :: 10 :: brk r else if c = 10 ∨ c = 13 then 13 :: 10 :: brk (d :: r) else c :: brk (d :: r)
noncomputable def exp (l : List Nat) : List Nat := subst1 10 [13, 10] l
noncomputable def dot : Bool → List Nat → List Nat
  | _, [] => []
  | b, c :: r => if b = true ∧ c = 46 then 46 :: 46 :: dot false r else c :: dot (c == 10) r
theorem subst1_cons (c : Nat) (z : List Nat) (x : Nat) (l : List Nat) : subst1 c z (x :: l) = (if x = c then z else [x]) ++ subst1 c z l := rfl
theorem brk_one (c : Nat) : brk [c] = if c = 10 ∨ c = 13 then [13, 10] else [c] := rfl
theorem brk_eq : ∀ l : List Nat, brk l = exp (nrm l)
  | [] => rfl
  | [c] => by
    unfold brk nrm crunch exp
    rw [subst1_cons]
    by_cases h1 : c = 13
    · subst h1; rfl
    · by_cases h2 : c = 10
      · subst h2; rfl
      · rw [if_neg (by lia), if_neg h1]
        show _ = subst1 10 [13, 10] ([c] ++ [])
        rw [List.append_nil, subst1_cons, if_neg h2]; rfl
  | c :: d :: r => by
    unfold brk
    by_cases h : c = 13 ∧ d = 10
    · rw [if_pos h, brk_eq r]
      obtain ⟨rfl, rfl⟩ := h
      rfl
    · rw [if_neg h, brk_eq (d :: r)]
      have e : nrm (c :: d :: r) = (if c = 13 then [10] else [c]) ++ nrm (d :: r) := by
        show subst1 13 [10] (crunch (c :: d :: r)) = _
        rw [crunch, if_neg h, subst1_cons]; rfl
      rw [e]
      unfold exp
      rw [subst1_app]
      by_cases h1 : c = 13
      · rw [if_pos (by lia), if_pos h1, subst1_one]; rfl
      · rw [if_neg h1]
        by_cases h2 : c = 10
        · rw [if_pos (by lia), h2, subst1_one]; rfl
        · rw [if_neg (by lia), subst1_cons, if_neg h2]; rfl
theorem dot_exp : ∀ (b : Bool) (l : List Nat), dot b (exp l) = exp (dot b l)
  | _, [] => rfl
  | b, c :: r => by
    have e : exp (c :: r) = (if c = 10 then [13, 10] else [c]) ++ exp r := rfl
    rw [e]
    by_cases h : c = 10
    · subst h
      rw [if_pos rfl]
      show dot b (13 :: 10 :: exp r) = _
      rw [dot, if_neg (by lia), dot, if_neg (by lia)]
      rw [dot, if_neg (by lia)]
      show 13 :: 10 :: dot true (exp r) = exp (10 :: dot true r)
      rw [dot_exp true r]; rfl
    · rw [if_neg h]
      show dot b (c :: exp r) = _
      rw [dot, dot]
      by_cases h2 : b = true ∧ c = 46
      · rw [if_pos h2, if_pos h2, dot_exp false r]
        rfl
      · rw [if_neg h2, if_neg h2, dot_exp _ r]
        show _ = (if c = 10 then [13, 10] else [c]) ++ exp _
        rw [if_neg h]; rfl
theorem drop_cons {l : List Nat} {a : Nat} (h : a < l.length) : l.drop a = l[a] :: l.drop (a + 1) := List.drop_eq_getElem_cons h
/-- no "\r\n" from a to c -/
theorem crunch_run {l : List Nat} : ∀ (n a c : Nat), a + n = c → c ≤ l.length → (∀ k, a ≤ k → k < c → ¬ (l[k]? = some 13 ∧ l[k + 1]? = some 10)) → crunch (l.drop a) = (l.drop a).take (c - a) ++ crunch (l.drop c)
  | 0, a, c, e, hc, h => by
    have : a = c := by lia
    subst this; simp
  | n + 1, a, c, e, hc, h => by
    have ha : a < l.length := by lia
    have ih := crunch_run n (a + 1) c (by lia) hc fun k h1 h2 => h k (by lia) h2
    have e1 : c - a = (c - (a + 1)) + 1 := by lia
    rw [drop_cons ha, e1, List.take_succ_cons, List.cons_append, ← ih]
    by_cases hb : a + 1 < l.length
    · have hn := h a (Nat.le_refl _) (by lia)
      rw [List.getElem?_eq_getElem ha, List.getElem?_eq_getElem hb, Option.some.injEq, Option.some.injEq] at hn
      rw [drop_cons hb]
      show (if l[a] = 13 ∧ l[a + 1] = 10 then _ else _) = _
      rw [if_neg hn]
    · rw [List.drop_eq_nil_of_le (by lia)]
      rfl
theorem at_crnl (x : Str) (k : Nat) : At x ⟨#[13, 10]⟩ x.length k ↔ ((cl x)[k]? = some 13 ∧ (cl x)[k + 1]? = some 10) := by
  unfold At
  rw [subAt_eq]
  have e : (⟨#[13, 10]⟩ : Str).length = 2 := rfl
  have e2 : (⟨#[13, 10]⟩ : Str).cps.toList = [13, 10] := rfl
  rw [e, e2, beq_iff_eq]
  have hl := cl_len x
  constructor
  · rintro ⟨h1, h2⟩
    have a : (List.take 2 (List.drop k (cl x)))[0]? = some 13 := by rw [h2]; rfl
    have b : (List.take 2 (List.drop k (cl x)))[1]? = some 10 := by rw [h2]; rfl
    rw [List.getElem?_take_of_lt (by lia), List.getElem?_drop] at a b
    exact ⟨a, b⟩
  · rintro ⟨h1, h2⟩
    have h3 := (List.getElem?_eq_some_iff.mp h2).1
    refine ⟨by lia, ?_⟩
    have ha : k < (cl x).length := by lia
    show List.take 2 (List.drop k (cl x)) = _
    rw [drop_cons ha, drop_cons h3]
    rw [List.getElem?_eq_getElem ha] at h1
    rw [List.getElem?_eq_getElem h3] at h2
    simp only [List.take_succ_cons, List.take_zero, Option.some.inj h1, Option.some.inj h2]
theorem crunch_parts (x : Str) : ∀ (cuts : List Nat) (a f : Nat), a ≤ x.length → ChainG x ⟨#[13, 10]⟩ x.length a cuts f → (∀ k, f ≤ k → ¬ At x ⟨#[13, 10]⟩ x.length k) →
    cl (Str.join ⟨#[10]⟩ (partsFrom x 2 a cuts)) = crunch ((cl x).drop a)
  | [], a, f, ha, hc, hn => by
    have e : f = a := hc
    subst e
    show cl (strSub x f x.length) = _
    rw [cl_sub, crunch_run (x.length - f) f x.length (by lia) (by rw [cl_len]; exact Nat.le_refl _) fun k h1 _ h3 => hn k h1 ((at_crnl x k).mpr h3)]
    rw [← cl_len, List.drop_length]
    simp [crunch]
  | c :: r, a, f, ha, hc, hn => by
    obtain ⟨h1, h2, h3, h4⟩ := hc
    have h4' : ChainG x ⟨#[13, 10]⟩ x.length (c + 2) r f := h4
    have hcl : c + 2 ≤ x.length := h2.1
    have ih := crunch_parts x r (c + 2) f hcl h4' hn
    obtain ⟨p, q, e⟩ := partsFrom_ne x 2 (c + 2) r
    have e0 : partsFrom x 2 a (c :: r) = strSub x a c :: partsFrom x 2 (c + 2) r := rfl
    rw [e0, e, join_cc, cl_app, cl_app, ← e, ih, cl_sub]
    rw [crunch_run (c - a) a c (by lia) (by rw [cl_len]; lia) fun k b1 b2 b3 => h3 k b1 b2 ((at_crnl x k).mpr b3)]
    obtain ⟨g1, g2⟩ := (at_crnl x c).mp h2
    have l1 : c < (cl x).length := (List.getElem?_eq_some_iff.mp g1).1
    have l2 : c + 1 < (cl x).length := (List.getElem?_eq_some_iff.mp g2).1
    rw [List.getElem?_eq_getElem l1] at g1
    rw [List.getElem?_eq_getElem l2] at g2
    have hcr : crunch ((cl x).drop c) = 10 :: crunch ((cl x).drop (c + 2)) := by
      rw [drop_cons l1, drop_cons l2, Option.some.inj g1, Option.some.inj g2]
      rfl
    rw [hcr, List.append_assoc]
    rfl
theorem replace_crnl (x : Str) : cl (Txt.replace x ⟨#[13, 10]⟩ ⟨#[10]⟩) = crunch (cl x) := by
  obtain ⟨f, h1, h2⟩ := occ_tight x ⟨#[13, 10]⟩ (by decide)
  have hp := crunch_parts x _ 0 f (Nat.zero_le _) h1 h2
  rw [List.drop_zero] at hp
  rw [← hp]
  unfold Txt.replace
  have e2 : (⟨#[13, 10]⟩ : Str).length = 2 := rfl
  by_cases hc : ((occurrences x ⟨#[13, 10]⟩ 0 x.length (x.length + 1)).isEmpty || ((⟨#[13, 10]⟩ : Str).length == 0 && (⟨#[10]⟩ : Str).length == 0)) = true
  · rw [if_pos hc]
    have he : occurrences x ⟨#[13, 10]⟩ 0 x.length (x.length + 1) = [] := by simpa [e2] using hc
    rw [he]
    show cl x = cl (strSub x 0 x.length)
    rw [sub_whole]
  · rw [if_neg hc, glued_eq_join, partsBetween_eq, e2]
/-- norm, as marks -/
theorem cl_norm (x : Str) : cl (Txt.replace (Txt.replace x (Str.ofString "\x0d\n") (Str.ofString "\n")) (Str.ofString "\x0d") (Str.ofString "\n")) = nrm (cl x) := by
  rw [cn_eq, nl_eq, cr_eq, replace1, replace_crnl]
  rfl
theorem cl_left (x : Str) : cl (Txt.replace x (Str.ofString "\x0d") (Str.ofString "")) = (cl x).filter (fun c => c != 13) := by
  rw [cr_eq, em_eq, replace1]
  have e : cl (⟨#[]⟩ : Str) = [] := rfl
  rw [e]
  induction cl x with
  | nil => rfl
  | cons c l ih =>
    rw [subst1_cons, ih, List.filter_cons]
    by_cases h : c = 13
    · rw [if_pos h, if_neg (by simp [h])]; rfl
    · rw [if_neg h, if_pos (by simp [h])]; rfl
/-- rows -/
theorem dot_free : ∀ {l : List Nat}, 10 ∉ l → dot false l = l
  | [], _ => rfl
  | c :: l, h => by
    have h1 : c ≠ 10 := fun e => h (by rw [e]; exact .head _)
    rw [dot, if_neg (by simp)]
    have : (c == 10) = false := by simp [h1]
    rw [this, dot_free fun e => h (.tail _ e)]
theorem dot_app : ∀ {l t : List Nat} (b : Bool), 10 ∉ l → dot b (l ++ 10 :: t) = dot b l ++ 10 :: dot true t
  | [], t, b, _ => by
    cases b <;> rfl
  | c :: l, t, b, h => by
    have h1 : c ≠ 10 := fun e => h (by rw [e]; exact .head _)
    have h2 : 10 ∉ l := fun e => h (.tail _ e)
    show dot b (c :: (l ++ 10 :: t)) = _
    rw [dot, dot]
    have hb : (c == 10) = false := by simp [h1]
    by_cases hc : b = true ∧ c = 46
    · rw [if_pos hc, if_pos hc, dot_app false h2]; rfl
    · rw [if_neg hc, if_neg hc, hb, dot_app false h2]; rfl
theorem cl_slice1 (r : Str) : cl (Txt.slice r none (some 1)) = (cl r).take 1 := by
  have hl := cl_len r
  have e : Txt.slice r none (some 1) = sliceText r none (some 1) := rfl
  rw [e]
  by_cases h : 1 ≤ r.length
  · rw [sliceText_to ⟨by decide, by rw [← hl] at h; exact Int.ofNat_le.mpr h⟩]
    simp [cl]
  · have : r.length = 0 := by lia
    have hr : cl r = [] := List.eq_nil_of_length_eq_zero (by lia)
    have h0 := Txt.slice_le r none (some 1)
    rw [hr, ← e]
    exact List.eq_nil_of_length_eq_zero (by rw [cl_len]; lia)
theorem cl_rowOf {r : Str} (h : 10 ∉ cl r) : cl (rowOf r) = dot true (cl r) := by
  unfold rowOf
  rw [d_eq]
  have hs := cl_slice1 r
  by_cases hc : (Txt.slice r none (some 1) == ⟨#[46]⟩) = true
  · rw [if_pos hc, cl_app]
    have : cl (Txt.slice r none (some 1)) = [46] := by rw [eq_of_beq hc]
    rw [this] at hs
    cases hr : cl r with
    | nil => rw [hr] at hs; cases hs
    | cons c l =>
      rw [hr] at hs h
      simp only [List.take_succ_cons, List.take_zero, List.cons.injEq, and_true] at hs
      rw [dot, if_pos ⟨rfl, hs.symm⟩, dot_free fun e => h (.tail _ e), ← hs]
      rfl
  · rw [if_neg hc]
    cases hr : cl r with
    | nil => rfl
    | cons c l =>
      rw [hr] at hs h
      have hne : c ≠ 46 := by
        intro e
        refine hc ?_
        rw [e] at hs
        have : Txt.slice r none (some 1) = ⟨#[46]⟩ := str_ext hs
        rw [this]; exact beq_self_eq_true _
      have h1 : c ≠ 10 := fun e => h (by rw [e]; exact .head _)
      rw [dot, if_neg (by simp [hne])]
      have hb : (c == 10) = false := by simp [h1]
      rw [hb, dot_free fun e => h (.tail _ e)]
theorem dot_nonl : ∀ {l : List Nat} (b : Bool), 10 ∉ l → 10 ∉ dot b l
  | [], _, h => h
  | c :: l, b, h => by
    have h1 : c ≠ 10 := fun e => h (by rw [e]; exact .head _)
    have h2 : 10 ∉ l := fun e => h (.tail _ e)
    rw [dot]
    split
    · simp [dot_nonl false h2]
    · have := dot_nonl (c == 10) h2
      simp [this, Ne.symm h1]
theorem rows_join : ∀ (parts : List Str), parts ≠ [] → (∀ p ∈ parts, 10 ∉ cl p) → cl (Str.join ⟨#[10]⟩ (parts.map rowOf)) = dot true (cl (Str.join ⟨#[10]⟩ parts))
  | [], h, _ => absurd rfl h
  | [x], _, h => cl_rowOf (h x (.head _))
  | x :: y :: r, _, h => by
    have ih := rows_join (y :: r) (by simp) fun p hp => h p (.tail _ hp)
    show cl (Str.join ⟨#[10]⟩ (rowOf x :: rowOf y :: r.map rowOf)) = _
    rw [join_cc, join_cc, cl_app, cl_app, cl_app, cl_app]
    have e : cl (⟨#[10]⟩ : Str) = [10] := rfl
    rw [e, List.append_assoc, List.append_assoc]
    show _ ++ 10 :: cl (Str.join ⟨#[10]⟩ (rowOf y :: r.map rowOf)) = dot true (cl x ++ 10 :: cl (Str.join ⟨#[10]⟩ (y :: r)))
    rw [dot_app true (h x (.head _)), cl_rowOf (h x (.head _)), ← ih]
    rfl
theorem rows_free {parts : List Str} (h : ∀ p ∈ parts, 10 ∉ cl p) : ∀ p ∈ parts.map rowOf, 10 ∉ cl p := by
  intro p hp
  obtain ⟨q, hq, rfl⟩ := List.mem_map.mp hp
  rw [cl_rowOf (h q hq)]
  exact dot_nonl true (h q hq)
theorem split_ne (x : Str) (y : Str) : Txt.split x y ≠ [] := by
  intro e
  have := split_pos x y
  rw [e] at this
  exact absurd this (by decide)
/-- the rows, joined by feeds -/
theorem cl_rows (y : Str) : cl (Txt.join (Str.ofString "\n") ((Txt.split y (Str.ofString "\n")).map rowOf)) = dot true (cl y) := by
  rw [nl_eq, tj, rows_join _ (split_ne _ _) (split_free y 10), join_split]
theorem cl_rowsE (y : Str) : cl (Txt.join (Str.ofString "\x0d\n") ((Txt.split y (Str.ofString "\n")).map rowOf)) = exp (dot true (cl y)) := by
  rw [cn_eq, nl_eq, tj, join_subst (c := 10) _ (rows_free (split_free y 10)), rows_join _ (split_ne _ _) (split_free y 10), join_split]
  rfl
/-- what sub leaves, by a run of the marks: G says what becomes of the rest -/
theorem sub_run {f : Array Nat → Nat → Option (Nat × Nat)} (Fw : Forward f) {text : Array Nat} {r : Str} {G : Nat → List Nat} (hit : ∀ d a b, d ≤ text.size → f text d = some (a, b) → G d = (text.toList.drop d).take (a - d) ++ cl r ++ G b)
    (miss : ∀ d, d ≤ text.size → f text d = none → G d = text.toList.drop d) : ∀ (fuel d : Nat), d ≤ text.size → text.size + 1 - d ≤ fuel → ((subPieces f text r fuel d).map cl).flatten = G d
  | 0, d, h1, h2 => by lia
  | fuel + 1, d, h1, h2 => by
    unfold subPieces
    cases e : f text d with
    | none =>
      rw [miss d h1 e]
      dsimp only
      by_cases h : d < text.size
      · rw [if_pos h]
        show cl ⟨text.extract d text.size⟩ ++ [] = _
        rw [List.append_nil]
        simp [cl, List.take_of_length_le]
      · rw [if_neg h, List.drop_eq_nil_of_le (by simp; lia)]
        rfl
    | some ab =>
      obtain ⟨a, b⟩ := ab
      obtain ⟨g1, g2, g3⟩ := Fw text d a b h1 e
      rw [hit d a b h1 e, ← sub_run Fw hit miss fuel b g3 (by lia)]
      dsimp only
      have ex : cl ⟨text.extract d a⟩ = (text.toList.drop d).take (a - d) := by
        simp [cl]
      by_cases h : d < a
      · rw [if_pos h]
        show (List.map cl ([⟨text.extract d a⟩] ++ r :: _)).flatten = _
        rw [List.map_append, List.flatten_append, List.map_cons, List.flatten_cons]
        show (cl ⟨text.extract d a⟩ ++ []) ++ _ = _
        rw [List.append_nil, ex, List.append_assoc, List.map_cons, List.flatten_cons]
      · rw [if_neg h]
        have : a - d = 0 := by lia
        rw [this, List.take_zero, List.nil_append, List.nil_append, List.map_cons, List.flatten_cons]
theorem firstAt_none {q : Nat → Bool} {lim : Nat} : ∀ {fuel p : Nat}, firstAt q lim fuel p = none → lim ≤ p + fuel → ∀ j, p ≤ j → j < lim → q j = false
  | 0, p, h, hf, j, h1, h2 => by lia
  | fuel + 1, p, h, hf, j, h1, h2 => by
    unfold firstAt at h
    rw [if_pos (by lia)] at h
    by_cases hq : q p = true
    · rw [if_pos hq] at h; cases h
    · rw [if_neg hq] at h
      by_cases e : j = p
      · rw [e]; simpa using hq
      · exact firstAt_none h (by lia) j (by lia) h2
theorem getD_toList (text : Array Nat) {k : Nat} (h : k < text.size) : text.getD k 0 = text.toList[k]'(by simpa using h) := by
  rw [Array.getD_eq_getD_getElem?, Array.getElem?_eq_getElem h]
  simp
/-- no end from a to c -/
theorem brk_run {l : List Nat} : ∀ (n a c : Nat), a + n = c → (hc : c ≤ l.length) → (∀ k (h : k < l.length), a ≤ k → k < c → l[k] ≠ 10 ∧ l[k] ≠ 13) → brk (l.drop a) = (l.drop a).take (c - a) ++ brk (l.drop c)
  | 0, a, c, e, hc, h => by
    have : a = c := by lia
    subst this; simp
  | n + 1, a, c, e, hc, h => by
    have ha : a < l.length := by lia
    have ih := brk_run n (a + 1) c (by lia) hc fun k hk h1 h2 => h k hk (by lia) h2
    have e1 : c - a = (c - (a + 1)) + 1 := by lia
    have hn := h a ha (Nat.le_refl _) (by lia)
    rw [drop_cons ha, e1, List.take_succ_cons, List.cons_append, ← ih]
    by_cases hb : a + 1 < l.length
    · rw [drop_cons hb, brk, if_neg (by lia), if_neg (by lia)]
    · rw [List.drop_eq_nil_of_le (by lia), brk_one, if_neg (by lia)]
      rfl
theorem cl_sub2 (x : Str) : cl (subText find2 x (Str.ofString "\x0d\n")) = brk (cl x) := by
  unfold subText
  have e0 : emp = ⟨#[]⟩ := rfl
  rw [tj, e0, join_flat]
  have hs : x.cps.size = x.cps.toList.length := by simp
  have h := sub_run (f := find2) (text := x.cps) (r := Str.ofString "\x0d\n") (G := fun d => brk (x.cps.toList.drop d)) forward2 ?_ ?_ (x.cps.size + 1) 0 (Nat.zero_le _) (Nat.le_refl _)
  · rw [h]; rfl
  · intro d a b hd hf
    unfold find2 at hf
    obtain ⟨s, h1, h2⟩ := Option.map_eq_some_iff.mp hf
    rw [Prod.mk.injEq] at h2
    obtain ⟨e1, e2⟩ := h2
    subst e1
    obtain ⟨a1, a2, a3, a4⟩ := firstAt_spec h1
    have hsl : s < x.cps.toList.length := by lia
    rw [brk_run (s - d) d s (by lia) (by lia) fun k hk b1 b2 => by
      have := a4 k b1 b2
      rw [getD_toList _ (by lia)] at this
      unfold isEnd at this
      simp only [Bool.or_eq_false_iff, beq_eq_false_iff_ne] at this
      exact this]
    rw [List.append_assoc]
    congr 1
    have hq := a3
    rw [getD_toList _ a2] at hq
    unfold isEnd at hq
    simp only [Bool.or_eq_true, beq_iff_eq] at hq
    rw [cn_eq]
    show brk _ = 13 :: 10 :: brk _
    rw [drop_cons hsl]
    by_cases hb : s + 1 < x.cps.toList.length
    · rw [drop_cons hb, brk]
      rw [getD_toList _ a2, getD_toList _ (by lia)] at e2
      by_cases hc : x.cps.toList[s] = 13 ∧ x.cps.toList[s + 1] = 10
      · rw [if_pos hc]
        rw [if_pos ⟨hc.1, by lia, hc.2⟩] at e2
        rw [← e2]
      · rw [if_neg hc, if_pos hq]
        rw [if_neg (fun q => hc ⟨q.1, q.2.2⟩)] at e2
        rw [← e2, drop_cons hb]
    · rw [if_neg (fun q => hb (by lia))] at e2
      rw [← e2, List.drop_eq_nil_of_le (by lia), brk_one, if_pos hq]
      rfl
  · intro d hd hf
    unfold find2 at hf
    have hn := Option.map_eq_none_iff.mp hf
    have hq := firstAt_none hn (by lia)
    show brk _ = _
    rw [brk_run (x.cps.toList.length - d) d x.cps.toList.length (by lia) (Nat.le_refl _) fun k hk b1 b2 => by
      have := hq k b1 (by lia)
      rw [getD_toList _ (by lia)] at this
      unfold isEnd at this
      simp only [Bool.or_eq_false_iff, beq_eq_false_iff_ne] at this
      exact this]
    rw [List.drop_length]
    show _ ++ [] = _
    rw [List.append_nil, List.take_of_length_le (by simp)]
theorem dot_run {l : List Nat} : ∀ (n a c : Nat), a + n = c → (hc : c ≤ l.length) → (∀ k (h : k < l.length), a ≤ k → k < c → ¬ ((k = 0 ∨ l.getD (k - 1) 0 = 10) ∧ l[k] = 46)) →
    dot (decide (a = 0 ∨ l.getD (a - 1) 0 = 10)) (l.drop a) = (l.drop a).take (c - a) ++ dot (decide (c = 0 ∨ l.getD (c - 1) 0 = 10)) (l.drop c)
  | 0, a, c, e, hc, h => by
    have : a = c := by lia
    subst this; simp
  | n + 1, a, c, e, hc, h => by
    have ha : a < l.length := by lia
    have ih := dot_run n (a + 1) c (by lia) hc fun k hk h1 h2 => h k hk (by lia) h2
    have e1 : c - a = (c - (a + 1)) + 1 := by lia
    have hn := h a ha (Nat.le_refl _) (by lia)
    rw [drop_cons ha, e1, List.take_succ_cons, List.cons_append, ← ih, dot]
    rw [if_neg (by rw [decide_eq_true_eq]; exact hn)]
    have e2 : decide (a + 1 = 0 ∨ l.getD (a + 1 - 1) 0 = 10) = (l[a] == 10) := by
      rw [Nat.add_sub_cancel, List.getD_eq_getElem?_getD, List.getElem?_eq_getElem ha, Option.getD_some]
      rw [Bool.eq_iff_iff, decide_eq_true_eq, beq_iff_eq]
      lia
    rw [e2]
theorem bol_eq (text : Array Nat) (s : Nat) : Bol text s = decide (s = 0 ∨ text.toList.getD (s - 1) 0 = 10) := by
  unfold Bol
  have e : text.getD (s - 1) 0 = text.toList.getD (s - 1) 0 := by
    rw [Array.getD_eq_getD_getElem?, List.getD_eq_getElem?_getD, Array.getElem?_toList]
  rw [e]
  rw [Bool.eq_iff_iff, Bool.or_eq_true, beq_iff_eq, beq_iff_eq, decide_eq_true_eq]
theorem cl_sub1 (x : Str) : cl (subText find1 x (Str.ofString "..")) = dot true (cl x) := by
  unfold subText
  have e0 : emp = ⟨#[]⟩ := rfl
  rw [tj, e0, join_flat]
  have hs : x.cps.size = x.cps.toList.length := by simp
  have h := sub_run (f := find1) (text := x.cps) (r := Str.ofString "..") (G := fun d => dot (decide (d = 0 ∨ x.cps.toList.getD (d - 1) 0 = 10)) (x.cps.toList.drop d)) forward1 ?_ ?_ (x.cps.size + 1) 0 (Nat.zero_le _) (Nat.le_refl _)
  · rw [h]
    simp
  · intro d a b hd hf
    unfold find1 at hf
    obtain ⟨s, h1, h2⟩ := Option.map_eq_some_iff.mp hf
    rw [Prod.mk.injEq] at h2
    obtain ⟨e1, e2⟩ := h2
    subst e1; subst e2
    obtain ⟨a1, a2, a3, a4⟩ := firstAt_spec h1
    have hsl : s < x.cps.toList.length := by lia
    show dot _ _ = _ ++ _ ++ dot _ _
    rw [dot_run (s - d) d s (by lia) (by lia) fun k hk b1 b2 => by
      have := a4 k b1 b2
      rw [getD_toList _ (by lia), bol_eq] at this
      intro q
      rw [decide_eq_true q.1, q.2] at this
      cases this]
    rw [List.append_assoc]
    congr 1
    rw [getD_toList _ a2, bol_eq, Bool.and_eq_true, beq_iff_eq, decide_eq_true_eq] at a3
    rw [drop_cons hsl, dot, if_pos ⟨decide_eq_true a3.1, a3.2⟩, dd_eq]
    have e2 : decide (s + 1 = 0 ∨ x.cps.toList.getD (s + 1 - 1) 0 = 10) = false := by
      rw [Nat.add_sub_cancel, List.getD_eq_getElem?_getD, List.getElem?_eq_getElem hsl, Option.getD_some, a3.2]
      exact decide_eq_false (by lia)
    rw [e2]
    rfl
  · intro d hd hf
    unfold find1 at hf
    have hn := Option.map_eq_none_iff.mp hf
    have hq := firstAt_none hn (by lia)
    show dot _ _ = _
    rw [dot_run (x.cps.toList.length - d) d x.cps.toList.length (by lia) (Nat.le_refl _) fun k hk b1 b2 => by
      have := hq k b1 (by lia)
      rw [getD_toList _ (by lia), bol_eq] at this
      intro q
      rw [decide_eq_true q.1, q.2] at this
      cases this]
    rw [List.drop_length]
    show _ ++ [] = _
    rw [List.append_nil, List.take_of_length_le (by simp)]
/-- what quotedata sends -/
theorem cl_qd (x : Str) : cl (qd x) = exp (dot true (nrm (cl x))) := by
  unfold qd
  have e1 : dots = Str.ofString ".." := rfl
  have e2 : crlf = Str.ofString "\x0d\n" := rfl
  rw [e1, e2, cl_sub1, cl_sub2, brk_eq, dot_exp]
end
section
variable {w : World} {mean : ExcName → Option Value} {mg mb : Str → Option Value} {news : List (Addr × Obj)}
open PySem.StrLaws PySem.Builtin.Str
noncomputable def signs : Str := Str.ofString "ABCDEFGHIJKLMNOPQRSTUVWXYZabcdefghijklmnopqrstuvwxyz0123456789.\n"
noncomputable def sgn (v : Int) : Str := Txt.item signs v
noncomputable def fnd (c : Nat) : Int := Txt.find signs ⟨#[c]⟩
noncomputable def Sg (c : Nat) : Prop := (65 ≤ c ∧ c ≤ 90) ∨ (97 ≤ c ∧ c ≤ 122) ∨ (48 ≤ c ∧ c ≤ 57) ∨ c = 46 ∨ c = 10 ∨ c = 13
noncomputable def okc (c : Nat) : Bool := (65 ≤ c && c ≤ 90) || (97 ≤ c && c ≤ 122) || (48 ≤ c && c ≤ 57) || c == 46 || c == 10
theorem okc_of {c : Nat} (h : Sg c) (h13 : c ≠ 13) : okc c = true := by
  unfold Sg at h
  unfold okc
  simp only [Bool.or_eq_true, Bool.and_eq_true, decide_eq_true_eq, beq_iff_eq]
  rcases h with h | h | h | h | h | h
  · exact .inl (.inl (.inl (.inl h)))
  · exact .inl (.inl (.inl (.inr h)))
  · exact .inl (.inl (.inr h))
  · exact .inl (.inr h)
  · exact .inr h
  · exact absurd h h13
theorem sg_of {c : Nat} (h : okc c = true) : Sg c ∧ c ≠ 13 := by
  unfold okc at h
  unfold Sg
  simp only [Bool.or_eq_true, Bool.and_eq_true, decide_eq_true_eq, beq_iff_eq] at h
  have gt : ∀ {n : Nat}, 13 < n → n ≤ c → c ≠ 13 := fun a b => Nat.ne_of_gt (Nat.lt_of_lt_of_le a b)
  rcases h with (((h | h) | h) | h) | h
  · exact ⟨.inl h, gt (by decide) h.1⟩
  · exact ⟨.inr (.inl h), gt (by decide) h.1⟩
  · exact ⟨.inr (.inr (.inl h)), gt (by decide) h.1⟩
  · exact ⟨.inr (.inr (.inr (.inl h))), fun e => absurd (h.symm.trans e) (by decide)⟩
  · exact ⟨.inr (.inr (.inr (.inr (.inl h)))), fun e => absurd (h.symm.trans e) (by decide)⟩
theorem sg_lt {c : Nat} (h : Sg c) : c < 128 := by unfold Sg at h; lia
noncomputable def swN (c : Nat) : Nat := if c = 46 then 43 else if c = 10 then 47 else c
theorem mk2 (f1 f2 g1 g2 d : UInt8) {c : Nat} (hc : c < 256) : (mkTab #[f1, f2] #[g1, g2]).getD c d = if c = f2.toNat then g2 else if c = f1.toNat then g1 else c.toUInt8 := by
  have e : mkTab #[f1, f2] #[g1, g2] = (((Array.range 256).map (·.toUInt8)).setIfInBounds f1.toNat g1).setIfInBounds f2.toNat g2 := rfl
  have h1 := f1.toNat_lt
  have h2 := f2.toNat_lt
  have hs : ((Array.range 256).map (·.toUInt8)).size = 256 := by simp
  rw [e, Array.getD_eq_getD_getElem?, Array.getElem?_setIfInBounds, Array.getElem?_setIfInBounds]
  by_cases q2 : c = f2.toNat
  · rw [if_pos q2.symm, if_pos (by rw [Array.size_setIfInBounds, hs]; lia), if_pos q2]; rfl
  · rw [if_neg (Ne.symm q2), if_neg q2]
    by_cases q1 : c = f1.toNat
    · rw [if_pos q1.symm, if_pos (by rw [hs]; lia), if_pos q1]; rfl
    · rw [if_neg (Ne.symm q1), if_neg q1, Array.getElem?_map, Array.getElem?_range, if_pos hc]; rfl
theorem tab1' : ∀ i : Fin 128, (if (i.val.toUInt8).toNat = (10 : UInt8).toNat then (47 : UInt8) else if (i.val.toUInt8).toNat = (46 : UInt8).toNat then 43 else (i.val.toUInt8).toNat.toUInt8).toNat = swN i.val := by decide +kernel
theorem tab1 : ∀ i : Fin 128, ((mkTab #[46, 10] #[43, 47]).getD (i.val.toUInt8).toNat i.val.toUInt8).toNat = swN i.val := fun i => by
  rw [mk2 _ _ _ _ _ (UInt8.toNat_lt _)]
  exact tab1' i
/-- the place of a sign -/
noncomputable def ix (c : Nat) : Nat := if c = 10 then 63 else if c = 46 then 62 else if c ≤ 57 then c + 4 else if c ≤ 90 then c - 65 else c - 71
noncomputable def sgl : List Nat := [65, 66, 67, 68, 69, 70, 71, 72, 73, 74, 75, 76, 77, 78, 79, 80, 81, 82, 83, 84, 85, 86, 87, 88, 89, 90, 97, 98, 99, 100, 101, 102, 103, 104, 105, 106, 107, 108, 109, 110, 111, 112, 113, 114, 115, 116, 117, 118, 119, 120, 121, 122, 48, 49, 50, 51, 52, 53, 54, 55, 56, 57, 46, 10]
theorem cl_signs : cl signs = sgl := by decide +kernel
theorem signs_at : ∀ i : Fin 64, ix (sgl.getD i.val 0) = i.val := by decide +kernel
theorem signs_len : (cl signs).length = 64 := by rw [cl_signs]; rfl
theorem signs_ix : ∀ i : Fin 128, okc i.val = true → (ix i.val < 64 ∧ sgl.getD (ix i.val) 0 = i.val ∧ b64v ((swN i.val : Nat) : Int) = ((ix i.val : Nat) : Int)) := by decide +kernel
theorem fnd_ix {c : Nat} (h : okc c = true) : fnd c = ((ix c : Nat) : Int) := by
  have hc := sg_lt (sg_of h).1
  obtain ⟨s1, s2, _⟩ := signs_ix ⟨c, hc⟩ h
  have hat : ∀ a, At signs ⟨#[c]⟩ signs.length a ↔ (cl signs)[a]? = some c := fun a => subAt_one signs c a
  have hin : (cl signs)[ix c]? = some c := by
    have hl : ix c < (cl signs).length := by rw [signs_len]; exact s1
    rw [List.getElem?_eq_getElem hl]
    rw [← cl_signs, List.getD_eq_getElem?_getD, List.getElem?_eq_getElem hl, Option.getD_some] at s2
    exact congrArg some s2
  unfold fnd Txt.find
  rcases occ_head signs ⟨#[c]⟩ 1 (Nat.le_refl _) with ⟨_, hn⟩ | ⟨a, r, e, ha, _⟩
  · exact absurd ((hat (ix c)).mpr hin) (hn (ix c))
  · rw [e]
    have h1 := (hat a).mp ha
    have hl : a < (cl signs).length := (List.getElem?_eq_some_iff.mp h1).1
    rw [signs_len] at hl
    have h2 := signs_at ⟨a, hl⟩
    dsimp only at h2
    rw [← cl_signs, List.getD_eq_getElem?_getD, h1, Option.getD_some] at h2
    show (a : Int) = _
    rw [h2]
theorem tab3' : ∀ i : Fin 128, okc i.val = true → (if ((e64 (ix i.val : Nat)).toNat.toUInt8).toNat = (47 : UInt8).toNat then (10 : UInt8) else if ((e64 (ix i.val : Nat)).toNat.toUInt8).toNat = (43 : UInt8).toNat then 46 else ((e64 (ix i.val : Nat)).toNat.toUInt8).toNat.toUInt8).toNat = i.val := by decide +kernel
theorem tab3 : ∀ i : Fin 128, okc i.val = true → ((mkTab #[43, 47] #[46, 10]).getD ((e64 (ix i.val : Nat)).toNat.toUInt8).toNat ((e64 (ix i.val : Nat)).toNat.toUInt8)).toNat = i.val := fun i h => by
  rw [mk2 _ _ _ _ _ (UInt8.toNat_lt _)]
  exact tab3' i h
theorem tab4 : ∀ i : Fin 128, swN i.val ≠ 61 ∨ i.val = 61 := by decide +kernel
theorem fnd65 : fnd 65 = 0 := by rw [fnd_ix (by decide)]; rfl
theorem fnd_ok {c : Nat} (h : okc c = true) : 0 ≤ fnd c ∧ fnd c < 64 ∧ b64v (swN c : Nat) = fnd c := by
  obtain ⟨s1, _, s3⟩ := signs_ix ⟨c, sg_lt (sg_of h).1⟩ h
  dsimp only at s1 s3
  rw [fnd_ix h]
  exact ⟨by lia, by lia, s3⟩
theorem seen_ints {x : Str} (h : ∀ c ∈ cl x, c < 128) : KBw.bInts (seen x) = (cl x).map fun c => ((swN c : Nat) : Int) := by
  unfold KBw.bInts seen transl asBytes
  simp only [Array.toList_map, List.map_map]
  refine List.map_congr_left fun c hc => ?_
  have := tab1 ⟨c, h c hc⟩
  exact congrArg (fun n : Nat => (n : Int)) this
noncomputable def vst (st : List Int × Int × Int) (v : Int) : List Int × Int × Int :=
  if st.2.1 = 0 then (st.1, 1, v)
  else if st.2.1 = 1 then (st.1 ++ [4 * st.2.2 + v / 16], 2, v % 16)
  else if st.2.1 = 2 then (st.1 ++ [16 * st.2.2 + v / 4], 3, v % 4)
  else (st.1 ++ [64 * st.2.2 + v], 0, 0)
theorem dec_vals : ∀ (l : List Nat) (st : List Int × Int × Int), (∀ c ∈ l, Sg c) → (l.map fun c => ((swN c : Nat) : Int)).foldl dstep st = ((l.filter (fun c => c != 13)).map fnd).foldl vst st
  | [], st, _ => rfl
  | c :: l, st, h => by
    have hc := h c (.head _)
    have hl : ∀ c ∈ l, Sg c := fun d hd => h d (.tail _ hd)
    rw [List.map_cons, List.foldl_cons, List.filter_cons]
    by_cases h13 : c = 13
    · subst h13
      rw [if_neg (by decide)]
      have e : dstep st ((swN 13 : Nat) : Int) = st := by
        unfold dstep
        rw [if_pos (by decide)]
      rw [e]
      exact dec_vals l st hl
    · rw [if_pos (by simp [h13]), List.map_cons, List.foldl_cons, dec_vals l _ hl]
      obtain ⟨a1, a2, a3⟩ := fnd_ok (okc_of hc h13)
      congr 1
      unfold dstep vst
      rw [a3, if_neg (by lia)]
theorem numOf4 (a b c d : Int) : numOf [a, b, c, d] = 262144 * a + 4096 * b + 64 * c + d := by
  show (((0 * 64 + a) * 64 + b) * 64 + c) * 64 + d = _
  lia
theorem dq {n k q r : Int} (hk : 0 < k) (e : n = r + k * q) (h0 : 0 ≤ r) (h1 : r < k) : n / k = q ∧ n % k = r :=
  (Int.ediv_emod_unique hk).mpr ⟨e.symm, h0, h1⟩
theorem qr (n : Int) {k m : Int} (hk : 0 < k) (h : 0 ≤ n ∧ n < k * m) : n = n % k + k * (n / k) ∧ (0 ≤ n / k ∧ n / k < m) ∧ (0 ≤ n % k ∧ n % k < k) :=
  ⟨(Int.emod_add_mul_ediv n k).symm, ⟨Int.ediv_nonneg h.1 (Int.le_of_lt hk), Int.ediv_lt_of_lt_mul hk (by rw [Int.mul_comm]; exact h.2)⟩, Int.emod_nonneg _ (Int.ne_of_gt hk), Int.emod_lt_of_pos _ hk⟩
/-- the three octets of four values -/
theorem num_parts {a b c d : Int} (ha : 0 ≤ a ∧ a < 64) (hb : 0 ≤ b ∧ b < 64) (hc : 0 ≤ c ∧ c < 64) (hd : 0 ≤ d ∧ d < 64) :
    ∃ b1 b0 c1 c0, (b = 16 * b1 + b0 ∧ c = 4 * c1 + c0) ∧ (b / 16 = b1 ∧ b % 16 = b0 ∧ c / 4 = c1 ∧ c % 4 = c0) ∧ ((0 ≤ b1 ∧ b1 < 4) ∧ (0 ≤ b0 ∧ b0 < 16) ∧ (0 ≤ c1 ∧ c1 < 16) ∧ (0 ≤ c0 ∧ c0 < 4)) ∧
      threeOf (numOf [a, b, c, d]) = [4 * a + b1, 16 * b0 + c1, 64 * c0 + d] := by
  obtain ⟨eb, b1, b0⟩ := qr b (k := 16) (m := 4) (by decide) hb
  obtain ⟨ec, c1, c0⟩ := qr c (k := 4) (m := 16) (by decide) hc
  refine ⟨b / 16, b % 16, c / 4, c % 4, ⟨(eb.trans (Int.add_comm _ _)), (ec.trans (Int.add_comm _ _))⟩, ⟨rfl, rfl, rfl, rfl⟩, ⟨b1, b0, c1, c0⟩, ?_⟩
  generalize b / 16 = x1 at *
  generalize b % 16 = x0 at *
  generalize c / 4 = y1 at *
  generalize c % 4 = y0 at *
  subst eb; subst ec
  clear hb hc
  rw [numOf4]
  unfold threeOf
  generalize ht : 16 * x0 + y1 = t2
  generalize hu : 64 * y0 + d = t3
  have h2 : 0 ≤ t2 ∧ t2 < 256 := by lia
  have h3 : 0 ≤ t3 ∧ t3 < 256 := by lia
  have e : 262144 * a + 4096 * (x0 + 16 * x1) + 64 * (y0 + 4 * y1) + d = t3 + 256 * (t2 + 256 * (4 * a + x1)) := by lia
  clear ht hu ha b1 b0 c1 c0 hd
  rw [e]
  have e1 := dq (n := t3 + 256 * (t2 + 256 * (4 * a + x1))) (by decide) rfl h3.1 h3.2
  have e2 := dq (n := t2 + 256 * (4 * a + x1)) (by decide) rfl h2.1 h2.2
  have e3 : (65536 : Int) = 256 * 256 := by decide
  rw [e3, ← Int.ediv_ediv_of_nonneg (by decide), e1.1, e1.2, e2.1, e2.2]
theorem vst4 (out : List Int) {a b c d : Int} (ha : 0 ≤ a ∧ a < 64) (hb : 0 ≤ b ∧ b < 64) (hc : 0 ≤ c ∧ c < 64) (hd : 0 ≤ d ∧ d < 64) : [a, b, c, d].foldl vst (out, 0, 0) = (out ++ threeOf (numOf [a, b, c, d]), 0, 0) := by
  show (out ++ [4 * a + b / 16] ++ [16 * (b % 16) + c / 4] ++ [64 * (c % 4) + d], (0 : Int), (0 : Int)) = _
  rw [List.append_assoc, List.append_assoc]
  obtain ⟨b1, b0, c1, c0, _, ⟨e1, e2, e3, e4⟩, _, e5⟩ := num_parts ha hb hc hd
  rw [e1, e2, e3, e4, e5]
  rfl
/-- octets of whole fours -/
noncomputable def oct4 (vals : List Int) (m : Nat) : List Int := (List.range m).flatMap fun i => threeOf (numOf ((vals.drop (4 * i)).take 4))
theorem four_of {l : List Int} (h : l.length = 4) : ∃ a b c d, l = [a, b, c, d] := by
  match l, h with
  | [a, b, c, d], _ => exact ⟨a, b, c, d, rfl⟩
theorem oct4_take (vals : List Int) (m : Nat) : oct4 (vals.take (4 * m)) m = oct4 vals m := by
  unfold oct4
  have key : ∀ i ∈ List.range m, (fun i => threeOf (numOf (((vals.take (4 * m)).drop (4 * i)).take 4))) i = (fun i => threeOf (numOf ((vals.drop (4 * i)).take 4))) i := by
    intro i hi
    have := List.mem_range.mp hi
    dsimp only
    rw [List.drop_take, List.take_take, Nat.min_eq_left (by lia)]
  rw [List.flatMap_def, List.flatMap_def, List.map_congr_left key]
theorem oct4_succ (vals : List Int) (m : Nat) : oct4 vals (m + 1) = oct4 vals m ++ threeOf (numOf ((vals.drop (4 * m)).take 4)) := by
  unfold oct4
  rw [List.range_succ, List.flatMap_append]
  simp
theorem split4 {vals : List Int} {m : Nat} (hl : vals.length = 4 * (m + 1)) : ∃ a b c d, vals = vals.take (4 * m) ++ [a, b, c, d] ∧ (vals.drop (4 * m)).take 4 = [a, b, c, d] := by
  obtain ⟨a, b, c, d, e⟩ := four_of (l := vals.drop (4 * m)) (by rw [List.length_drop]; lia)
  refine ⟨a, b, c, d, ?_, ?_⟩
  · rw [← e, List.take_append_drop]
  · rw [e]; rfl
theorem vfold : ∀ (m : Nat) (vals : List Int), vals.length = 4 * m → (∀ v ∈ vals, 0 ≤ v ∧ v < 64) → vals.foldl vst ([], 0, 0) = (oct4 vals m, 0, 0)
  | 0, vals, hl, _ => by rw [List.eq_nil_of_length_eq_zero hl]; rfl
  | m + 1, vals, hl, hr => by
    obtain ⟨a, b, c, d, e1, e2⟩ := split4 hl
    have hm : ∀ v ∈ [a, b, c, d], 0 ≤ v ∧ v < 64 := fun v hv => hr v (by rw [e1]; exact List.mem_append_right _ hv)
    have ih := vfold m (vals.take (4 * m)) (by rw [List.length_take]; lia) fun v hv => hr v (List.mem_of_mem_take hv)
    rw [oct4_succ, e2]
    have : vals.foldl vst ([], 0, 0) = (vals.take (4 * m) ++ [a, b, c, d]).foldl vst ([], 0, 0) := by rw [← e1]
    rw [this, List.foldl_append, ih, vst4 _ (hm a (by simp)) (hm b (by simp)) (hm c (by simp)) (hm d (by simp)), oct4_take]
theorem octs_pad (ns : List Int) {k m : Nat} (hk : k ≤ 3) (hm : ns.length + k = 4 * m) : octs ns ((ns.length + 3) / 4) = oct4 (ns ++ List.replicate k 0) m := by
  have em : (ns.length + 3) / 4 = m := by lia
  rw [em]
  have e3 : ns ++ List.replicate k 0 = (ns ++ [0, 0, 0]).take (4 * m) := by
    have e0 : ([0, 0, 0] : List Int) = List.replicate 3 0 := rfl
    rw [List.take_append, List.take_of_length_le (by lia), e0, List.take_replicate]
    congr 2
    lia
  rw [e3, oct4_take]
  rfl
theorem three_est (out : List Int) {lc a b c d : Int} (hl : 0 ≤ lc) (ha : 0 ≤ a ∧ a < 64) (hb : 0 ≤ b ∧ b < 64) (hc : 0 ≤ c ∧ c < 64) (hd : 0 ≤ d ∧ d < 64) :
    ∃ lc', 0 ≤ lc' ∧ (threeOf (numOf [a, b, c, d])).foldl estep (out, 0, lc) = (out ++ [e64 a, e64 b, e64 c, e64 d], 0, lc') := by
  obtain ⟨b1, b0, c1, c0, ⟨eb, ec⟩, _, ⟨hb1, hb0, hc1, hc0⟩, e0⟩ := num_parts ha hb hc hd
  rw [e0]
  clear e0 hb hc
  generalize h1 : 4 * a + b1 = t1
  generalize h2 : 16 * b0 + c1 = t2
  generalize h3 : 64 * c0 + d = t3
  have k1 : 0 ≤ t1 ∧ t1 < 256 := by clear eb ec h2 h3; lia
  have k2 : 0 ≤ t2 ∧ t2 < 256 := by clear eb ec h1 h3; lia
  have k3 : 0 ≤ t3 ∧ t3 < 256 := by clear eb ec h1 h2; lia
  obtain ⟨el, _, hl0⟩ := qr lc (k := 256) (m := lc + 1) (by decide) (by clear eb ec h1 h2 h3; lia)
  have sh : ∀ {x y t q u : Int}, x = y + 256 * q → (0 ≤ y ∧ y < 256) → (0 ≤ t ∧ t < 256) → u = t + 256 * y → (x * 256 + t) % 65536 = u := by
    intro x y t q u ex hy ht hu
    exact (dq (q := q) (by decide) (by subst hu; subst ex; clear hy ht; lia) (by lia) (by lia)).2
  generalize g1 : (lc * 256 + t1) % 65536 = lc1
  have q1 : lc1 = t1 + 256 * (lc % 256) := g1.symm.trans (sh el hl0 k1 rfl)
  generalize lc % 256 = l0 at *
  clear el
  generalize g2 : (lc1 * 256 + t2) % 65536 = lc2
  have q2 : lc2 = t2 + 256 * t1 := g2.symm.trans (sh q1 k1 k2 rfl)
  generalize g3 : (lc2 * 256 + t3) % 65536 = lc3
  have q3 : lc3 = t3 + 256 * t2 := g3.symm.trans (sh q2 k2 k3 rfl)
  have i1 : lc1 / 4 % 64 = a := by
    rw [(dq (q := a + 64 * l0) (r := b1) (by decide) (by lia) hb1.1 hb1.2).1]
    exact (dq (by decide) rfl ha.1 ha.2).2
  have i2 : lc2 / 16 % 64 = b := by
    rw [(dq (q := b + 64 * a) (r := c1) (by decide) (by lia) hc1.1 hc1.2).1]
    exact (dq (by decide) rfl (by lia) (by lia)).2
  have i3 : lc3 / 64 % 64 = c := by
    rw [(dq (q := c + 64 * b0) (r := d) (by decide) (by lia) hd.1 hd.2).1]
    exact (dq (by decide) rfl (by lia) (by lia)).2
  have i4 : lc3 % 64 = d := (dq (q := c + 64 * b0) (by decide) (by lia) hd.1 hd.2).2
  refine ⟨lc3, by lia, ?_⟩
  have s1 : estep (out, 0, lc) t1 = (out ++ [e64 a], 2, lc1) := by
    unfold estep; dsimp only; rw [g1, if_pos rfl, i1]
  have s2 : estep (out ++ [e64 a], 2, lc1) t2 = (out ++ [e64 a] ++ [e64 b], 4, lc2) := by
    unfold estep; dsimp only; rw [g2, if_neg (by decide), if_pos rfl, i2]
  have s3 : estep (out ++ [e64 a] ++ [e64 b], 4, lc2) t3 = (out ++ [e64 a] ++ [e64 b] ++ [e64 c] ++ [e64 d], 0, lc3) := by
    unfold estep; dsimp only; rw [g3, if_neg (by decide), if_neg (by decide), i3, i4]
  rw [List.foldl_cons, s1, List.foldl_cons, s2, List.foldl_cons, s3, List.foldl_nil]
  simp
theorem efold : ∀ (m : Nat) (vals : List Int), vals.length = 4 * m → (∀ v ∈ vals, 0 ≤ v ∧ v < 64) → ∃ lc, 0 ≤ lc ∧ (oct4 vals m).foldl estep ([], 0, 0) = (vals.map e64, 0, lc)
  | 0, vals, hl, _ => by rw [List.eq_nil_of_length_eq_zero hl]; exact ⟨0, Int.le_refl _, rfl⟩
  | m + 1, vals, hl, hr => by
    obtain ⟨a, b, c, d, e1, e2⟩ := split4 hl
    have hm : ∀ v ∈ [a, b, c, d], 0 ≤ v ∧ v < 64 := fun v hv => hr v (by rw [e1]; exact List.mem_append_right _ hv)
    obtain ⟨lc, h0, ih⟩ := efold m (vals.take (4 * m)) (by rw [List.length_take]; lia) fun v hv => hr v (List.mem_of_mem_take hv)
    obtain ⟨lc', h0', s⟩ := three_est ((vals.take (4 * m)).map e64) h0 (hm a (by simp)) (hm b (by simp)) (hm c (by simp)) (hm d (by simp))
    refine ⟨lc', h0', ?_⟩
    rw [oct4_succ, e2, List.foldl_append, ← oct4_take, ih, s]
    have : vals.map e64 = (vals.take (4 * m) ++ [a, b, c, d]).map e64 := by rw [← e1]
    rw [this, List.map_append]
    rfl
theorem oct4_range {vals : List Int} (hr : ∀ v ∈ vals, 0 ≤ v ∧ v < 64) {m : Nat} (hl : vals.length = 4 * m) : ∀ x ∈ oct4 vals m, 0 ≤ x ∧ x < 256 := by
  have h := octs_pad vals (k := 0) (m := m) (by decide) hl
  rw [List.replicate_zero, List.append_nil] at h
  rw [← h]
  exact octs_range hr
theorem oct4_len (vals : List Int) (m : Nat) : (oct4 vals m).length = 3 * m := by
  induction m with
  | zero => rfl
  | succ m ih => rw [oct4_succ, List.length_append, ih]; simp [threeOf]; lia
end
section
variable {w : World} {mean : ExcName → Option Value} {mg mb : Str → Option Value} {news : List (Addr × Obj)}
open PySem.StrLaws PySem.Builtin.Str
theorem vstep_range : ∀ (l : List Int) (a : List Int), (∀ v ∈ a, 0 ≤ v ∧ v < 64) → ∀ v ∈ l.foldl vstep a, 0 ≤ v ∧ v < 64
  | [], a, h => h
  | x :: l, a, h => by
    refine vstep_range l (vstep a x) ?_
    intro v hv
    unfold vstep at hv
    rcases List.mem_append.mp hv with hv | hv
    · exact h v hv
    · rw [List.mem_singleton.mp hv]
      unfold pick
      (repeat' split) <;> lia
theorem lawVals_range (ns : List Int) : ∀ v ∈ lawVals ns, 0 ≤ v ∧ v < 64 := by
  intro v hv
  unfold lawVals at hv
  rcases List.mem_append.mp hv with hv | hv
  · unfold vals1 at hv
    rcases List.mem_append.mp hv with hv | hv
    · exact vstep_range _ _ (by decide) v hv
    · rw [List.mem_singleton.mp hv]; lia
  · have := (List.mem_replicate.mp hv).2
    lia
theorem vals1_length (ns : List Int) : (vals1 ns).length ≤ 8 := by
  unfold vals1
  rw [List.length_append, vstep_length]
  split <;> simp
  lia
theorem lawVals_length (ns : List Int) : (lawVals ns).length ≤ 11 := by
  unfold lawVals
  have := vals1_length ns
  rw [List.length_append, List.length_replicate]
  lia
theorem sgn_len (v : Int) : (sgn v).length = 1 := len_item _ _
theorem sgn_sum : ∀ l : List Int, ((l.map sgn).map (·.length)).sum = l.length
  | [] => rfl
  | v :: l => by
    have := sgn_sum l
    simp only [List.map_cons, List.sum_cons, List.length_cons, sgn_len] at this ⊢
    lia
/-- the letter, as a text -/
noncomputable def letter (ns : List Int) : Str := Txt.join (Str.ofString "") ((lawVals ns).map sgn)
noncomputable def pieces (ns : List Int) : List Str := Txt.split (letter ns) (Str.ofString "\n")
noncomputable def endTab : List Str := [Str.ofString "\x0d", Str.ofString "\n", Str.ofString "\x0d\n"]
noncomputable def tstep (st : Str × Int) (p : Str) : Str × Int := (st.1 ++ (endTab.getD (st.2.fmod 3).toNat Str.empty ++ p), st.2.fdiv 3)
noncomputable def textOf (ps : List Str) (i : Int) : Str := ((ps.drop 1).foldl tstep (ps.headD (Str.ofString ""), i)).1
structure TextOk (t : Str) : Prop where
  sg : ∀ c ∈ t.cps.toList, Sg c
  len : t.length ≤ 60
theorem hzl_ (ns : List Int) : (letter ns).length ≤ 11 := by
  have h2 := StrLaws.join_length_le (Str.ofString "") ((lawVals ns).map sgn)
  have h3 : (Str.ofString "").length = 0 := by decide +kernel
  have h4 := lawVals_length ns
  rw [sgn_sum, List.length_map, h3] at h2
  show (Builtin.Str.glued _ _).length ≤ _
  rw [StrLaws.glued_eq_join]
  lia
theorem end_len (k : Nat) : (endTab.getD k Str.empty).length ≤ 2 := by
  match k with
  | 0 => decide +kernel
  | 1 => decide +kernel
  | 2 => decide +kernel
  | k + 3 => exact Nat.zero_le _
theorem fold_len : ∀ (l : List Str) (st : Str × Int), (∀ p ∈ l, p.length ≤ 11) → (l.foldl tstep st).1.length ≤ st.1.length + 13 * l.length
  | [], st, _ => by simp
  | p :: l, st, h => by
    have h1 := fold_len l (tstep st p) fun q hq => h q (.tail _ hq)
    have h2 := h p (.head _)
    have h3 := end_len (st.2.fmod 3).toNat
    have h4 : (tstep st p).1.length = st.1.length + ((endTab.getD (st.2.fmod 3).toNat Str.empty).length + p.length) := by
      unfold tstep
      rw [Str.length_append, Str.length_append]
    rw [List.foldl_cons, List.length_cons]
    lia
theorem piece_len (ns : List Int) : ∀ p ∈ pieces ns, p.length ≤ 11 := fun p hp => Nat.le_trans (part_short hp) (hzl_ ns)
/-- a value's mark -/
noncomputable def sc (v : Int) : Nat := sgl.getD v.toNat 0
theorem sc_tab : ∀ i : Fin 64, okc (sc (i.val : Nat)) = true ∧ (sc ((i.val : Nat) : Int) = 10 ↔ i.val = 63) := by decide +kernel
theorem sc_ok {v : Int} (h : 0 ≤ v ∧ v < 64) : okc (sc v) = true ∧ (sc v = 10 ↔ v = 63) := by
  have := sc_tab ⟨v.toNat, by lia⟩
  have e : ((v.toNat : Nat) : Int) = v := Int.toNat_of_nonneg h.1
  dsimp only at this
  rw [e] at this
  refine ⟨this.1, this.2.trans ?_⟩
  lia
theorem cl_sgn {v : Int} (h : 0 ≤ v ∧ v < 64) : cl (sgn v) = [sc v] := by
  unfold sgn Txt.item
  have hl : signs.length = 64 := by rw [← cl_len, signs_len]
  have hlt : v.toNat < (cl signs).length := by rw [signs_len]; lia
  have hn : signs.cps[v.toNat]? = some (sc v) := by
    rw [← Array.getElem?_toList]
    show (cl signs)[v.toNat]? = _
    rw [cl_signs]
    have hlt' : v.toNat < sgl.length := by rw [← cl_signs]; exact hlt
    unfold sc
    rw [List.getD_eq_getElem?_getD, List.getElem?_eq_getElem hlt']
    rfl
  have := at_nonneg (x := signs) h.1 hn
  show [((seqIndex? v signs.length).bind (signs.cps[·]?)).getD 0] = _
  rw [this]
  rfl
theorem cl_letter (ns : List Int) : cl (letter ns) = (lawVals ns).map sc := by
  unfold letter
  rw [em_eq, tj, join_flat, List.map_map]
  have hr := lawVals_range ns
  revert hr
  generalize lawVals ns = l
  intro hr
  induction l with
  | nil => rfl
  | cons v l ih =>
    rw [List.map_cons, List.flatten_cons, List.map_cons, ih fun u hu => hr u (.tail _ hu)]
    show cl (sgn v) ++ _ = _
    rw [cl_sgn (hr v (.head _))]
    rfl
theorem count_parts : ∀ parts : List Str, parts ≠ [] → (∀ p ∈ parts, 10 ∉ cl p) → (cl (Str.join ⟨#[10]⟩ parts)).count 10 + 1 = parts.length
  | [], h, _ => absurd rfl h
  | [x], _, h => by
    show (cl x).count 10 + 1 = 1
    rw [List.count_eq_zero.mpr (h x (.head _))]
  | x :: y :: r, _, h => by
    have ih := count_parts (y :: r) (by simp) fun p hp => h p (.tail _ hp)
    rw [join_cc, cl_app, cl_app, List.count_append, List.count_append, List.count_eq_zero.mpr (h x (.head _))]
    have e : cl (⟨#[10]⟩ : Str) = [10] := rfl
    rw [e, List.length_cons, ← ih]
    simp
    lia
theorem count_sc : ∀ l : List Int, (∀ v ∈ l, 0 ≤ v ∧ v < 64) → (l.map sc).count 10 = l.count 63
  | [], _ => rfl
  | v :: l, h => by
    have ih := count_sc l fun u hu => h u (.tail _ hu)
    have h1 := (sc_ok (h v (.head _))).2
    rw [List.map_cons, List.count_cons, List.count_cons, ih]
    by_cases e : v = 63
    · rw [if_pos (by simp [h1.mpr e]), if_pos (by simp [e])]
    · rw [if_neg (by simp; exact fun q => e (h1.mp q)), if_neg (by simp [e])]
theorem vstep_count : ∀ (l a : List Int), 1 ≤ a.count 63 → a.count 63 ≤ 3 → 1 ≤ (l.foldl vstep a).count 63 ∧ (l.foldl vstep a).count 63 ≤ 3
  | [], a, h1, h2 => ⟨h1, h2⟩
  | x :: l, a, h1, h2 => by
    rw [List.foldl_cons]
    refine vstep_count l (vstep a x) ?_ ?_
    · unfold vstep; rw [List.count_append]; lia
    · unfold vstep
      rw [List.count_append, List.count_singleton]
      by_cases h : pick x = 63 ∧ a.count 63 = 3
      · rw [if_pos h]
        simp
        lia
      · rw [if_neg h]
        by_cases hp : pick x = 63
        · have : a.count 63 ≠ 3 := fun e => h ⟨hp, e⟩
          rw [hp]; simp; lia
        · rw [if_neg (by simp [hp])]; lia
theorem vals_count (ns : List Int) : 1 ≤ (lawVals ns).count 63 ∧ (lawVals ns).count 63 ≤ 3 := by
  unfold lawVals vals1
  have h := vstep_count (if ns.take 5 = [] then [1, 0] else ns.take 5) [62, 63] (by decide) (by decide)
  have h0 : ∀ k : Nat, (List.replicate k (0 : Int)).count 63 = 0 := fun k => List.count_eq_zero.mpr fun hm => absurd (List.mem_replicate.mp hm).2 (by decide)
  rw [List.count_append, List.count_append, h0]
  have : ([25] : List Int).count 63 = 0 := by decide
  lia
theorem pieces_len (ns : List Int) : 2 ≤ (pieces ns).length ∧ (pieces ns).length ≤ 4 := by
  unfold pieces
  rw [nl_eq]
  have h := count_parts _ (split_ne (letter ns) ⟨#[10]⟩) (split_free (letter ns) 10)
  rw [join_split, cl_letter, count_sc _ (lawVals_range ns)] at h
  have := vals_count ns
  lia
theorem piece_sg (ns : List Int) : ∀ p ∈ pieces ns, ∀ c ∈ cl p, Sg c := by
  intro p hp c hc
  unfold pieces at hp
  rw [nl_eq] at hp
  have hm : c ∈ cl (Str.join ⟨#[10]⟩ (Txt.split (letter ns) ⟨#[10]⟩)) := (mem_join _ _ _).mpr (.inl ⟨p, hp, hc⟩)
  rw [join_split, cl_letter] at hm
  obtain ⟨v, hv, rfl⟩ := List.mem_map.mp hm
  exact (sg_of (sc_ok (lawVals_range ns v hv)).1).1
theorem end_sg : ∀ (k : Nat), ∀ c ∈ cl (endTab.getD k Str.empty), Sg c
  | 0 => by
    have : cl (endTab.getD 0 Str.empty) = [13] := by show cl (Str.ofString "\x0d") = _; rw [cr_eq]
    rw [this]; intro c hc; rw [List.mem_singleton.mp hc]; unfold Sg; lia
  | 1 => by
    have : cl (endTab.getD 1 Str.empty) = [10] := by show cl (Str.ofString "\n") = _; rw [nl_eq]
    rw [this]; intro c hc; rw [List.mem_singleton.mp hc]; unfold Sg; lia
  | 2 => by
    have : cl (endTab.getD 2 Str.empty) = [13, 10] := by show cl (Str.ofString "\x0d\n") = _; rw [cn_eq]
    rw [this]; intro c hc
    simp only [List.mem_cons, List.not_mem_nil, or_false] at hc
    unfold Sg; lia
  | k + 3 => fun c hc => nomatch hc
theorem fold_sg : ∀ (l : List Str) (st : Str × Int), (∀ c ∈ cl st.1, Sg c) → (∀ p ∈ l, ∀ c ∈ cl p, Sg c) → ∀ c ∈ cl (l.foldl tstep st).1, Sg c
  | [], st, h, _ => h
  | p :: l, st, h, hl => by
    rw [List.foldl_cons]
    refine fold_sg l (tstep st p) ?_ fun q hq => hl q (.tail _ hq)
    intro c hc
    unfold tstep at hc
    dsimp only at hc
    rw [cl_app, cl_app] at hc
    rcases List.mem_append.mp hc with hc | hc
    · exact h c hc
    · rcases List.mem_append.mp hc with hc | hc
      · exact end_sg _ c hc
      · exact hl p (.head _) c hc
theorem text_ok (ns : List Int) (i : Int) : TextOk (textOf (pieces ns) i) := by
  have h4 := pieces_len ns
  have hp := piece_len ns
  have hs := piece_sg ns
  unfold textOf
  cases e : pieces ns with
  | nil => rw [e] at h4; simp at h4
  | cons p r =>
    rw [e] at h4 hp hs
    simp only [List.length_cons] at h4
    have h1 := fold_len r (p, i) fun q hq => hp q (.tail _ hq)
    refine ⟨?_, ?_⟩
    · exact fold_sg r (p, i) (hs p (.head _)) fun q hq => hs q (.tail _ hq)
    · show (r.foldl tstep (p, i)).1.length ≤ 60
      have h2 := hp p (.head _)
      dsimp only at h1
      lia
noncomputable def JF (ys : List Str) : Prop := ∀ sep : Str, sep.length ≤ 2 → (ys.map (·.length)).sum + ys.length * sep.length ≤ 16777216
theorem crunch_len : ∀ l : List Nat, (crunch l).length ≤ l.length
  | [] => Nat.le_refl _
  | [c] => Nat.le_refl _
  | c :: d :: r => by
    rw [crunch]
    have h1 := crunch_len r
    have h2 := crunch_len (d :: r)
    split
    · simp only [List.length_cons]; lia
    · simp only [List.length_cons] at h2 ⊢; lia
theorem subst1_len {c : Nat} {z : List Nat} (hz : z.length ≤ 1) : ∀ l : List Nat, (subst1 c z l).length ≤ l.length
  | [] => Nat.le_refl _
  | x :: l => by
    rw [subst1_cons, List.length_append, List.length_cons]
    have := subst1_len (c := c) hz l
    split
    · lia
    · rw [List.length_singleton]; lia
theorem nrm_len (l : List Nat) : (nrm l).length ≤ l.length := Nat.le_trans (subst1_len (by decide) _) (crunch_len l)
theorem exp_len : ∀ l : List Nat, (exp l).length ≤ 2 * l.length
  | [] => Nat.le_refl _
  | x :: l => by
    have e : exp (x :: l) = (if x = 10 then [13, 10] else [x]) ++ exp l := rfl
    have := exp_len l
    rw [e, List.length_append, List.length_cons]
    split
    · simp only [List.length_cons, List.length_nil]; lia
    · simp only [List.length_cons, List.length_nil]; lia
theorem dot_len : ∀ (b : Bool) (l : List Nat), (dot b l).length ≤ 2 * l.length
  | _, [] => Nat.le_refl _
  | b, c :: r => by
    rw [dot]
    split
    · have := dot_len false r
      simp only [List.length_cons]; lia
    · have := dot_len (c == 10) r
      simp only [List.length_cons]; lia
theorem nl_len : (Str.ofString "\n").length = 1 := by decide +kernel
/-- the rows of a text of at most 100 marks fit -/
theorem jf_rows {y : Str} (h : y.length ≤ 100) : JF ((Txt.split y (Str.ofString "\n")).map rowOf) := by
  intro sep hs
  have h1 := len_join_ge_sum (Str.ofString "\n") ((Txt.split y (Str.ofString "\n")).map rowOf)
  have h2 := cl_rows y
  have h3 : (Txt.join (Str.ofString "\n") ((Txt.split y (Str.ofString "\n")).map rowOf)).length ≤ 2 * y.length := by
    rw [← cl_len, h2, ← cl_len y]; exact dot_len _ _
  have h4 := split_le y (Str.ofString "\n")
  rw [List.length_map]
  have h5 := Nat.mul_le_mul_left (Txt.split y (Str.ofString "\n")).length hs
  lia
noncomputable def norm (t : Str) : Str := Txt.replace (Txt.replace t (Str.ofString "\x0d\n") (Str.ofString "\n")) (Str.ofString "\x0d") (Str.ofString "\n")
noncomputable def lrows (x : Str) : List Str := (Txt.split x (Str.ofString "\n")).map rowOf
noncomputable def told (x : Str) : List Int := (Txt.join (Str.ofString "\n") (lrows (norm x))).cps.toList.map fnd
/-- sizes of what is reckoned of a text -/
structure TextSz (x : Str) : Prop where
  r1 : (Txt.replace x (Str.ofString "\x0d\n") (Str.ofString "\n")).length ≤ 60
  nm : (Txt.replace (Txt.replace x (Str.ofString "\x0d\n") (Str.ofString "\n")) (Str.ofString "\x0d") (Str.ofString "\n")).length ≤ 60
  lf : (Txt.replace x (Str.ofString "\x0d") (Str.ofString "")).length ≤ 60
  jr : JF ((Txt.split (Txt.replace (Txt.replace x (Str.ofString "\x0d\n") (Str.ofString "\n")) (Str.ofString "\x0d") (Str.ofString "\n")) (Str.ofString "\n")).map rowOf)
  jl : JF ((Txt.split (Txt.replace x (Str.ofString "\x0d") (Str.ofString "") ++ Txt.mul (Str.ofString "A") ((-((Txt.replace x (Str.ofString "\x0d") (Str.ofString "")).length : Int)).fmod 4)) (Str.ofString "\n")).map rowOf)
theorem mul_cases (n : Nat) : cl (Txt.mul (Str.ofString "A") ((-(n : Int)).fmod 4)) = List.replicate ((-(n : Int)) % 4).toNat 65 := by
  rw [Int.fmod_eq_emod_of_nonneg _ (by decide)]
  have h : (-(n : Int)) % 4 = 0 ∨ (-(n : Int)) % 4 = 1 ∨ (-(n : Int)) % 4 = 2 ∨ (-(n : Int)) % 4 = 3 := by lia
  rcases h with e | e | e | e <;> rw [e] <;> decide +kernel
theorem mul_len (n : Nat) : (Txt.mul (Str.ofString "A") ((-(n : Int)).fmod 4)).length ≤ 3 := by
  rw [← cl_len, mul_cases, List.length_replicate]
  lia
theorem left_len (x : Str) : (Txt.replace x (Str.ofString "\x0d") (Str.ofString "")).length ≤ x.length := by
  rw [← cl_len, cl_left, ← cl_len x]
  exact List.length_filter_le _ _
theorem text_sz {x : Str} (h : TextOk x) : TextSz x where
  r1 := by
    rw [cn_eq, nl_eq, ← cl_len, replace_crnl]
    exact Nat.le_trans (crunch_len _) (by rw [cl_len]; exact h.len)
  nm := by
    rw [← cl_len, cl_norm]
    exact Nat.le_trans (nrm_len _) (by rw [cl_len]; exact h.len)
  lf := Nat.le_trans (left_len x) h.len
  jr := jf_rows (by
    rw [← cl_len, cl_norm]
    have := nrm_len (cl x)
    have h2 := h.len
    rw [cl_len] at this
    lia)
  jl := jf_rows (by
    rw [Str.length_append]
    have h1 := left_len x
    have h2 := h.len
    have h3 := mul_len (Txt.replace x (Str.ofString "\x0d") (Str.ofString "")).length
    lia)
/-- what is told, as marks -/
theorem cl_toldText (x : Str) : cl (Txt.join (Str.ofString "\n") (lrows (norm x))) = dot true (nrm (cl x)) := by
  unfold lrows norm
  rw [cl_rows, cl_norm]
theorem crunch_mem : ∀ (l : List Nat) (c : Nat), c ∈ crunch l → c ∈ l
  | [], c, h => h
  | [d], c, h => h
  | d :: e :: r, c, h => by
    rw [crunch] at h
    split at h
    · rename_i hq
      rcases List.mem_cons.mp h with h | h
      · rw [h, ← hq.2]; exact .tail _ (.head _)
      · exact .tail _ (.tail _ (crunch_mem r c h))
    · rcases List.mem_cons.mp h with h | h
      · rw [h]; exact .head _
      · exact .tail _ (crunch_mem (e :: r) c h)
theorem nrm_ok {l : List Nat} (h : ∀ c ∈ l, Sg c) : ∀ c ∈ nrm l, okc c = true := by
  intro c hc
  unfold nrm subst1 at hc
  obtain ⟨d, hd, hc⟩ := List.mem_flatMap.mp hc
  split at hc
  · rw [List.mem_singleton.mp hc]; decide
  · rename_i hne
    rw [List.mem_singleton.mp hc]
    exact okc_of (h d (crunch_mem l d hd)) hne
theorem dot_ok : ∀ (b : Bool) (l : List Nat), (∀ c ∈ l, okc c = true) → ∀ c ∈ dot b l, okc c = true
  | _, [], h => h
  | b, d :: r, h => by
    have hr : ∀ c ∈ r, okc c = true := fun c hc => h c (.tail _ hc)
    intro c hc
    rw [dot] at hc
    split at hc
    · rcases List.mem_cons.mp hc with e | hc
      · rw [e]; decide
      · rcases List.mem_cons.mp hc with e | hc
        · rw [e]; decide
        · exact dot_ok false r hr c hc
    · rcases List.mem_cons.mp hc with e | hc
      · rw [e]; exact h d (.head _)
      · exact dot_ok _ r hr c hc
theorem told_ok {x : Str} (h : TextOk x) : ∀ c ∈ dot true (nrm (cl x)), okc c = true := dot_ok _ _ (nrm_ok h.sg)
theorem okc_ne {c : Nat} (h : okc c = true) : c ≠ 13 := (sg_of h).2
theorem filter_ok {l : List Nat} (h : ∀ c ∈ l, okc c = true) : l.filter (fun c => c != 13) = l := by
  rw [List.filter_eq_self]
  intro c hc
  simp [okc_ne (h c hc)]
theorem filter_exp : ∀ {l : List Nat}, (∀ c ∈ l, okc c = true) → (exp l).filter (fun c => c != 13) = l
  | [], _ => rfl
  | x :: l, h => by
    have e : exp (x :: l) = (if x = 10 then [13, 10] else [x]) ++ exp l := rfl
    rw [e, List.filter_append, filter_exp fun c hc => h c (.tail _ hc)]
    have hx := okc_ne (h x (.head _))
    split
    · rename_i h10
      rw [h10]; rfl
    · rw [filter_ok (l := [x]) fun c hc => by rw [List.mem_singleton.mp hc]; exact h x (.head _)]
      rfl
theorem exp_sg {l : List Nat} (h : ∀ c ∈ l, okc c = true) : ∀ c ∈ exp l, Sg c := by
  intro c hc
  unfold exp subst1 at hc
  obtain ⟨d, hd, hc⟩ := List.mem_flatMap.mp hc
  split at hc
  · simp only [List.mem_cons, List.not_mem_nil, or_false] at hc
    unfold Sg
    lia
  · rw [List.mem_singleton.mp hc]; exact (sg_of (h d hd)).1
theorem rows_len {x : Str} (h : TextOk x) : (Txt.join (Str.ofString "\n") (lrows (norm x))).length ≤ 200 := by
  rw [← cl_len, cl_toldText]
  have h1 := dot_len true (nrm (cl x))
  have h2 := nrm_len (cl x)
  have h3 := h.len
  rw [cl_len] at h2
  lia
theorem told_eq (x : Str) : told x = (dot true (nrm (cl x))).map fnd := by
  have := cl_toldText x
  unfold told
  show (cl _).map fnd = _
  rw [this]
theorem told_range {x : Str} (h : TextOk x) : ∀ v ∈ told x, 0 ≤ v ∧ v < 64 := by
  intro v hv
  rw [told_eq] at hv
  obtain ⟨c, hc, rfl⟩ := List.mem_map.mp hv
  have := fnd_ok (told_ok h c hc)
  exact ⟨this.1, this.2.1⟩
noncomputable def entOf (x : Str) : Ent where
  a := byteArr (octs (told x) (((told x).length + 3) / 4))
  b := Txt.join (Str.ofString "\x0d\n") ((Txt.split (Txt.replace (Txt.replace x (Str.ofString "\x0d\n") (Str.ofString "\n")) (Str.ofString "\x0d") (Str.ofString "\n")) (Str.ofString "\n")).map rowOf)
  c := Txt.join (Str.ofString "\x0d\n") ((Txt.split (Txt.replace x (Str.ofString "\x0d") (Str.ofString "") ++ Txt.mul (Str.ofString "A") ((-((Txt.replace x (Str.ofString "\x0d") (Str.ofString "")).length : Int)).fmod 4)) (Str.ofString "\n")).map rowOf)
  d := x
theorem qd_sz {x : Str} (h : x.length ≤ 100) : (subText find2 x crlf).length ≤ 200 ∧ (qd x).length ≤ 400 := by
  have h2 := nrm_len (cl x)
  rw [cl_len] at h2
  constructor
  · have e : crlf = Str.ofString "\x0d\n" := rfl
    rw [← cl_len, e, cl_sub2, brk_eq]
    have := exp_len (nrm (cl x))
    lia
  · rw [← cl_len, cl_qd]
    have h3 := exp_len (dot true (nrm (cl x)))
    have h4 := dot_len true (nrm (cl x))
    lia
structure DecOk (x : Str) : Prop where
  lt : ∀ c ∈ x.cps.toList, c < 128
  sz : x.length ≤ 1000000
  ne : ∀ c ∈ KBw.bInts (seen x), c ≠ 61
  q : (dec (KBw.bInts (seen x))).2.1 = 0
/-- the values of a text that is read: the returns do not count -/
noncomputable def valsOf (y : Str) : List Int := ((cl y).filter (fun c => c != 13)).map fnd
theorem valsOf_range {y : Str} (h : ∀ c ∈ cl y, Sg c) : ∀ v ∈ valsOf y, 0 ≤ v ∧ v < 64 := by
  intro v hv
  obtain ⟨c, hc, rfl⟩ := List.mem_map.mp hv
  obtain ⟨h1, h2⟩ := List.mem_filter.mp hc
  have := fnd_ok (okc_of (h c h1) (by simpa using h2))
  exact ⟨this.1, this.2.1⟩
theorem dec_of {y : Str} (h : ∀ c ∈ cl y, Sg c) {m : Nat} (hm : (valsOf y).length = 4 * m) : dec (KBw.bInts (seen y)) = (oct4 (valsOf y) m, 0, 0) := by
  rw [seen_ints fun c hc => sg_lt (h c hc)]
  unfold dec
  rw [dec_vals _ _ h]
  exact vfold m _ hm (valsOf_range h)
theorem decOk_of {y : Str} (h : ∀ c ∈ cl y, Sg c) (hl : y.length ≤ 1000) {m : Nat} (hm : (valsOf y).length = 4 * m) : DecOk y where
  lt := fun c hc => sg_lt (h c hc)
  sz := by lia
  ne := by
    intro c hc
    rw [seen_ints fun c hc => sg_lt (h c hc)] at hc
    obtain ⟨d, hd, rfl⟩ := List.mem_map.mp hc
    have hs := h d hd
    rcases tab4 ⟨d, sg_lt hs⟩ with q | q
    · exact fun e => q (by exact_mod_cast e)
    · dsimp only at q
      unfold Sg at hs
      lia
  q := by rw [dec_of h hm]
theorem rep_A (k : Nat) : (List.replicate k 65).filter (fun c => c != 13) = List.replicate k 65 := by
  rw [List.filter_eq_self]
  intro c hc
  rw [(List.mem_replicate.mp hc).2]; rfl
theorem rep_sg (k : Nat) : ∀ c ∈ List.replicate k 65, Sg c := by
  intro c hc
  rw [(List.mem_replicate.mp hc).2]; unfold Sg; lia
theorem rep_map (k : Nat) : (List.replicate k 65).map fnd = List.replicate k 0 := by rw [List.map_replicate, fnd65]
theorem pad4 (n : Nat) : ((-(n : Int)) % 4).toNat ≤ 3 ∧ ∃ m, n + ((-(n : Int)) % 4).toNat = 4 * m := ⟨by lia, (n + 3) / 4, by lia⟩
/-- the first way: what is sent, with its noughts -/
theorem sent_sg {x : Str} (h : TextOk x) : ∀ c ∈ cl (qd x ++ Txt.mul (Str.ofString "A") ((-((told x).length : Int)).fmod 4)), Sg c := by
  intro c hc
  rw [cl_app, mul_cases, cl_qd] at hc
  rcases List.mem_append.mp hc with hc | hc
  · exact exp_sg (told_ok h) c hc
  · exact rep_sg _ c hc
theorem sent_vals {x : Str} (h : TextOk x) : valsOf (qd x ++ Txt.mul (Str.ofString "A") ((-((told x).length : Int)).fmod 4)) = told x ++ List.replicate ((-((told x).length : Int)) % 4).toNat 0 := by
  unfold valsOf
  rw [cl_app, mul_cases, cl_qd, List.filter_append, filter_exp (told_ok h), rep_A, List.map_append, rep_map, ← told_eq]
theorem left_sg {x : Str} (h : TextOk x) : ∀ c ∈ cl (x ++ Txt.mul (Str.ofString "A") ((-((Txt.replace x (Str.ofString "\x0d") (Str.ofString "")).length : Int)).fmod 4)), Sg c := by
  intro c hc
  rw [cl_app, mul_cases] at hc
  rcases List.mem_append.mp hc with hc | hc
  · exact h.sg c hc
  · exact rep_sg _ c hc
/-- the marks that are left, with their noughts -/
noncomputable def leftA (x : Str) : List Nat := cl (Txt.replace x (Str.ofString "\x0d") (Str.ofString "") ++ Txt.mul (Str.ofString "A") ((-((Txt.replace x (Str.ofString "\x0d") (Str.ofString "")).length : Int)).fmod 4))
theorem left_vals (x : Str) : valsOf (x ++ Txt.mul (Str.ofString "A") ((-((Txt.replace x (Str.ofString "\x0d") (Str.ofString "")).length : Int)).fmod 4)) = (leftA x).map fnd := by
  unfold valsOf leftA
  rw [cl_app, cl_app, mul_cases, List.filter_append, rep_A, cl_left]
theorem leftA_ok {x : Str} (h : TextOk x) : ∀ c ∈ leftA x, okc c = true := by
  intro c hc
  unfold leftA at hc
  rw [cl_app, cl_left, mul_cases] at hc
  rcases List.mem_append.mp hc with hc | hc
  · obtain ⟨a, b⟩ := List.mem_filter.mp hc
    exact okc_of (h.sg c a) (by simpa using b)
  · exact okc_of (rep_sg _ c hc) (by rw [(List.mem_replicate.mp hc).2]; decide)
theorem leftA_len (x : Str) : ∃ m, (leftA x).length = 4 * m := by
  unfold leftA
  rw [cl_app, List.length_append, mul_cases, List.length_replicate, cl_len]
  exact (pad4 _).2
theorem dec_ok1 {x : Str} (h : TextOk x) : DecOk (qd x ++ Txt.mul (Str.ofString "A") ((-((told x).length : Int)).fmod 4)) := by
  obtain ⟨_, m, hm⟩ := pad4 (told x).length
  refine decOk_of (sent_sg h) ?_ (m := m) ?_
  · rw [Str.length_append]
    have h1 := (qd_sz (x := x) (Nat.le_trans h.len (by decide))).2
    have h2 := mul_len (told x).length
    lia
  · rw [sent_vals h, List.length_append, List.length_replicate]; exact hm
theorem dec_ok2 {x : Str} (h : TextOk x) : DecOk (x ++ Txt.mul (Str.ofString "A") ((-((Txt.replace x (Str.ofString "\x0d") (Str.ofString "")).length : Int)).fmod 4)) := by
  obtain ⟨m, hm⟩ := leftA_len x
  refine decOk_of (left_sg h) ?_ (m := m) ?_
  · rw [Str.length_append]
    have h1 := h.len
    have h2 := mul_len (Txt.replace x (Str.ofString "\x0d") (Str.ofString "")).length
    lia
  · rw [left_vals, List.length_map]; exact hm
/-- the second way: what is read -/
theorem read2 {x : Str} (h : TextOk x) : ∃ m, (leftA x).length = 4 * m ∧ KBw.bInts (byteArr (dec (KBw.bInts (seen (x ++ Txt.mul (Str.ofString "A") ((-((Txt.replace x (Str.ofString "\x0d") (Str.ofString "")).length : Int)).fmod 4))))).1) = oct4 ((leftA x).map fnd) m := by
  obtain ⟨m, hm⟩ := leftA_len x
  refine ⟨m, hm, ?_⟩
  have hv : (valsOf (x ++ Txt.mul (Str.ofString "A") ((-((Txt.replace x (Str.ofString "\x0d") (Str.ofString "")).length : Int)).fmod 4))).length = 4 * m := by rw [left_vals, List.length_map]; exact hm
  rw [dec_of (left_sg h) hv]
  dsimp only
  rw [KBa.ints_make (oct4_range (valsOf_range (left_sg h)) hv), left_vals]
theorem fnd_range {x : Str} (h : TextOk x) : ∀ v ∈ (leftA x).map fnd, 0 ≤ v ∧ v < 64 := by
  intro v hv
  obtain ⟨c, hc, rfl⟩ := List.mem_map.mp hv
  have := fnd_ok (leftA_ok h c hc)
  exact ⟨this.1, this.2.1⟩
theorem enc2 {x : Str} (h : TextOk x) : (enc (KBw.bInts (byteArr (dec (KBw.bInts (seen (x ++ Txt.mul (Str.ofString "A") ((-((Txt.replace x (Str.ofString "\x0d") (Str.ofString "")).length : Int)).fmod 4))))).1))).1 = ((leftA x).map fnd).map e64 ∧
    (enc (KBw.bInts (byteArr (dec (KBw.bInts (seen (x ++ Txt.mul (Str.ofString "A") ((-((Txt.replace x (Str.ofString "\x0d") (Str.ofString "")).length : Int)).fmod 4))))).1))).2.1 = 0 := by
  obtain ⟨m, hm, e⟩ := read2 h
  obtain ⟨lc, _, e2⟩ := efold m ((leftA x).map fnd) (by rw [List.length_map]; exact hm) (fnd_range h)
  rw [e]
  unfold enc
  rw [e2]
  exact ⟨rfl, rfl⟩
structure EncOk (b : Array UInt8) : Prop where
  sz : b.size ≤ 500000
  q : (enc (KBw.bInts b)).2.1 = 0
theorem enc_ok2 {x : Str} (h : TextOk x) : EncOk (byteArr (dec (KBw.bInts (seen (x ++ Txt.mul (Str.ofString "A") ((-((Txt.replace x (Str.ofString "\x0d") (Str.ofString "")).length : Int)).fmod 4))))).1) where
  sz := by
    obtain ⟨m, hm, e⟩ := read2 h
    have h1 := congrArg List.length e
    rw [KBw.ints_length, oct4_len] at h1
    have h2 : (leftA x).length ≤ 63 := by
      unfold leftA
      rw [cl_len, Str.length_append]
      have h1 := left_len x
      have h2 := h.len
      have h3 := mul_len (Txt.replace x (Str.ofString "\x0d") (Str.ofString "")).length
      lia
    lia
  q := (enc2 h).2
noncomputable def anewOf (x : Str) : Array UInt8 := transl (mkTab #[43, 47] #[46, 10]) (byteArr (enc (KBw.bInts (byteArr (dec (KBw.bInts (seen (x ++ Txt.mul (Str.ofString "A") ((-((Txt.replace x (Str.ofString "\x0d") (Str.ofString "")).length : Int)).fmod 4))))).1))).1)
noncomputable def bchars (z : Array UInt8) : List Str := z.toList.map fun b => ⟨#[b.toNat]⟩
theorem anew_list {x : Str} (h : TextOk x) : (anewOf x).toList.map (fun b => b.toNat) = leftA x := by
  unfold anewOf transl
  rw [(enc2 h).1]
  unfold byteArr
  simp only [Array.toList_map, List.map_map]
  have : ∀ c ∈ leftA x, ((fun b : UInt8 => b.toNat) ∘ (fun c : UInt8 => (mkTab #[43, 47] #[46, 10]).getD c.toNat c) ∘ (fun n : Int => n.toNat.toUInt8) ∘ e64 ∘ fnd) c = c := by
    intro c hc
    have hk := leftA_ok h c hc
    have := tab3 ⟨c, sg_lt (sg_of hk).1⟩ hk
    dsimp only [Function.comp]
    rw [fnd_ix hk]
    exact this
  rw [List.map_congr_left this]
  exact List.map_id' _
theorem anew_eq {x : Str} (h : TextOk x) : Txt.join (Str.ofString "") (bchars (anewOf x)) = Txt.replace x (Str.ofString "\x0d") (Str.ofString "") ++ Txt.mul (Str.ofString "A") ((-((Txt.replace x (Str.ofString "\x0d") (Str.ofString "")).length : Int)).fmod 4) := by
  apply str_ext
  rw [em_eq, tj, join_flat]
  show _ = leftA x
  rw [← anew_list h]
  unfold bchars
  rw [List.map_map]
  generalize (anewOf x).toList = l
  induction l with
  | nil => rfl
  | cons b l ih => rw [List.map_cons, List.flatten_cons, ih]; rfl
theorem anew_sz {x : Str} (h : TextOk x) : (anewOf x).size ≤ 100 := by
  have h1 := congrArg List.length (anew_list h)
  rw [List.length_map, Array.length_toList] at h1
  have h2 : (leftA x).length ≤ 63 := by
    unfold leftA
    rw [cl_len, Str.length_append]
    have h1 := left_len x
    have h2 := h.len
    have h3 := mul_len (Txt.replace x (Str.ofString "\x0d") (Str.ofString "")).length
    lia
  lia
theorem nrm_free {l : List Nat} (h : ∀ c ∈ l, okc c = true) : nrm l = l := by
  have hc : ∀ (l : List Nat), (∀ c ∈ l, okc c = true) → crunch l = l := by
    intro l
    induction l with
    | nil => intro _; rfl
    | cons c r ih =>
      intro h
      cases r with
      | nil => rfl
      | cons d r =>
        rw [crunch, if_neg (fun q => okc_ne (h c (.head _)) q.1), ih fun e he => h e (.tail _ he)]
  unfold nrm
  rw [hc l h, subst1_free]
  exact fun hm => okc_ne (h 13 hm) rfl
theorem push_eq {x : Str} (h : TextOk x) : Ent.mk (byteArr (dec (KBw.bInts (seen (qd x ++ Txt.mul (Str.ofString "A") ((-((told x).length : Int)).fmod 4))))).1) (qd x) (qd (Txt.join (Str.ofString "") (bchars (anewOf x)))) x = entOf x := by
  obtain ⟨hk, m, hm⟩ := pad4 (told x).length
  have hv : (valsOf (qd x ++ Txt.mul (Str.ofString "A") ((-((told x).length : Int)).fmod 4))).length = 4 * m := by rw [sent_vals h, List.length_append, List.length_replicate]; exact hm
  unfold entOf
  rw [Ent.mk.injEq]
  refine ⟨?_, ?_, ?_, rfl⟩
  · rw [dec_of (sent_sg h) hv, sent_vals h, octs_pad _ hk hm]
  · apply str_ext
    rw [cl_qd, cl_rowsE, cl_norm]
  · apply str_ext
    rw [anew_eq h, cl_qd, cl_rowsE]
    show exp (dot true (nrm (leftA x))) = exp (dot true (leftA x))
    rw [nrm_free (leftA_ok h)]
theorem anew_len {x : Str} (h : TextOk x) : (Txt.join (Str.ofString "") (bchars (anewOf x))).length ≤ 100 := by
  rw [anew_eq h, Str.length_append]
  have h1 := (text_sz h).lf
  have h2 := mul_len (Txt.replace x (Str.ofString "\x0d") (Str.ofString "")).length
  lia
theorem bchars_sum : ∀ l : List UInt8, ((l.map fun b => (⟨#[b.toNat]⟩ : Str)).map (·.length)).sum = l.length
  | [] => rfl
  | v :: l => by
    have := bchars_sum l
    simp only [List.map_cons, List.sum_cons, List.length_cons] at this ⊢
    have e : (⟨#[v.toNat]⟩ : Str).length = 1 := rfl
    rw [e]
    lia
theorem jf_bchars {x : Str} (h : TextOk x) : JF (bchars (anewOf x)) := by
  intro sep hs
  have h1 := anew_sz h
  unfold bchars
  rw [bchars_sum, List.length_map, Array.length_toList]
  have h2 := Nat.mul_le_mul_left (anewOf x).size hs
  lia
end
section
variable {w : World} {mean : ExcName → Option Value} {mg mb : Str → Option Value} {news : List (Addr × Obj)}
theorem ConH.use {P : Heap → Prop} {w : World} {mean : ExcName → Option Value} {mg mb : Str → Option Value} {f : Addr} {vs : List Value} {kw : List (Str × Value)} {d u : Nat}
    {news : List (Addr × Obj)} {R : Value → List (Addr × Obj) → Prop} {dp un : Nat} {gd : Option (List Code)} {cn : Str} {cs : Scope} {a : Addr} {ccd : Value} {cl : List (Str × Addr)} {outer : List Env} {A₀ : Around} {base h₀ : Heap} {L : Addr}
    {m : Str → Option Value} {s : Shared} {Q E : Value → Shared → Prop} (C : ConH P w mean mg mb f vs kw d u news R) (hP : P h₀)
    (B : Below A₀ base outer h₀) (F : Fr h₀ L s.heap m) (X : (hd.heap_39 w.params).In h₀) (N : News h₀ L s.heap news) (T : Top hd.view_39 lo mean mg mb h₀) (hk : cs.kind = .function)
    (hd : dp + d < recursionLimit) (hu : un + u < cLine)
    (ret : ∀ v news' h' tk', R v news' → Fr h₀ L h' m → News h₀ L h' news' → Q v { s with heap := h', toks := tk' }) :
    wpAny (model PySem.Challenge.rw_op0032_01.row.prog w) (ktrTop dp un gd cn cs L a ccd cl outer) (call (.ref f) vs kw) Q E s :=
  C dp un gd cn cs a ccd cl outer A₀ base h₀ L m s Q E hP B F X N T hk hd hu ret
theorem frNew {h₀ h : Heap} {L : Addr} {m m' : Str → Option Value} (F : Fr h₀ L h m) (e : ∀ y, m y = m' y) : Fr h₀ L h m' := (funext e : m = m') ▸ F
theorem fits_small {i : Int} (h0 : 0 ≤ i) (h1 : i < 1000000) : fitsSsize i = true := by
  unfold fitsSsize
  simp; lia
theorem item_sgn {prog : Program} {w : World} {A : Around} {E : Value → Shared → Prop} {s : Shared} {value slice : Expr} {Q : Value → Shared → Prop} {i : Int} {t u : Tok} (h0 : 0 ≤ i) (h1 : i < 64)
    (h : Q (.str (sgn i) s.toks) { s with toks := s.toks + 1 })
    (hs : subscripted slice false (.str signs t) (.int i u) = operate [.str signs t, .int i u] (getItem (.str signs t) (.int i u)) := by with_unfolding_all rfl)
    (ht : ∀ r, letTemporaryGo value (.str signs t) r = pure () := by intro _; with_unfolding_all rfl) :
    wpAny (model prog w) A (subscriptTail value slice (.str signs t) (.int i u)) Q E s :=
  item_str (fits_small h0 (by lia)) (by lia) (by have : signs.length = 64 := (by decide +kernel); lia) (fun _ => h) hs ht
theorem newsSub {h₀ h : Heap} {L : Addr} {a b : List (Addr × Obj)} (N : News h₀ L h a) (hs : ∀ p ∈ b, p ∈ a) : News h₀ L h b := fun p hp => N p (hs p hp)
/-- two objects of a ledger, one a cell, the other none, lie apart -/
theorem cell_ne {h₀ h : Heap} {L c a : Addr} {oc oa : Obj} {news : List (Addr × Obj)} (N : News h₀ L h news) (hc : (c, oc) ∈ news) (ha : (a, oa) ∈ news) {v : Option Value} (hd : oc.data = .cell v) (hn : ∀ v, oa.data ≠ .cell v) : a ≠ c := by
  intro e
  subst e
  have h1 := (N _ hc).1
  have h2 := (N _ ha).1
  rw [h1] at h2
  injection h2 with h2
  subst h2
  exact hn _ hd
theorem seq_nocell {xs : Array Value} {n : Nat} {o : Obj} (h : o.data = .seq xs n) : ∀ v, o.data ≠ .cell v := fun v e => by rw [h] at e; cases e
theorem reorg1 {h₀ h : Heap} {L l P D V HC SC : Addr} {xs1 xs2 : Array Value} {n1 n2 : Nat} {oD oV oH oS : Obj} {v : Option Value}
    (N : News h₀ L h [(l, { cls := .type "list", data := .seq xs1 n1 }), (P, { cls := .type "list", data := .seq xs2 n2 }), (D, oD), (V, oV), (HC, oH), (SC, oS)]) (hd : oH.data = .cell v) (hne : SC ≠ HC) :
    News h₀ L h [(HC, oH), (l, W.listOf xs1 n1), (P, W.listOf xs2 n2), (SC, oS)] ∧ ∀ p ∈ [(l, W.listOf xs1 n1), (P, W.listOf xs2 n2), (SC, oS)], p.1 ≠ HC := by
  refine ⟨newsSub N (by simp [W.listOf]), ?_⟩
  have h1 : l ≠ HC := cell_ne N (by simp) (.head _) hd (seq_nocell rfl)
  have h2 : P ≠ HC := cell_ne N (by simp) (.tail _ (.head _)) hd (seq_nocell rfl)
  simp [h1, h2, hne]
theorem reorg2 {h₀ h : Heap} {L l D P HC SC : Addr} {xs1 xs2 xs3 : Array Value} {n1 n2 n3 : Nat} {oH oS : Obj}
    (N : News h₀ L h [(D, W.listOf xs3 n3), (HC, oH), (l, W.listOf xs1 n1), (P, W.listOf xs2 n2), (SC, oS)]) :
    News h₀ L h [(l, W.listOf xs1 n1), (D, W.listOf xs3 n3), (P, W.listOf xs2 n2), (SC, oS), (HC, oH)] := newsSub N (by simp)
theorem pow_fits {n : Int} (h0 : 0 ≤ n) (h : n ≤ 3) : (Builtin.Int.intBits 3 : Int) * n ≤ 2 ^ 27 := by
  have : Builtin.Int.intBits 3 = 2 := by decide +kernel
  rw [this]; lia
theorem pow_le {k : Nat} (h : k ≤ 3) : 3 ^ k ≤ 27 := by
  have : k = 0 ∨ k = 1 ∨ k = 2 ∨ k = 3 := by lia
  rcases this with e | e | e | e <;> subst e <;> decide
theorem pow_ge {k : Nat} (h : 1 ≤ k) : 2 ≤ 3 ^ k := by
  have := Nat.pow_le_pow_right (show 0 < 3 by decide) h
  lia
theorem range1_size (n : Nat) : Builtin.Range.rangeSize 0 (n : Int) 1 = (n : Int) := by
  unfold Builtin.Range.rangeSize
  rw [if_pos (by decide)]
  split <;> lia
theorem range1_small {n : Nat} (h : n ≤ 27) : Builtin.Range.small 0 (n : Int) 1 = true := by
  unfold Builtin.Range.small
  rw [range1_size]
  unfold Builtin.Range.rangeFitsLong
  rw [if_pos (show (1 : Int) > 0 by decide)]
  simp only [Bool.and_eq_true, Bool.or_eq_true, decide_eq_true_eq, beq_iff_eq]
  lia
theorem mlen {prog : Program} {w : World} {A : Around} {E : Value → Shared → Prop} {s : Shared} {h₀ : Heap} {L D : Addr} {news : List (Addr × Obj)} {vs : List Value} {n : Nat} {Q : Value → Shared → Prop} (N : News h₀ L s.heap news) (hm : (D, W.listOf vs.toArray n) ∈ news) (hsz : vs.length ≤ 100000) (h : ∀ t k, Q (.int (vs.length : Int) t) { s with toks := k }) :
    wpAny (model prog w) A (call (.builtin "len") [.ref D]) Q E s :=
  kst_len N hm rfl (by lia) (h _ _)
noncomputable def TupsOk (tups : List (Addr × Obj)) : Prop := ∀ p ∈ tups, p.2.cls = .type "tuple"
noncomputable def lawDue (ps : List Str) (i : Nat) : List Ent := (List.range i).map fun (j : Nat) => entOf (textOf ps (j : Int))
noncomputable def lawHeap (ps : List Str) : Nat → List Ent
  | 0 => []
  | i + 1 => sdGo (entOf (textOf ps (i : Int))) (lawHeap ps i).length (lawHeap ps i ++ [entOf (textOf ps (i : Int))]) (lawHeap ps i).length
/-- the ledger of the main loop before turn i -/
noncomputable def LawP (ps : List Str) (HL DL PL SC HC : Addr) (oP oS oH : Obj) (i : Nat) (nx : List (Addr × Obj)) : Prop :=
  ∃ hv dv hn dn tups, nx = (HL, W.listOf hv.toArray hn) :: (DL, W.listOf dv.toArray dn) :: (PL, oP) :: (SC, oS) :: (HC, oH) :: tups ∧ TupsOk tups ∧ Ents tups hv (lawHeap ps i) ∧ Ents tups dv (lawDue ps i)
theorem lawP_zero {ps : List Str} {HL DL PL SC HC : Addr} {oP oS oH : Obj} {a b : Nat} : LawP ps HL DL PL SC HC oP oS oH 0 [(HL, W.listOf #[] a), (DL, W.listOf #[] b), (PL, oP), (SC, oS), (HC, oH)] :=
  ⟨[], [], a, b, [], rfl, fun _ h => (nomatch h), .nil, .nil⟩
theorem strs_tail {vs : List Value} {ps : List Str} (h : StrsAre vs ps) : StrsAre (slicePick vs.toArray (some 1) none none).toList (ps.drop 1) := by
  rw [kms_pick_eq]
  show StrsAre (kms_pick vs (some 1) none) _
  unfold kms_pick
  cases h with
  | nil => exact .nil
  | cons y t r =>
    have e1 : ∀ n : Nat, kms_lo (some 1) (n + 1) = 1 := by intro n; simp [kms_lo]
    have e2 : ∀ n : Nat, kms_hi none n = n := by intro n; simp [kms_hi]
    rw [List.length_cons, e1, e2, List.drop_one, List.tail_cons, List.take_of_length_le (by lia)]
    exact r
theorem strs_at {vs : List Value} {ps : List Str} (H : StrsAre vs ps) : ∀ {j : Nat} {v : Value}, vs[j]? = some v → ∃ p t, v = .str p t ∧ ps[j]? = some p := by
  induction H with
  | nil => intro j v h; simp at h
  | cons y t r ih =>
    intro j v h
    cases j with
    | zero =>
      simp only [List.getElem?_cons_zero, Option.some.injEq] at h
      exact ⟨y, t, h.symm, rfl⟩
    | succ j =>
      simp only [List.getElem?_cons_succ] at h ⊢
      exact ih h
theorem strs_unique {vs : List Value} {a b : List Str} (h : StrsAre vs a) (h' : StrsAre vs b) : a = b := by
  induction h generalizing b with
  | nil => cases h'; rfl
  | cons y t r ih => cases h' with | cons _ _ r' => rw [ih r']
theorem ledIn {a b c d e p : Addr × Obj} {l r : List (Addr × Obj)} (h : p ∈ a :: b :: c :: d :: e :: l) : p ∈ a :: b :: c :: d :: e :: (l ++ r) := List.mem_append_left (as := a :: b :: c :: d :: e :: l) r h
theorem ownIn {a b c d e p : Addr × Obj} {l r : List (Addr × Obj)} (h : p ∈ r) : p ∈ a :: b :: c :: d :: e :: (l ++ r) := List.mem_append_right (a :: b :: c :: d :: e :: l) h
theorem text_end {tx y0 : Str} {re : Int} {ps : List Str} {vs : List Value} {i : Nat} (h : (tx, re) = ((ps.drop 1).take vs.length).foldl tstep (y0, 0 + (i : Int) * 1)) (hl : vs.length = (ps.drop 1).length)
    (hy : ps[0]? = some y0) : tx = textOf ps (i : Int) := by
  rw [hl, List.take_length] at h
  have e : 0 + (i : Int) * 1 = i := by lia
  rw [e] at h
  cases ps with
  | nil => simp at hy
  | cons p r =>
    simp only [List.getElem?_cons_zero, Option.some.injEq] at hy
    subst hy
    exact congrArg Prod.fst h
theorem jf_sgn (ns : List Int) : JF ((lawVals ns).map sgn) := by
  intro sep h
  rw [sgn_sum, List.length_map]
  have := lawVals_length ns
  have h2 := Nat.mul_le_mul_left (lawVals ns).length h
  lia
theorem off1_mem {D : Addr} : ∀ {l : List (Addr × Obj)}, LCg.Off1 D l → ∀ p ∈ l, p.1 ≠ D
  | [], _, _, h => nomatch h
  | _ :: _, ⟨a, b⟩, p, h => by
    rcases List.mem_cons.mp h with e | h
    · rw [e]; exact a
    · exact off1_mem b p h
theorem told_len {x : Str} (h : TextOk x) : (told x).length ≤ 1000 := by
  unfold told
  rw [List.length_map, Array.length_toList]
  exact Nat.le_trans (rows_len h) (by decide)
/-- the lists lie above the cells -/
noncomputable def Apart (HL DL PL SC HC : Addr) : Prop := @LT.lt Nat _ PL HL ∧ @LT.lt Nat _ SC HL ∧ @LT.lt Nat _ HC HL ∧ @LT.lt Nat _ HL DL
theorem apart_of {PL HL D V HC SC DL : Addr} (la : PL < HL ∧ D < HL ∧ V < HL ∧ HC < HL ∧ SC < HL) (lb : HC < DL ∧ HL < DL ∧ PL < DL ∧ SC < DL) : Apart HL DL PL SC HC :=
  ⟨la.1, la.2.2.2.2, la.2.2.2.1, lb.2.1⟩
theorem tup_off {h₀ h : Heap} {L A : Addr} {vs : List Value} {n : Nat} {news tups : List (Addr × Obj)} (N : News h₀ L h news) (hA : (A, W.listOf vs.toArray n) ∈ news) (hs : ∀ p ∈ tups, p ∈ news) (hT : TupsOk tups) : ∀ p ∈ tups, p.1 ≠ A := by
  intro p hp e
  have h1 := (N _ hA).1
  have h2 := (N p (hs p hp)).1
  rw [e, h1] at h2
  injection h2 with h2
  have h3 := hT p hp
  rw [← h2] at h3
  exact absurd h3 (by simp [W.listOf])
/-- the ledger, the list of what is due ahead -/
theorem reorg3 {h₀ h : Heap} {L T1 X1 D X3 HL DL PL SC HC I : Addr} {oT o1 o2 o3 oHl oP oS oHc oI : Obj} {dv : List Value} {dn : Nat} {tups : List (Addr × Obj)}
    (N : News h₀ L h ((T1, oT) :: (X1, o1) :: (D, o2) :: (X3, o3) :: (HL, oHl) :: (DL, W.listOf dv.toArray dn) :: (PL, oP) :: (SC, oS) :: (HC, oHc) :: (tups ++ [(I, oI)])))
    (hap : Apart HL DL PL SC HC) (hT : TupsOk tups) (off : OwnOff [(I, oI)] (((HL, oHl) :: (DL, W.listOf dv.toArray dn) :: (PL, oP) :: (SC, oS) :: (HC, oHc) :: tups).map (·.1))) (hD : DL ≠ D) (hT1 : @LT.lt Nat _ DL T1) :
    News h₀ L h ((DL, W.listOf dv.toArray dn) :: (HL, oHl) :: (PL, oP) :: (SC, oS) :: (HC, oHc) :: (D, o2) :: (T1, oT) :: (tups ++ [(I, oI)])) ∧
      ∀ p ∈ (HL, oHl) :: (PL, oP) :: (SC, oS) :: (HC, oHc) :: (D, o2) :: (T1, oT) :: (tups ++ [(I, oI)]), p.1 ≠ DL := by
  refine ⟨newsSub N ?_, ?_⟩
  · intro p hp
    simp only [List.mem_cons] at hp ⊢
    rcases hp with h | h | h | h | h | h | h | h
    · exact .inr (.inr (.inr (.inr (.inr (.inl h)))))
    · exact .inr (.inr (.inr (.inr (.inl h))))
    · exact .inr (.inr (.inr (.inr (.inr (.inr (.inl h))))))
    · exact .inr (.inr (.inr (.inr (.inr (.inr (.inr (.inl h)))))))
    · exact .inr (.inr (.inr (.inr (.inr (.inr (.inr (.inr (.inl h))))))))
    · exact .inr (.inr (.inl h))
    · exact .inl h
    · exact .inr (.inr (.inr (.inr (.inr (.inr (.inr (.inr (.inr h))))))))
  · obtain ⟨a1, a2, a3, a4⟩ := hap
    intro p hp
    simp only [List.mem_cons] at hp
    rcases hp with h | h | h | h | h | h | hp
    · rw [h]; exact (Nat.ne_of_lt a4 : HL ≠ DL)
    · rw [h]; exact Nat.ne_of_lt (Nat.lt_trans a1 a4)
    · rw [h]; exact Nat.ne_of_lt (Nat.lt_trans a2 a4)
    · rw [h]; exact Nat.ne_of_lt (Nat.lt_trans a3 a4)
    · rw [h]; exact Ne.symm hD
    · rw [h]; exact Nat.ne_of_gt hT1
    · rcases List.mem_append.mp hp with hp | hp
      · exact tup_off (vs := dv) (n := dn) N (by simp) (fun p hp => by simp [hp]) hT p hp
      · exact off p hp DL (by simp)
/-- the ledger, the heap's list ahead -/
theorem reorg4 {h₀ h : Heap} {L T1 T2 D6 D HL DL PL SC HC I : Addr} {oT1 oT2 o6 oD oDl oP oS oHc oI : Obj} {hv : List Value} {hn : Nat} {tups : List (Addr × Obj)}
    (N : News h₀ L h ((T2, oT2) :: (D6, o6) :: (DL, oDl) :: (HL, W.listOf hv.toArray hn) :: (PL, oP) :: (SC, oS) :: (HC, oHc) :: (D, oD) :: (T1, oT1) :: (tups ++ [(I, oI)])))
    (hap : Apart HL DL PL SC HC) (hT : TupsOk ((T2, oT2) :: (T1, oT1) :: tups)) (hI : I ≠ HL) :
    News h₀ L h ((HL, W.listOf hv.toArray hn) :: (DL, oDl) :: (PL, oP) :: (SC, oS) :: (HC, oHc) :: (T2, oT2) :: (T1, oT1) :: (tups ++ [(I, oI)])) ∧
      ∀ p ∈ (DL, oDl) :: (PL, oP) :: (SC, oS) :: (HC, oHc) :: (T2, oT2) :: (T1, oT1) :: (tups ++ [(I, oI)]), p.1 ≠ HL := by
  refine ⟨newsSub N ?_, ?_⟩
  · intro p hp
    simp only [List.mem_cons] at hp ⊢
    rcases hp with h | h | h | h | h | h | h | h
    · exact .inr (.inr (.inr (.inl h)))
    · exact .inr (.inr (.inl h))
    · exact .inr (.inr (.inr (.inr (.inl h))))
    · exact .inr (.inr (.inr (.inr (.inr (.inl h)))))
    · exact .inr (.inr (.inr (.inr (.inr (.inr (.inl h))))))
    · exact .inl h
    · exact .inr (.inr (.inr (.inr (.inr (.inr (.inr (.inr (.inl h))))))))
    · exact .inr (.inr (.inr (.inr (.inr (.inr (.inr (.inr (.inr h))))))))
  · obtain ⟨a1, a2, a3, a4⟩ := hap
    have ht := tup_off (A := HL) (tups := (T2, oT2) :: (T1, oT1) :: tups) (vs := hv) (n := hn) N (by simp) (fun p hp => by
      simp only [List.mem_cons] at hp ⊢
      rcases hp with h | h | h
      · exact .inl h
      · exact .inr (.inr (.inr (.inr (.inr (.inr (.inr (.inr (.inl h))))))))
      · exact .inr (.inr (.inr (.inr (.inr (.inr (.inr (.inr (.inr (List.mem_append_left _ h)))))))))) hT
    intro p hp
    simp only [List.mem_cons] at hp
    rcases hp with h | h | h | h | h | h | hp
    · rw [h]; exact (Nat.ne_of_gt a4 : DL ≠ HL)
    · rw [h]; exact Nat.ne_of_lt a1
    · rw [h]; exact Nat.ne_of_lt a2
    · rw [h]; exact Nat.ne_of_lt a3
    · exact ht p (by simp [h])
    · exact ht p (by simp [h])
    · rcases List.mem_append.mp hp with hp | hp
      · exact ht p (by simp [hp])
      · rw [List.mem_singleton.mp hp]; exact hI
theorem reorg5 {h₀ h : Heap} {L T1 T2 D6 D HL DL PL SC HC I : Addr} {oT1 oT2 o6 oD oDl oP oS oHc oI : Obj} {hv : List Value} {hn : Nat} {tups : List (Addr × Obj)}
    (N : News h₀ L h ((T2, oT2) :: (D6, o6) :: (DL, oDl) :: (HL, W.listOf hv.toArray hn) :: (PL, oP) :: (SC, oS) :: (HC, oHc) :: (D, oD) :: (T1, oT1) :: (tups ++ [(I, oI)])))
    (hap : Apart HL DL PL SC HC) (hT : TupsOk tups) (hI : I ≠ HL) (h2 : oT2.cls = .type "tuple") (h1 : oT1.cls = .type "tuple") :
    News h₀ L h ((HL, W.listOf hv.toArray hn) :: (DL, oDl) :: (PL, oP) :: (SC, oS) :: (HC, oHc) :: (T2, oT2) :: (T1, oT1) :: (tups ++ [(I, oI)])) ∧
      (∀ p ∈ (DL, oDl) :: (PL, oP) :: (SC, oS) :: (HC, oHc) :: (T2, oT2) :: (T1, oT1) :: (tups ++ [(I, oI)]), p.1 ≠ HL) ∧ TupsOk ((T2, oT2) :: (T1, oT1) :: tups) := by
  have hT' : TupsOk ((T2, oT2) :: (T1, oT1) :: tups) := by
    intro p hp
    rcases List.mem_cons.mp hp with h | hp
    · rw [h]; exact h2
    · rcases List.mem_cons.mp hp with h | hp
      · rw [h]; exact h1
      · exact hT p hp
  exact ⟨(reorg4 N hap hT' hI).1, (reorg4 N hap hT' hI).2, hT'⟩
theorem ent_in {rest : List (Addr × Obj)} {p : Addr} {e e' : Ent} {t1 t2 t3 t4 n : Nat} (h : e = e') (hm : (p, tupObj e t1 t2 t3 t4 n) ∈ rest) : EntIn rest (.ref p) e' := h ▸ ⟨p, t1, t2, t3, t4, n, rfl, hm⟩
theorem ents_tups {DL PL SC HC I : Addr} {t1 t2 : Addr × Obj} {a c : Array Value} {b d : Nat} {oS oHc oI : Obj} {tups : List (Addr × Obj)} {vs : List Value} {es : List Ent} {v v' : Option Value}
    (H : Ents ((DL, W.listOf a b) :: (PL, W.listOf c d) :: (SC, oS) :: (HC, oHc) :: t1 :: t2 :: (tups ++ [(I, oI)])) vs es) (dS : oS.data = .cell v) (dH : oHc.data = .cell v') (hI : oI.cls = .type "range_iterator") : Ents (t1 :: t2 :: tups) vs es := by
  refine ⟨H.1, fun i e hi => ?_⟩
  obtain ⟨x, hx, p, u1, u2, u3, u4, n, e1, e2⟩ := H.2 i e hi
  refine ⟨x, hx, p, u1, u2, u3, u4, n, e1, ?_⟩
  simp only [List.mem_cons, List.mem_append, List.not_mem_nil, or_false, Prod.mk.injEq] at e2 ⊢
  rcases e2 with h | h | h | h | h | h | h | h
  · have h2 := congrArg Obj.cls h.2
    simp [tupObj, W.listOf] at h2
  · have h2 := congrArg Obj.cls h.2
    simp [tupObj, W.listOf] at h2
  · have h2 := h.2
    rw [← h2] at dS
    simp [tupObj] at dS
  · have h2 := h.2
    rw [← h2] at dH
    simp [tupObj] at dH
  · exact .inl h
  · exact .inr (.inl h)
  · exact .inr (.inr h)
  · have h2 := h.2
    rw [← h2] at hI
    simp [tupObj] at hI
theorem lawHeap_len (ps : List Str) : ∀ i, (lawHeap ps i).length = i
  | 0 => rfl
  | i + 1 => by unfold lawHeap; rw [sdGo_length, List.length_append, lawHeap_len ps i]; rfl
theorem lawDue_succ (ps : List Str) (i : Nat) : lawDue ps (i + 1) = lawDue ps i ++ [entOf (textOf ps (i : Int))] := by
  unfold lawDue
  rw [List.range_succ, List.map_append]
  rfl
structure TS where
  tx : Str
  re : Int
  tt : Tok
  tr : Tok
theorem newsOff {h₀ h : Heap} {L a : Addr} {o : Obj} {news : List (Addr × Obj)} (N : News h₀ L h ((a, o) :: news)) (hd : ∀ p ∈ news, p.2 ≠ o) : ∀ p ∈ news, p.1 ≠ a := by
  intro p hp e
  have h1 := (N _ (.head _)).1
  have h2 := (N p (.tail _ hp)).1
  rw [e, h1] at h2
  injection h2 with h2
  exact hd p hp h2.symm
theorem item_ends {prog : Program} {w : World} {A : Around} {E : Value → Shared → Prop} {s : Shared} {h₀ : Heap} {L a : Addr} {news : List (Addr × Obj)} {x : Int} {u t1 t2 t3 : Tok} {n : Nat} {value slice : Expr} {Q : Value → Shared → Prop}
    (N : News h₀ L s.heap news) (hm : (a, { cls := .type "tuple", data := .seq #[.str (Str.ofString "\x0d") t1, .str (Str.ofString "\n") t2, .str (Str.ofString "\x0d\n") t3] n }) ∈ news)
    (h : ∀ t', Q (.str (endTab.getD (x.fmod 3).toNat Str.empty) t') s)
    (hs : subscripted slice false (.ref a) (.int (x.fmod 3) u) = operate [.ref a, .int (x.fmod 3) u] (getItem (.ref a) (.int (x.fmod 3) u)) := by with_unfolding_all rfl) :
    wpAny (model prog w) A (subscriptTail value slice (.ref a) (.int (x.fmod 3) u)) Q E s := by
  have h0 : 0 ≤ x.fmod 3 := Int.fmod_nonneg_of_pos _ (by decide)
  have h1 : x.fmod 3 < 3 := Int.fmod_lt_of_pos _ (by decide)
  have hi : StrsAre [Value.str (Str.ofString "\x0d") t1, Value.str (Str.ofString "\n") t2, Value.str (Str.ofString "\x0d\n") t3] endTab := .cons _ _ (.cons _ _ (.cons _ _ .nil))
  have hlt : (x.fmod 3).toNat < endTab.length := by show _ < 3; lia
  have e : endTab[(x.fmod 3).toNat]? = some (endTab.getD (x.fmod 3).toNat Str.empty) := by simp [List.getD, hlt]
  obtain ⟨t, ht⟩ := hi.at e
  exact item_tupleT (l := [Value.str (Str.ofString "\x0d") t1, Value.str (Str.ofString "\n") t2, Value.str (Str.ofString "\x0d\n") t3]) (News.isTup N hm) (by lia) (by lia) (StrLaws.seqIndex_nonneg h0 h1) ht (h t) hs
theorem own_off {h₀ h : Heap} {L HL DL PL SC HC I : Addr} {a b c d e a' b' c' d' e' oI : Obj} {t1 t2 : Addr × Obj} {tups : List (Addr × Obj)}
    (N : News h₀ L h ((HL, a) :: (DL, b) :: (PL, c) :: (SC, d) :: (HC, e) :: t2 :: t1 :: (tups ++ [(I, oI)]))) (hT : TupsOk (t2 :: t1 :: tups)) (hcI : oI.cls = .type "range_iterator")
    (off : OwnOff [(I, oI)] (((HL, a') :: (DL, b') :: (PL, c') :: (SC, d') :: (HC, e') :: tups).map (·.1))) :
    OwnOff [(I, oI)] (((HL, a) :: (DL, b) :: (PL, c) :: (SC, d) :: (HC, e) :: t2 :: t1 :: tups).map (·.1)) := by
  intro p hp q hq
  rw [List.mem_singleton.mp hp]
  have ho := off (I, oI) (List.mem_singleton.mpr rfl)
  have tn : ∀ t ∈ t2 :: t1 :: tups, I ≠ t.1 := by
    intro t ht e
    have h1 := (N t (by
      simp only [List.mem_cons] at ht ⊢
      rcases ht with h | h | h
      · exact .inr (.inr (.inr (.inr (.inr (.inl h)))))
      · exact .inr (.inr (.inr (.inr (.inr (.inr (.inl h))))))
      · exact .inr (.inr (.inr (.inr (.inr (.inr (.inr (List.mem_append_left _ h))))))))).1
    have h2 := (N (I, oI) (by simp)).1
    dsimp only at h2
    rw [← e, h2] at h1
    injection h1 with h1
    have h3 := hT t ht
    rw [← h1, hcI] at h3
    exact absurd h3 (by decide)
  simp only [List.map_cons, List.mem_cons] at hq
  rcases hq with h | h | h | h | h | h | h | h
  · rw [h]; exact ho _ (by simp)
  · rw [h]; exact ho _ (by simp)
  · rw [h]; exact ho _ (by simp)
  · rw [h]; exact ho _ (by simp)
  · rw [h]; exact ho _ (by simp)
  · rw [h]; exact tn _ (.head _)
  · rw [h]; exact tn _ (.tail _ (.head _))
  · obtain ⟨t, ht, e⟩ := List.mem_map.mp h
    rw [← e]; exact tn t (.tail _ (.tail _ ht))
theorem ledIn7 {a b c d e f g p : Addr × Obj} {l r : List (Addr × Obj)} (h : p ∈ a :: b :: c :: d :: e :: f :: g :: l) : p ∈ a :: b :: c :: d :: e :: f :: g :: (l ++ r) := List.mem_append_left (as := a :: b :: c :: d :: e :: f :: g :: l) r h
theorem ownIn7 {a b c d e f g p : Addr × Obj} {l r : List (Addr × Obj)} (h : p ∈ r) : p ∈ a :: b :: c :: d :: e :: f :: g :: (l ++ r) := List.mem_append_right (a :: b :: c :: d :: e :: f :: g :: l) h
theorem sub8 {a b c d t1 t2 : Addr × Obj} {r tups : List (Addr × Obj)} (_ : TupsOk (t2 :: t1 :: tups)) : ∀ p ∈ t2 :: t1 :: tups, p ∈ a :: b :: c :: d :: t2 :: t1 :: (tups ++ r) := by
  intro p hp
  simp only [List.mem_cons] at hp ⊢
  rcases hp with h | h | h
  · exact .inr (.inr (.inr (.inr (.inl h))))
  · exact .inr (.inr (.inr (.inr (.inr (.inl h)))))
  · exact .inr (.inr (.inr (.inr (.inr (.inr (List.mem_append_left _ h))))))
/-- n pops, plain: what came off, what is left -/
noncomputable def lawPops (l : List Ent) : Nat → List Ent × List Ent
  | 0 => ([], l)
  | n + 1 => match (lawPops l n).2.getLast? with
    | some x => ((lawPops l n).1 ++ [(popGo x (lawPops l n).2.dropLast).1], (popGo x (lawPops l n).2.dropLast).2)
    | none => lawPops l n
theorem popGo_len (x : Ent) (es : List Ent) : (popGo x es).2.length = es.length := by
  cases es with
  | nil => rfl
  | cons y l => show (suGo x (l.length + 1) (x :: l) 0).length = _; rw [suGo_length]; rfl
theorem lawPops_len (l : List Ent) : ∀ n, (lawPops l n).2.length = l.length - n
  | 0 => rfl
  | n + 1 => by
    have ih := lawPops_len l n
    unfold lawPops
    cases h : (lawPops l n).2.getLast? with
    | none =>
      have := List.getLast?_eq_none_iff.mp h
      rw [this] at ih
      show (lawPops l n).2.length = _
      rw [this]
      simp only [List.length_nil] at ih ⊢
      lia
    | some x =>
      show (popGo x (lawPops l n).2.dropLast).2.length = _
      rw [popGo_len, List.length_dropLast, ih]
      lia
theorem lawPops_step (l : List Ent) {n : Nat} (h : n < l.length) : ∃ x es, (lawPops l n).2 = es ++ [x] ∧ lawPops l (n + 1) = ((lawPops l n).1 ++ [(popGo x es).1], (popGo x es).2) := by
  have hl := lawPops_len l n
  cases e : (lawPops l n).2.getLast? with
  | none =>
    have := List.getLast?_eq_none_iff.mp e
    rw [this] at hl
    simp only [List.length_nil] at hl
    lia
  | some x =>
    refine ⟨x, (lawPops l n).2.dropLast, ?_, ?_⟩
    · obtain ⟨ys, ey⟩ := List.getLast?_eq_some_iff.mp e
      rw [ey, List.dropLast_concat]
    · show (match (lawPops l n).2.getLast? with | some x => _ | none => _) = _
      rw [e]
/-- the ledger while the heap is emptied -/
noncomputable def PopP (l : List Ent) (HL DL PL SC HC : Addr) (oD oP oS oH : Obj) (tups : List (Addr × Obj)) (i : Nat) (ys : List Value) (nw : List (Addr × Obj)) : Prop :=
  ∃ hv hn, nw = (HL, W.listOf hv.toArray hn) :: (DL, oD) :: (PL, oP) :: (SC, oS) :: (HC, oH) :: tups ∧ Ents tups hv (lawPops l i).2 ∧ Ents tups ys (lawPops l i).1
theorem reorg6 {h₀ h : Heap} {L I C D HL DL PL SC HC : Addr} {oI oC oD oDl oP oS oHc : Obj} {hv : List Value} {hn : Nat} {tups : List (Addr × Obj)}
    (N : News h₀ L h ((I, oI) :: (C, oC) :: (D, oD) :: (HL, W.listOf hv.toArray hn) :: (DL, oDl) :: (PL, oP) :: (SC, oS) :: (HC, oHc) :: tups))
    (hap : Apart HL DL PL SC HC) (hT : TupsOk tups) (off : LCg.Off3 I C D ((HL, W.listOf hv.toArray hn) :: (DL, oDl) :: (PL, oP) :: (SC, oS) :: (HC, oHc) :: tups)) :
    News h₀ L h ((HL, W.listOf hv.toArray hn) :: (I, oI) :: (C, oC) :: (D, oD) :: (DL, oDl) :: (PL, oP) :: (SC, oS) :: (HC, oHc) :: tups) ∧
      (∀ p ∈ (I, oI) :: (C, oC) :: (D, oD) :: (DL, oDl) :: (PL, oP) :: (SC, oS) :: (HC, oHc) :: tups, p.1 ≠ HL) ∧
      ∀ p ∈ tups, p ∈ (I, oI) :: (C, oC) :: (D, oD) :: (DL, oDl) :: (PL, oP) :: (SC, oS) :: (HC, oHc) :: tups := by
  refine ⟨newsSub N ?_, ?_, fun p hp => .tail _ (.tail _ (.tail _ (.tail _ (.tail _ (.tail _ (.tail _ hp))))))⟩
  · intro p hp
    simp only [List.mem_cons] at hp ⊢
    rcases hp with h | h | h | h | h
    · exact .inr (.inr (.inr (.inl h)))
    · exact .inl h
    · exact .inr (.inl h)
    · exact .inr (.inr (.inl h))
    · exact .inr (.inr (.inr (.inr h)))
  · obtain ⟨a1, a2, a3, a4⟩ := hap
    have ht := tup_off (A := HL) (tups := tups) (vs := hv) (n := hn) N (by simp) (fun p hp => .tail _ (.tail _ (.tail _ (.tail _ (.tail _ (.tail _ (.tail _ (.tail _ hp)))))))) hT
    have ho := off.mem _ (.head _)
    intro p hp
    simp only [List.mem_cons] at hp
    rcases hp with h | h | h | h | h | h | h | hp
    · rw [h]; exact Ne.symm ho.1
    · rw [h]; exact Ne.symm ho.2.1
    · rw [h]; exact Ne.symm ho.2.2
    · rw [h]; exact (Nat.ne_of_gt a4 : DL ≠ HL)
    · rw [h]; exact Nat.ne_of_lt a1
    · rw [h]; exact Nat.ne_of_lt a2
    · rw [h]; exact Nat.ne_of_lt a3
    · exact ht p hp
end
section
variable {w : World} {mean : ExcName → Option Value} {mg mb : Str → Option Value} {news : List (Addr × Obj)}
section
/-- a strict order, total -/
structure Lin {α : Type} (lt : α → α → Bool) : Prop where
  irrefl : ∀ a, lt a a = false
  trans : ∀ a b c, lt a b = true → lt b c = true → lt a c = true
  tri : ∀ a b, lt a b = false → lt b a = false → a = b
theorem Lin.sLt : Lin sLt where
  irrefl a := by unfold Mine.sLt; simp [List.lt_irrefl]
  trans a b c h1 h2 := by unfold Mine.sLt at *; simp only [decide_eq_true_eq] at *; exact List.lt_trans h1 h2
  tri a b h1 h2 := by
    unfold Mine.sLt at *
    simp only [decide_eq_false_iff_not, List.not_lt] at h1 h2
    have := List.le_antisymm h2 h1
    cases a; cases b
    simp only [Str.mk.injEq]
    exact Array.toList_inj.mp this
theorem Lin.bLt : Lin bLt where
  irrefl a := by unfold Mine.bLt; simp [List.lt_irrefl]
  trans a b c h1 h2 := by unfold Mine.bLt at *; simp only [decide_eq_true_eq] at *; exact List.lt_trans h1 h2
  tri a b h1 h2 := by
    unfold Mine.bLt at *
    simp only [decide_eq_false_iff_not, List.not_lt] at h1 h2
    exact Array.toList_inj.mp (List.le_antisymm h2 h1)
noncomputable def lex {α β : Type} [DecidableEq α] (l1 : α → α → Bool) (l2 : β → β → Bool) (x y : α × β) : Bool := if x.1 = y.1 then l2 x.2 y.2 else l1 x.1 y.1
theorem Lin.lex {α β : Type} [DecidableEq α] {l1 : α → α → Bool} {l2 : β → β → Bool} (h1 : Lin l1) (h2 : Lin l2) : Lin (Mine.lex l1 l2) where
  irrefl a := by unfold Mine.lex; rw [if_pos rfl]; exact h2.irrefl _
  trans a b c e f := by
    unfold Mine.lex at *
    by_cases hab : a.1 = b.1
    · rw [if_pos hab] at e
      by_cases hbc : b.1 = c.1
      · rw [if_pos hbc] at f
        rw [if_pos (hab.trans hbc)]
        exact h2.trans _ _ _ e f
      · rw [if_neg hbc] at f
        rw [if_neg (by rw [hab]; exact hbc), hab]
        exact f
    · rw [if_neg hab] at e
      by_cases hbc : b.1 = c.1
      · rw [if_neg (by rw [← hbc]; exact hab), ← hbc]
        exact e
      · rw [if_neg hbc] at f
        have := h1.trans _ _ _ e f
        by_cases hac : a.1 = c.1
        · rw [hac, h1.irrefl] at this; cases this
        · rw [if_neg hac]; exact this
  tri a b e f := by
    unfold Mine.lex at *
    by_cases hab : a.1 = b.1
    · rw [if_pos hab] at e
      rw [if_pos hab.symm] at f
      exact Prod.ext hab (h2.tri _ _ e f)
    · rw [if_neg hab] at e
      rw [if_neg (Ne.symm hab)] at f
      exact absurd (h1.tri _ _ e f) hab
theorem Ent.lt_eq (e f : Ent) : e.lt f = lex bLt (lex sLt (lex sLt sLt)) (e.a, e.b, e.c, e.d) (f.a, f.b, f.c, f.d) := by
  unfold Ent.lt lex
  dsimp only
  by_cases h1 : e.a = f.a
  · rw [if_pos h1, if_pos h1]
    by_cases h2 : e.b = f.b
    · rw [if_pos h2, if_pos h2]
      by_cases h3 : e.c = f.c
      · rw [if_pos h3, if_pos h3]
        by_cases h4 : e.d = f.d
        · rw [if_pos h4, h4, Lin.sLt.irrefl]
        · rw [if_neg h4]
      · rw [if_neg h3, if_neg h3]
    · rw [if_neg h2, if_neg h2]
  · rw [if_neg h1, if_neg h1]
theorem Lin.ent : Lin Ent.lt where
  irrefl a := by rw [Ent.lt_eq]; exact (Lin.bLt.lex (Lin.sLt.lex (Lin.sLt.lex Lin.sLt))).irrefl _
  trans a b c h1 h2 := by
    rw [Ent.lt_eq] at *
    exact (Lin.bLt.lex (Lin.sLt.lex (Lin.sLt.lex Lin.sLt))).trans _ _ _ h1 h2
  tri a b h1 h2 := by
    rw [Ent.lt_eq] at *
    have := (Lin.bLt.lex (Lin.sLt.lex (Lin.sLt.lex Lin.sLt))).tri _ _ h1 h2
    cases a; cases b
    simp only [Prod.mk.injEq] at this
    obtain ⟨a1, a2, a3, a4⟩ := this
    simp only [Ent.mk.injEq]
    exact ⟨a1, a2, a3, a4⟩
noncomputable def Ent.le (e f : Ent) : Prop := f.lt e = false
theorem Ent.le_refl (e : Ent) : e.le e := Lin.ent.irrefl e
theorem Ent.le_of_lt {e f : Ent} (h : e.lt f = true) : e.le f := by
  unfold Ent.le
  cases q : f.lt e with
  | false => rfl
  | true => have := Lin.ent.trans _ _ _ h q; rw [Lin.ent.irrefl] at this; cases this
theorem Ent.le_antisymm {e f : Ent} (h1 : e.le f) (h2 : f.le e) : e = f := Lin.ent.tri _ _ h2 h1
theorem Ent.lt_or_eq {e f : Ent} (h : e.le f) : e.lt f = true ∨ e = f := by
  cases q : e.lt f with
  | true => exact .inl rfl
  | false => exact .inr (Lin.ent.tri _ _ q h)
theorem Ent.le_trans {e f g : Ent} (h1 : e.le f) (h2 : f.le g) : e.le g := by
  rcases Ent.lt_or_eq h1 with a | a
  · rcases Ent.lt_or_eq h2 with b | b
    · exact Ent.le_of_lt (Lin.ent.trans _ _ _ a b)
    · rw [← b]; exact h1
  · rw [a]; exact h2
theorem Ent.lt_of_lt_of_le {e f g : Ent} (h1 : e.lt f = true) (h2 : f.le g) : e.lt g = true := by
  rcases Ent.lt_or_eq h2 with b | b
  · exact Lin.ent.trans _ _ _ h1 b
  · rw [← b]; exact h1
theorem Ent.le_total (e f : Ent) : e.le f ∨ f.le e := by
  cases q : e.lt f with
  | true => exact .inl (Ent.le_of_lt q)
  | false => exact .inr q
end
/-- the indices, in some order -/
noncomputable def Rng (n : Nat) (p : Array Nat) : Prop := p.toList.Perm (List.range n)
theorem Rng.size {n : Nat} {p : Array Nat} (h : Rng n p) : p.size = n := by
  have := h.length_eq
  simpa using this
theorem Rng.lt {n i : Nat} {p : Array Nat} (h : Rng n p) (hi : i < n) : p.getD i 0 < n := by
  have hs := h.size
  have hi' : i < p.size := by lia
  have hm : p.getD i 0 ∈ p.toList := by
    rw [Array.getD_eq_getD_getElem?, Array.getElem?_eq_getElem hi']
    exact Array.getElem_mem_toList hi'
  exact List.mem_range.mp (h.mem_iff.mp hm)
theorem Rng.rev {n : Nat} {p : Array Nat} (h : Rng n p) (i j : Nat) : Rng n (kas_rev p i j) := (Array.perm_iff_toList_perm.mp (mirror_perm p i j ((j - i) / 2))).trans h
theorem Rng.bub {n : Nat} {p : Array Nat} (h : Rng n p) (i d : Nat) : Rng n (bubble p i d) := (Array.perm_iff_toList_perm.mp (bubble_perm p i d)).trans h
section
variable {key : Nat → Ent} {n : Nat}
noncomputable def Ky (key : Nat → Ent) (p : Array Nat) (i : Nat) : Ent := key (p.getD i 0)
theorem ky_rev {p : Array Nat} {i j : Nat} (hj : j ≤ p.size) (k : Nat) : Ky key (kas_rev p i j) k = if i ≤ k ∧ k < j then Ky key p (i + j - 1 - k) else Ky key p k := by
  unfold Ky kas_rev
  simp only [Array.getD_eq_getD_getElem?]
  rw [getElem?_mirror_all hj]
  by_cases h : i ≤ k ∧ k < j
  · rw [if_pos h, if_pos h]
  · rw [if_neg h, if_neg h]
theorem ky_bub {p : Array Nat} {src d : Nat} (hs : src < p.size) (hd : d ≤ src) (k : Nat) : Ky key (bubble p src d) k = if k = src - d then Ky key p src else if src - d < k ∧ k ≤ src then Ky key p (k - 1) else Ky key p k := by
  unfold Ky
  simp only [Array.getD_eq_getD_getElem?]
  rw [getElem?_bubble hs d hd]
  by_cases h : k = src - d
  · rw [if_pos h, if_pos h]
  · rw [if_neg h, if_neg h]
    by_cases h2 : src - d < k ∧ k ≤ src
    · rw [if_pos h2, if_pos h2]
    · rw [if_neg h2, if_neg h2]
noncomputable def Up (key : Nat → Ent) (p : Array Nat) (k : Nat) : Prop := ∀ i j, i < j → j < k → (Ky key p i).le (Ky key p j)
noncomputable def Dn (key : Nat → Ent) (p : Array Nat) (k : Nat) : Prop := ∀ i j, i < j → j < k → (Ky key p j).le (Ky key p i)
noncomputable def Tl (key : Nat → Ent) (p : Array Nat) (m q : Nat) : Prop := ∀ i, m - (q + 1) ≤ i → i < m → Ky key p i = Ky key p (m - 1)
theorem Up.le {p : Array Nat} {k i j : Nat} (h : Up key p k) (hij : i ≤ j) (hj : j < k) : (Ky key p i).le (Ky key p j) := by
  rcases Nat.lt_or_eq_of_le hij with h1 | h1
  · exact h i j h1 hj
  · rw [h1]; exact Ent.le_refl _
theorem Dn.le {p : Array Nat} {k i j : Nat} (h : Dn key p k) (hij : i ≤ j) (hj : j < k) : (Ky key p j).le (Ky key p i) := by
  rcases Nat.lt_or_eq_of_le hij with h1 | h1
  · exact h i j h1 hj
  · rw [h1]; exact Ent.le_refl _
theorem Up.succ {p : Array Nat} {m : Nat} (h : Up key p m) (h1 : 1 ≤ m) (h2 : (Ky key p (m - 1)).le (Ky key p m)) : Up key p (m + 1) := by
  intro i j hij hj
  by_cases e : j = m
  · rw [e]; exact Ent.le_trans (h.le (by lia) (by lia)) h2
  · exact h i j hij (by lia)
theorem Dn.succ {p : Array Nat} {m : Nat} (h : Dn key p m) (h1 : 1 ≤ m) (h2 : (Ky key p m).le (Ky key p (m - 1))) : Dn key p (m + 1) := by
  intro i j hij hj
  by_cases e : j = m
  · rw [e]; exact Ent.le_trans h2 (h.le (by lia) (by lia))
  · exact h i j hij (by lia)
/-- an equal block, turned: no key moves -/
theorem ky_eqrev {p : Array Nat} {m q : Nat} (hm : m ≤ p.size) (hq : q + 1 ≤ m) (h : Tl key p m q) (k : Nat) : Ky key (kas_rev p (m - (q + 1)) m) k = Ky key p k := by
  rw [ky_rev hm]
  split
  · rename_i hk
    rw [h _ (by lia) (by lia), h k hk.1 hk.2]
  · rfl
theorem up_congr {p p' : Array Nat} {m : Nat} (e : ∀ k, Ky key p' k = Ky key p k) (h : Up key p m) : Up key p' m := fun i j a b => by rw [e, e]; exact h i j a b
theorem dn_congr {p p' : Array Nat} {m : Nat} (e : ∀ k, Ky key p' k = Ky key p k) (h : Dn key p m) : Dn key p' m := fun i j a b => by rw [e, e]; exact h i j a b
variable {cmp : Nat → Nat → (Bool → Shared → Prop) → Shared → Prop} {s : Shared}
noncomputable def Ans (cmp : Nat → Nat → (Bool → Shared → Prop) → Shared → Prop) (key : Nat → Ent) (n : Nat) (s : Shared) : Prop := ∀ (i j : Nat) (C : Bool → Shared → Prop), i < n → j < n → C ((key i).lt (key j)) s → cmp i j C s
theorem asc_ {p : Array Nat} {Q : Nat → Shared → Prop} (hc : Ans cmp key n s) (hp : Rng n p) : ∀ (f m : Nat), 1 ≤ m → m + f ≤ n → Up key p m →
    (∀ m', m ≤ m' → m' ≤ m + f → Up key p m' → (m' = m + f ∨ (Ky key p m').lt (Ky key p (m' - 1)) = true) → Q m' s) → (kas_asc p f m).kasWp cmp Q s
  | 0, m, h1, h2, hu, hq => hq m (Nat.le_refl _) (Nat.le_refl _) hu (.inl rfl)
  | f + 1, m, h1, h2, hu, hq => by
    refine hc _ _ _ (hp.lt (by lia)) (hp.lt (by lia)) ?_
    cases e : (key (p.getD m 0)).lt (key (p.getD (m - 1) 0)) with
    | true => exact hq m (Nat.le_refl _) (by lia) hu (.inr e)
    | false =>
      show (kas_asc p f (m + 1)).kasWp cmp Q s
      refine asc_ hc hp f (m + 1) (by lia) (by lia) (hu.succ h1 e) fun m' a b c d => hq m' (by lia) (by lia) c ?_
      rcases d with d | d
      · exact .inl (by lia)
      · exact .inr d
theorem desc_ {Q : Array Nat × Nat × Nat → Shared → Prop} (hc : Ans cmp key n s) : ∀ (f : Nat) (p : Array Nat) (m q : Nat), Rng n p → 1 ≤ m → q + 1 ≤ m → m + f ≤ n → Dn key p m → Tl key p m q →
    (∀ p' m' q', Rng n p' → m ≤ m' → m' ≤ m + f → q' + 1 ≤ m' → Dn key p' m' → Tl key p' m' q' → Q (p', m', q') s) → (kas_desc f p m q).kasWp cmp Q s
  | 0, p, m, q, hp, h1, hq1, h2, hd, ht, hq => hq p m q hp (Nat.le_refl _) (Nat.le_refl _) hq1 hd ht
  | f + 1, p, m, q, hp, h1, hq1, h2, hd, ht, hq => by
    have hsz := hp.size
    refine hc _ _ _ (hp.lt (by lia)) (hp.lt (by lia)) ?_
    cases e : (key (p.getD m 0)).lt (key (p.getD (m - 1) 0)) with
    | true =>
      have hd2 : Dn key p (m + 1) := hd.succ h1 (Ent.le_of_lt e)
      have ht0 : ∀ p' : Array Nat, Tl key p' (m + 1) 0 := fun p' i a b => by
        have : i = m := by lia
        rw [this]; rfl
      show (if q > 0 then kas_desc f (kas_rev p (m - (q + 1)) m) (m + 1) 0 else kas_desc f p (m + 1) 0).kasWp cmp Q s
      split
      · exact desc_ hc f _ (m + 1) 0 (hp.rev _ _) (by lia) (by lia) (by lia) (dn_congr (ky_eqrev (by lia) hq1 ht) hd2) (ht0 _) fun p' m' q' a b c d => hq p' m' q' a (by lia) (by lia) d
      · exact desc_ hc f p (m + 1) 0 hp (by lia) (by lia) (by lia) hd2 (ht0 _) fun p' m' q' a b c d => hq p' m' q' a (by lia) (by lia) d
    | false =>
      refine hc _ _ _ (hp.lt (by lia)) (hp.lt (by lia)) ?_
      cases e2 : (key (p.getD (m - 1) 0)).lt (key (p.getD m 0)) with
      | true => exact hq p m q hp (Nat.le_refl _) (by lia) hq1 hd ht
      | false =>
        have heq : Ky key p m = Ky key p (m - 1) := Lin.ent.tri _ _ e e2
        show (kas_desc f p (m + 1) (q + 1)).kasWp cmp Q s
        refine desc_ hc f p (m + 1) (q + 1) hp (by lia) (by lia) (by lia) (hd.succ h1 (by rw [heq]; exact Ent.le_refl _)) ?_ fun p' m' q' a b c d => hq p' m' q' a (by lia) (by lia) d
        intro i a b
        show Ky key p i = Ky key p m
        by_cases hi : i = m
        · rw [hi]
        · rw [ht i (by lia) (by lia), heq]
theorem tail3_ {p : Array Nat} {m : Nat} {Q : Nat × Array Nat → Shared → Prop} (hc : Ans cmp key n s) (hp : Rng n p) (h1 : 1 ≤ m) (hm : m ≤ n) (hd : Dn key p m)
    (hq : ∀ m' p', Rng n p' → 1 ≤ m' → m' ≤ n → Up key p' m' → Q (m', p') s) : (kas_tail3 m n p).kasWp cmp Q s := by
  unfold kas_tail3
  rw [KasT.kasWp_bind]
  have hsz := hp.size
  refine asc_ hc (hp.rev 0 m) (n - m) m h1 (by lia) ?_ fun m' a b c _ => hq m' _ (hp.rev 0 m) (by lia) (by lia) c
  intro i j hij hj
  rw [ky_rev (by lia), ky_rev (by lia), if_pos ⟨by lia, by lia⟩, if_pos ⟨by lia, by lia⟩]
  exact hd _ _ (by lia) (by lia)
theorem descPart_ {p : Array Nat} {m : Nat} {Q : Nat × Array Nat → Shared → Prop} (hc : Ans cmp key n s) (hp : Rng n p) (hm : m + 1 ≤ n) (hd : Dn key p (m + 1))
    (hq : ∀ m' p', Rng n p' → 1 ≤ m' → m' ≤ n → Up key p' m' → Q (m', p') s) : (kas_descPart m n p).kasWp cmp Q s := by
  unfold kas_descPart
  rw [KasT.kasWp_bind]
  refine desc_ hc (n - (m + 1)) p (m + 1) 0 hp (by lia) (by lia) (by lia) hd ?_ ?_
  · intro i a b
    have : i = m := by lia
    rw [this]; rfl
  · intro p' m' q' a b c d e f
    dsimp only
    have hsz := a.size
    split
    · exact tail3_ hc (a.rev _ _) (by lia) (by lia) (dn_congr (ky_eqrev (by lia) d f) e) hq
    · exact tail3_ hc a (by lia) (by lia) e hq
theorem count_ {p : Array Nat} {Q : Nat × Array Nat → Shared → Prop} (hc : Ans cmp key n s) (hp : Rng n p) (hn : 1 ≤ n)
    (hq : ∀ m' p', Rng n p' → 1 ≤ m' → m' ≤ n → Up key p' m' → Q (m', p') s) : (kas_count n p).kasWp cmp Q s := by
  unfold kas_count
  rw [KasT.kasWp_bind]
  have hsz := hp.size
  refine asc_ hc hp (n - 1) 1 (Nat.le_refl _) (by lia) (fun i j a b => by lia) ?_
  intro m a b c d
  by_cases hmn : m = n
  · rw [if_pos (by simp [hmn])]
    exact hq m p hp a (by lia) c
  · rw [if_neg (by simp [hmn])]
    have hlt : (Ky key p m).lt (Ky key p (m - 1)) = true := by
      rcases d with d | d
      · exact absurd (by lia) hmn
      · exact d
    by_cases h1 : m > 1
    · rw [if_pos h1]
      refine hc _ _ _ (hp.lt (by lia)) (hp.lt (by lia)) ?_
      cases e : (key (p.getD 0 0)).lt (key (p.getD (m - 1) 0)) with
      | true => exact hq m p hp a (by lia) c
      | false =>
        have heq : ∀ i, i < m → Ky key p i = Ky key p (m - 1) := fun i hi => Ent.le_antisymm (c.le (by lia) (by lia)) (Ent.le_trans (show (Ky key p (m - 1)).le (Ky key p 0) from e) (c.le (by lia) hi))
        have hk : ∀ k, Ky key (kas_rev p 0 m) k = Ky key p k := by
          intro k
          rw [ky_rev (by lia)]
          split
          · rename_i hk
            rw [heq _ (by lia), heq k hk.2]
          · rfl
        refine descPart_ hc (hp.rev 0 m) (by lia) (dn_congr hk ?_) hq
        refine Dn.succ ?_ (by lia) (Ent.le_of_lt hlt)
        intro i j hij hj
        rw [heq i (by lia), heq j hj]
        exact Ent.le_refl _
    · rw [if_neg h1]
      have : m = 1 := by lia
      subst this
      exact descPart_ hc hp (by lia) (Dn.succ (fun i j a b => by lia) (by lia) (Ent.le_of_lt hlt)) hq
theorem place_ {p : Array Nat} {k : Nat} {Q : Nat → Shared → Prop} (hc : Ans cmp key n s) (hp : Rng n p) (hk : k < n) (hu : Up key p k) : ∀ (f l r : Nat), l ≤ r → r ≤ k → r - l ≤ f →
    (∀ i, i < l → (Ky key p i).le (Ky key p k)) → (∀ i, r ≤ i → i < k → (Ky key p k).lt (Ky key p i) = true) →
    (∀ l', l' ≤ k → (∀ i, i < l' → (Ky key p i).le (Ky key p k)) → (∀ i, l' ≤ i → i < k → (Ky key p k).lt (Ky key p i) = true) → Q l' s) → (kas_place p k f l r).kasWp cmp Q s
  | 0, l, r, h1, h2, h3, ha, hb, hq => by
    have : l = r := by lia
    subst this
    exact hq l h2 ha hb
  | f + 1, l, r, h1, h2, h3, ha, hb, hq => by
    unfold kas_place
    by_cases h : l ≥ r
    · rw [if_pos h]
      have : l = r := by lia
      subst this
      exact hq l h2 ha hb
    · rw [if_neg h]
      refine hc _ _ _ (hp.lt hk) (hp.lt (by lia)) ?_
      cases e : (key (p.getD k 0)).lt (key (p.getD ((l + r) / 2) 0)) with
      | true =>
        show (kas_place p k f l ((l + r) / 2)).kasWp cmp Q s
        exact place_ hc hp hk hu f l _ (by lia) (by lia) (by lia) ha (fun i a b => Ent.lt_of_lt_of_le (show (Ky key p k).lt (Ky key p ((l + r) / 2)) = true from e) (hu.le a b)) hq
      | false =>
        show (kas_place p k f ((l + r) / 2 + 1) r).kasWp cmp Q s
        exact place_ hc hp hk hu f _ r (by lia) (by lia) (by lia) (fun i a => Ent.le_trans (hu.le (show i ≤ (l + r) / 2 by lia) (by lia)) e) hb hq
theorem bin_ {Q : Array Nat → Shared → Prop} (hc : Ans cmp key n s) : ∀ (f : Nat) (p : Array Nat) (k : Nat), Rng n p → k + f = n → Up key p k →
    (∀ p', Rng n p' → Up key p' n → Q p' s) → (kas_bin f p k).kasWp cmp Q s
  | 0, p, k, hp, hk, hu, hq => by
    have : k = n := by lia
    subst this
    exact hq p hp hu
  | f + 1, p, k, hp, hk, hu, hq => by
    unfold kas_bin
    rw [KasT.kasWp_bind]
    have hsz := hp.size
    refine place_ hc hp (by lia) hu k 0 k (by lia) (Nat.le_refl _) (by lia) (fun i h => absurd h (by lia)) (fun i h1 h2 => absurd h2 (by lia)) ?_
    intro l hl ha hb
    refine bin_ hc f _ (k + 1) (hp.bub _ _) (by lia) ?_ hq
    have e : ∀ i, Ky key (bubble p k (k - l)) i = if i = l then Ky key p k else if l < i ∧ i ≤ k then Ky key p (i - 1) else Ky key p i := by
      intro i
      rw [ky_bub (by lia) (by lia)]
      have : k - (k - l) = l := by lia
      rw [this]
    intro i j hij hj
    rw [e, e]
    by_cases h1 : i = l
    · rw [if_pos h1, if_neg (by lia), if_pos ⟨by lia, by lia⟩]
      exact Ent.le_of_lt (hb _ (by lia) (by lia))
    · rw [if_neg h1]
      by_cases h2 : l < i ∧ i ≤ k
      · rw [if_pos h2, if_neg (by lia), if_pos ⟨by lia, by lia⟩]
        exact hu.le (by lia) (by lia)
      · rw [if_neg h2]
        by_cases h3 : j = l
        · rw [if_pos h3]
          exact ha i (by lia)
        · rw [if_neg h3]
          by_cases h4 : l < j ∧ j ≤ k
          · rw [if_pos h4]
            exact hu.le (by lia) (by lia)
          · rw [if_neg h4]
            exact hu.le (by lia) (by lia)
theorem sort_ {Q : Array Nat → Shared → Prop} (hc : Ans cmp key n s) (hn : 1 ≤ n) (hq : ∀ p, Rng n p → Up key p n → Q p s) : (kas_sort n).kasWp cmp Q s := by
  unfold kas_sort
  rw [KasT.kasWp_bind]
  refine count_ hc (List.Perm.refl _) hn ?_
  intro m p hp h1 h2 hu
  dsimp only
  split
  · have : max m 1 = m := by lia
    rw [this]
    exact bin_ hc _ p m hp (by lia) hu hq
  · have : m = n := by lia
    subst this
    exact hq p hp hu
end
end
section
variable {w : World} {mean : ExcName → Option Value} {mg mb : Str → Option Value} {news : List (Addr × Obj)}
section
variable {prog : Program} {w : World} {A : Around} {E : Value → Shared → Prop} {s : Shared}
theorem oneLt_bytes {b c : Array UInt8} {t u : Tok} {Q : Bool → Shared → Prop} (h : Q (bLt b c) s) : wpAny (model prog w) A (oneLt' true (.bytes b t) (.bytes c u)) Q E s := by
  rw [oneLt'_eq]
  simp only [if_true]
  refine wpAny_bind (wpAny_cRoomFor_byValue rfl ?_)
  refine wpAny_bind (wpAny_callSpecialIfBound?_slot (typeIs_bytes s b t) slot_bytes_lt (call_gives slot_bytes_lt (typeIs_bytes _ _ _) entry_bytes_lt (args_bytes_lt _ _) (gives_bytes_lt b c t u) ?_))
  exact wpAny_truthy_bool h
theorem oneLt_strR {x y : Str} {t u : Tok} {Q : Bool → Shared → Prop} (h : Q (sLt x y) s) : wpAny (model prog w) A (oneLt' false (.str x t) (.str y u)) Q E s :=
  kat_one _ _ (lt_strR (show PySem.W.BoolBack Q (.bool (sLt x y)) s from h))
/-- tuples in the sort -/
theorem kat_ent {p q : Addr} {e f : Ent} {Q : Bool → Shared → Prop} (hp : TupAt s.heap p e) (hq : TupAt s.heap q f) (h : Q (e.lt f) s) : wpAny (model prog w) A (keyLt' (tuples' true) (.ref p) (.ref q)) Q E s := by
  obtain ⟨t1, t2, t3, t4, n, h1⟩ := hp
  obtain ⟨u1, u2, u3, u4, m, h2⟩ := hq
  refine kat_lt h1 rfl h2 rfl ?_
  show KatLex prog w A true false Q [(Value.bytes e.a t1, Value.bytes f.a u1), (Value.str e.b t2, Value.str f.b u2), (Value.str e.c t3, Value.str f.c u3), (Value.str e.d t4, Value.str f.d u4)] 0 s
  have hbeq : ∀ x y : Str, (x == y) = decide (x = y) := by intro x y; by_cases h : x = y <;> simp [h]
  unfold Ent.lt at h
  refine kat_cons (eqBool_bytes ?_)
  by_cases ha : e.a = f.a
  · rw [if_pos ha] at h
    have : decide (e.a.toList = f.a.toList) = true := by rw [ha]; simp
    rw [this]
    refine kat_yes (kat_cons (eqBool_str ?_))
    rw [hbeq]
    by_cases hb : e.b = f.b
    · rw [if_pos hb] at h
      rw [decide_eq_true hb]
      refine kat_yes (kat_cons (eqBool_str ?_))
      rw [hbeq]
      by_cases hc : e.c = f.c
      · rw [if_pos hc] at h
        rw [decide_eq_true hc]
        refine kat_yes (kat_cons (eqBool_str ?_))
        rw [hbeq]
        by_cases hd : e.d = f.d
        · rw [if_pos hd] at h
          rw [decide_eq_true hd]
          exact kat_yes (kat_nil h)
        · rw [if_neg hd] at h
          rw [decide_eq_false hd]
          exact kat_no (oneLt_strR h)
      · rw [if_neg hc] at h
        rw [decide_eq_false hc]
        exact kat_no (oneLt_strR h)
    · rw [if_neg hb] at h
      rw [decide_eq_false hb]
      exact kat_no (oneLt_strR h)
  · rw [if_neg ha] at h
    have : decide (e.a.toList = f.a.toList) = false := decide_eq_false fun q => ha (Array.toList_inj.mp q)
    rw [this]
    exact kat_no (oneLt_bytes h)
end
theorem Ents.uncons {r : List (Addr × Obj)} {v : Value} {vs : List Value} {es : List Ent} (h : Ents r (v :: vs) es) : ∃ e es', es = e :: es' ∧ EntIn r v e ∧ Ents r vs es' := by
  cases es with
  | nil => have := h.1; simp at this
  | cons e es' =>
    refine ⟨e, es', rfl, ?_, ?_, fun i f hi => ?_⟩
    · obtain ⟨v', h1, h2⟩ := h.2 0 e rfl
      simp only [List.getElem?_cons_zero, Option.some.injEq] at h1
      rw [h1]; exact h2
    · have := h.1; simpa using this
    · obtain ⟨v', h1, h2⟩ := h.2 (i + 1) f (by simpa using hi)
      exact ⟨v', by simpa using h1, h2⟩
theorem katTups {h₀ h : Heap} {L : Addr} {news tups : List (Addr × Obj)} (N : News h₀ L h news) (hs : ∀ p ∈ tups, p ∈ news) : ∀ (vs : List Value) (es : List Ent), Ents tups vs es → ∃ fs, KatTups h vs fs ∧ fs.length = vs.length ∧ ∀ v ∈ fs, ∃ b t, v = Value.bytes b t
  | [], _, _ => ⟨[], .nil, rfl, fun _ h => nomatch h⟩
  | v :: vs, es, H => by
    obtain ⟨e, es', rfl, h1, h2⟩ := H.uncons
    obtain ⟨fs, k1, k2, k3⟩ := katTups N hs vs es' h2
    obtain ⟨p, t1, t2, t3, t4, n, rfl, hm⟩ := h1
    refine ⟨.bytes e.a t1 :: fs, KatTups.cons (N _ (hs _ hm)).1 rfl rfl rfl k1, by simp [k2], ?_⟩
    intro v hv
    rcases List.mem_cons.mp hv with e' | hv
    · exact ⟨_, _, e'⟩
    · exact k3 v hv
theorem Ents.len {r : List (Addr × Obj)} {vs : List Value} {es : List Ent} (h : Ents r vs es) : vs.length = es.length := h.1
theorem Ents.pick {r : List (Addr × Obj)} {vs : List Value} {es : List Ent} (h : Ents r vs es) (e0 : Ent) {n : Nat} (hn : es.length = n) : ∀ (l : List Nat), (∀ i ∈ l, i < n) → Ents r (l.map fun i => vs.getD i Value.none) (l.map fun i => es.getD i e0)
  | l, hl => by
    refine ⟨by simp, fun j e he => ?_⟩
    rw [List.getElem?_map] at he
    cases q : l[j]? with
    | none => rw [q] at he; cases he
    | some i =>
      rw [q] at he
      simp only [Option.map_some, Option.some.injEq] at he
      have hi := hl i (List.mem_of_getElem? q)
      have hes : es[i]? = some e := by
        rw [List.getElem?_eq_getElem (by lia)]
        rw [← he, List.getD_eq_getElem?_getD, List.getElem?_eq_getElem (by lia)]
        rfl
      obtain ⟨v, h1, h2⟩ := h.2 i e hes
      refine ⟨v, ?_, h2⟩
      rw [List.getElem?_map, q]
      simp only [Option.map_some, Option.some.injEq, List.getD_eq_getElem?_getD, h1, Option.getD_some]
theorem map_range_getD (es : List Ent) (e0 : Ent) : (List.range es.length).map (fun i => es.getD i e0) = es := by
  apply List.ext_getElem
  · simp
  · intro i h1 h2
    simp [List.getElem?_eq_getElem h2]
theorem law_sorted {prog : Program} {w : World} {A : Around} {E : Value → Shared → Prop} {s : Shared} {h₀ : Heap} {L DL : Addr} {m : Str → Option Value} {news tups : List (Addr × Obj)} {dv : List Value} {dn : Nat} {es : List Ent} {Q : Value → Shared → Prop}
    (F : Fr h₀ L s.heap m) (N : News h₀ L s.heap news) (hm : (DL, W.listOf dv.toArray dn) ∈ news) (hs : ∀ p ∈ tups, p ∈ news) (H : Ents tups dv es) (h2 : 2 ≤ es.length) (h64 : es.length < 64)
    (h : ∀ D h' ys n out, Fr h₀ L h' m → News h₀ L h' ((D, W.listOf ys.toArray n) :: news) → (∀ q ∈ news, q.1 < D) → Ents tups ys out → out.Perm es → out.Pairwise Ent.le → Q (.ref D) { s with heap := h' }) :
    wpAny (model prog w) A (call (.builtin "sorted") [.ref DL]) Q E s := by
  have hl := H.len
  obtain ⟨e0, he0⟩ : ∃ e0, es[0]? = some e0 := ⟨es[0]'(by lia), List.getElem?_eq_getElem (by lia)⟩
  refine kat_sorted F N (News.isList N hm) (by lia) (by lia) ?_
  intro D e1 h' F' N' hD
  have hs' : ∀ p ∈ tups, p ∈ (D, seqObj "list" #[] e1) :: news := fun p hp => .tail _ (hs p hp)
  obtain ⟨fs, k1, k2, k3⟩ := katTups N' hs' dv es H
  refine kat_kind (T := .type "bytes") k1 (by lia) (fun v hv => ?_) (by decide) ?_
  · obtain ⟨b, t, rfl⟩ := k3 v hv
    exact Looks.of_pure rfl
  have hk : (Value.type "bytes" != Value.type "tuple") = true := by decide
  rw [hk]
  have ans : Ans (kas_ask prog w A.in1.in1 (tuples' true) dv) (fun i => es.getD i e0) dv.length { s with heap := h' } := by
    intro i j C hi hj hC
    unfold kas_ask
    obtain ⟨vi, a1, a2⟩ := H.2 i (es.getD i e0) (by rw [List.getD_eq_getElem?_getD, List.getElem?_eq_getElem (by lia)]; rfl)
    obtain ⟨vj, b1, b2⟩ := H.2 j (es.getD j e0) (by rw [List.getD_eq_getElem?_getD, List.getElem?_eq_getElem (by lia)]; rfl)
    rw [List.getD_eq_getElem?_getD, List.getD_eq_getElem?_getD, a1, b1]
    obtain ⟨pi, rfl⟩ := a2.ref
    obtain ⟨pj, rfl⟩ := b2.ref
    exact kat_ent (a2.at N' hs') (b2.at N' hs') hC
  refine sort_ ans (by lia) ?_
  intro p hp hu
  refine KasFin.intro F' N' (UpdF.head fun q hq => Nat.ne_of_lt (hD q hq)) ?_
  intro h'' c F'' N''
  have hr : ∀ i ∈ p.toList, i < es.length := fun i hi => by
    have := List.mem_range.mp (hp.mem_iff.mp hi)
    lia
  refine h D h'' _ c _ F'' N'' hD (H.pick e0 rfl p.toList hr) ?_ ?_
  · have := hp.map (fun i => es.getD i e0)
    rw [hl, map_range_getD] at this
    exact this
  · rw [List.pairwise_iff_getElem]
    intro i j hi hj hij
    have hsz := hp.size
    simp only [List.length_map, Array.length_toList] at hi hj
    have := hu i j hij (by lia)
    unfold Ky at this
    simp only [List.getElem_map, Array.getElem_toList]
    rw [Array.getD_eq_getD_getElem?, Array.getD_eq_getD_getElem?, Array.getElem?_eq_getElem (by lia), Array.getElem?_eq_getElem (by lia)] at this
    exact this
/-- two lists of entries, the same ones -/
theorem law_eq {prog : Program} {w : World} {A : Around} {E : Value → Shared → Prop} {s : Shared} {h₀ : Heap} {L a b : Addr} {news tups : List (Addr × Obj)} {xs ys : List Value} {ka kb : Nat} {es : List Ent} {Q : Value → Shared → Prop}
    (N : News h₀ L s.heap news) (ha : (a, W.listOf xs.toArray ka) ∈ news) (hb : (b, W.listOf ys.toArray kb) ∈ news) (hs : ∀ p ∈ tups, p ∈ news) (Hx : Ents tups xs es) (Hy : Ents tups ys es) (hu : A.units < cLine) (hu1 : A.in1.units < cLine)
    (h : Q (.bool true) s) : wpAny (model prog w) A (compareOp .Eq (.ref a) (.ref b)) Q E s := by
  have r := PySem.SeqAt.RcAt.lists (A := A) (e := fun _ => true) (News.isList N ha) (News.isList N hb) (by simp [Hx.len, Hy.len]) hu (fun j h1 h2 => by
    intro prog w E Q hQ
    have hj : j < es.length := by have := Hx.len; simp at h1; lia
    obtain ⟨v, a1, a2⟩ := Hx.2 j _ (List.getElem?_eq_getElem hj)
    obtain ⟨u, b1, b2⟩ := Hy.2 j _ (List.getElem?_eq_getElem hj)
    have e1 : xs.toArray[j] = v := by
      rw [List.getElem?_eq_getElem (by simpa using h1)] at a1
      simpa using a1
    have e2 : ys.toArray[j] = u := by
      rw [List.getElem?_eq_getElem (by simpa using h2)] at b1
      simpa using b1
    rw [e1, e2]
    obtain ⟨p, rfl⟩ := a2.ref
    obtain ⟨q, rfl⟩ := b2.ref
    exact tup_eqBool hu1 (a2.at N hs) (b2.at N hs) (by simpa using hQ))
  refine r prog w E Q ?_
  have : (List.range xs.toArray.size).all (fun _ => true) = true := by simp
  rw [this]; exact h
end
section
variable {w : World} {mean : ExcName → Option Value} {mg mb : Str → Option Value} {news : List (Addr × Obj)}
theorem perm_swap {α : Type} [DecidableEq α] {l : List α} {i j : Nat} {x y : α} (hij : i ≠ j) (hi : i < l.length) (hy : l[j]? = some y) : ((l.set i y).set j x).Perm (l.set i x) := by
  obtain ⟨hj, ej⟩ := List.getElem?_eq_some_iff.mp hy
  rw [List.perm_iff_count]
  intro a
  have hj' : j < (l.set i y).length := by simpa using hj
  have e1 : (l.set i y)[j] = y := by rw [List.getElem_set_ne hij]; exact ej
  rw [List.count_set hj', List.count_set hi, List.count_set hi, e1]
  have hp : (if (l[i] == a) = true then 1 else 0) ≤ l.count a := by
    split
    · rename_i h
      have := eq_of_beq h
      rw [← this]
      exact List.count_pos_iff.mpr (List.getElem_mem hi)
    · exact Nat.zero_le _
  by_cases h1 : (y == a) = true <;> by_cases h2 : (x == a) = true <;> simp only [h1, h2, if_true, if_false] <;> (try simp only [Bool.false_eq_true, if_false]) <;> lia
/-- what climbs keeps the entries -/
theorem sd_perm (x : Ent) : ∀ (f : Nat) (l : List Ent) (p : Nat), p < l.length → (sdGo x f l p).Perm (l.set p x)
  | 0, l, p, hp => List.Perm.refl _
  | f + 1, l, p, hp => by
    unfold sdGo
    split
    · exact List.Perm.refl _
    · rename_i h0
      split
      · rename_i y hy
        split
        · have ih := sd_perm x f (l.set p y) ((p - 1) / 2) (by rw [List.length_set]; lia)
          exact ih.trans (perm_swap (by lia) hp hy)
        · exact List.Perm.refl _
      · exact List.Perm.refl _
theorem su_perm (x : Ent) : ∀ (f : Nat) (l : List Ent) (p : Nat), p < l.length → (suGo x f l p).Perm (l.set p x)
  | 0, l, p, hp => by
    unfold suGo
    refine (sd_perm x p _ p (by rw [List.length_set]; exact hp)).trans ?_
    rw [List.set_set]
  | f + 1, l, p, hp => by
    unfold suGo
    split
    · rename_i y z hy hz
      have h2 := (List.getElem?_eq_some_iff.mp hz).1
      split
      · exact (su_perm x f (l.set p y) (2 * p + 1) (by rw [List.length_set]; lia)).trans (perm_swap (by lia) hp hy)
      · exact (su_perm x f (l.set p z) (2 * p + 2) (by rw [List.length_set]; lia)).trans (perm_swap (by lia) hp hz)
    · rename_i y hy hz
      have h2 := (List.getElem?_eq_some_iff.mp hy).1
      exact (su_perm x f (l.set p y) (2 * p + 1) (by rw [List.length_set]; lia)).trans (perm_swap (by lia) hp hy)
    · refine (sd_perm x p _ p (by rw [List.length_set]; exact hp)).trans ?_
      rw [List.set_set]
/-- a heap but at the hole p (and its parent's side) -/
noncomputable def Pt (l : List Ent) (a b : Nat) : Prop := ∀ e f, l[a]? = some e → l[b]? = some f → e.le f
noncomputable def HpBut (l : List Ent) (p : Nat) : Prop := ∀ i, 0 < i → i ≠ p → (i - 1) / 2 ≠ p → Pt l ((i - 1) / 2) i
noncomputable def Grand (l : List Ent) (p : Nat) : Prop := 0 < p → ∀ i, 0 < i → (i - 1) / 2 = p → Pt l ((p - 1) / 2) i
noncomputable def Below_ (x : Ent) (l : List Ent) (p : Nat) : Prop := ∀ i, 0 < i → (i - 1) / 2 = p → ∀ f, l[i]? = some f → x.le f
noncomputable def Hp (l : List Ent) : Prop := ∀ i, 0 < i → Pt l ((i - 1) / 2) i
theorem get_set {l : List Ent} {p i : Nat} {x e : Ent} (h : (l.set p x)[i]? = some e) : (i = p ∧ e = x) ∨ (i ≠ p ∧ l[i]? = some e) := by
  rw [List.getElem?_set] at h
  by_cases q : p = i
  · rw [if_pos q] at h
    split at h
    · exact .inl ⟨q.symm, (Option.some.inj h).symm⟩
    · cases h
  · rw [if_neg q] at h
    exact .inr ⟨Ne.symm q, h⟩
theorem sd_end {x : Ent} {l : List Ent} {p : Nat} (h1 : HpBut l p) (h2 : Below_ x l p) (h3 : p = 0 ∨ ∀ y, l[(p - 1) / 2]? = some y → y.le x) : Hp (l.set p x) := by
  intro i hi e f he hf
  rcases get_set he with ⟨a, b⟩ | ⟨a, b⟩
  · rw [b]
    rcases get_set hf with ⟨c, d⟩ | ⟨c, d⟩
    · lia
    · exact h2 i hi a f d
  · rcases get_set hf with ⟨c, d⟩ | ⟨c, d⟩
    · rw [d]
      rcases h3 with h3 | h3
      · lia
      · rw [c] at b; exact h3 e b
    · exact h1 i hi c a e f b d
theorem sd_hp (x : Ent) : ∀ (f : Nat) (l : List Ent) (p : Nat), p ≤ f → p < l.length → HpBut l p → Grand l p → Below_ x l p → Hp (sdGo x f l p)
  | 0, l, p, hf, hp, h1, h2, h3 => sd_end h1 h3 (.inl (by lia))
  | f + 1, l, p, hf, hp, h1, h2, h3 => by
    unfold sdGo
    split
    · rename_i h0
      exact sd_end h1 h3 (.inl h0)
    · rename_i h0
      split
      · rename_i y hy
        split
        · rename_i hxy
          refine sd_hp x f (l.set p y) ((p - 1) / 2) (by lia) (by rw [List.length_set]; lia) ?_ ?_ ?_
          · intro i hi a b e g he hg
            rcases get_set he with ⟨c, d⟩ | ⟨c, d⟩
            · rcases get_set hg with ⟨c', d'⟩ | ⟨c', d'⟩
              · lia
              · rw [d]; exact h2 (by lia) i hi c y g hy d'
            · rcases get_set hg with ⟨c', d'⟩ | ⟨c', d'⟩
              · rw [c'] at b; lia
              · exact h1 i hi c' c e g d d'
          · intro hpos i hi hpar e g he hg
            have hne : ((p - 1) / 2 - 1) / 2 ≠ p := by lia
            rcases get_set he with ⟨c, d⟩ | ⟨c, d⟩
            · lia
            · have hup : e.le y := h1 ((p - 1) / 2) hpos (by lia) hne e y d hy
              rcases get_set hg with ⟨c', d'⟩ | ⟨c', d'⟩
              · rw [d']; exact hup
              · refine Ent.le_trans hup (h1 i hi c' (by lia) y g (by rw [hpar]; exact hy) d')
          · intro i hi hpar g hg
            rcases get_set hg with ⟨c', d'⟩ | ⟨c', d'⟩
            · rw [d']; exact Ent.le_of_lt hxy
            · exact Ent.le_trans (Ent.le_of_lt hxy) (h1 i hi c' (by lia) y g (by rw [hpar]; exact hy) d')
        · rename_i hxy
          refine sd_end h1 h3 (.inr fun y' hy' => ?_)
          rw [hy] at hy'
          cases hy'
          exact by
            have : x.lt y = false := by simpa using hxy
            exact this
      · rename_i hy
        refine sd_end h1 h3 (.inr fun y' hy' => ?_)
        rw [hy] at hy'; cases hy'
theorem su_leaf {x : Ent} {l : List Ent} {p : Nat} (hp : p < l.length) (h1 : HpBut l p) (hleaf : l[2 * p + 1]? = none) : Hp (sdGo x p (l.set p x) p) := by
  have hln : l.length ≤ 2 * p + 1 := List.getElem?_eq_none_iff.mp hleaf
  have nochild : ∀ i, 0 < i → (i - 1) / 2 = p → ∀ (m : List Ent), m.length = l.length → ∀ f, m[i]? = some f → False := by
    intro i hi hpar m hm f hf
    have := (List.getElem?_eq_some_iff.mp hf).1
    lia
  refine sd_hp x p (l.set p x) p (Nat.le_refl _) (by rw [List.length_set]; exact hp) ?_ ?_ ?_
  · intro i hi a b e g he hg
    rcases get_set he with ⟨c, d⟩ | ⟨c, d⟩
    · exact absurd c b
    · rcases get_set hg with ⟨c', d'⟩ | ⟨c', d'⟩
      · exact absurd c' a
      · exact h1 i hi a b e g d d'
  · intro _ i hi hpar e g he hg
    exact (nochild i hi hpar _ (List.length_set ..) g hg).elim
  · intro i hi hpar g hg
    exact (nochild i hi hpar _ (List.length_set ..) g hg).elim
theorem su_step {l : List Ent} {p c : Nat} {v : Ent} (hc : c = 2 * p + 1 ∨ c = 2 * p + 2) (hv : l[c]? = some v) (hmin : ∀ i, 0 < i → (i - 1) / 2 = p → ∀ f, l[i]? = some f → v.le f) (h1 : HpBut l p) (h2 : Grand l p) : HpBut (l.set p v) c ∧ Grand (l.set p v) c := by
  refine ⟨?_, ?_⟩
  · intro i hi a b e g he hg
    rcases get_set he with ⟨c1, d⟩ | ⟨c1, d⟩
    · rcases get_set hg with ⟨c', d'⟩ | ⟨c', d'⟩
      · lia
      · rw [d]; exact hmin i hi c1 g d'
    · rcases get_set hg with ⟨c', d'⟩ | ⟨c', d'⟩
      · rw [d']
        rw [c'] at d
        exact h2 (by lia) c (by lia) (by lia) e v d hv
      · exact h1 i hi c' c1 e g d d'
  · intro hpos i hi hpar e g he hg
    have hcp : (c - 1) / 2 = p := by lia
    rcases get_set he with ⟨c1, d⟩ | ⟨c1, d⟩
    · rcases get_set hg with ⟨c', d'⟩ | ⟨c', d'⟩
      · lia
      · rw [d]; exact h1 i hi c' (by lia) v g (by rw [hpar]; exact hv) d'
    · exact absurd hcp c1
theorem su_hp (x : Ent) : ∀ (f : Nat) (l : List Ent) (p : Nat), l.length ≤ f + p → p < l.length → HpBut l p → Grand l p → Hp (suGo x f l p)
  | 0, l, p, hf, hp, h1, h2 => by lia
  | f + 1, l, p, hf, hp, h1, h2 => by
    unfold suGo
    split
    · rename_i y z hy hz
      have hl2 := (List.getElem?_eq_some_iff.mp hz).1
      split
      · rename_i hyz
        obtain ⟨a, b⟩ := su_step (.inl rfl) hy (fun i hi hpar g hg => by
          have : i = 2 * p + 1 ∨ i = 2 * p + 2 := by lia
          rcases this with e | e
          · rw [e, hy] at hg; cases hg; exact Ent.le_refl _
          · rw [e, hz] at hg; cases hg; exact Ent.le_of_lt hyz) h1 h2
        exact su_hp x f _ _ (by rw [List.length_set]; lia) (by rw [List.length_set]; lia) a b
      · rename_i hyz
        obtain ⟨a, b⟩ := su_step (.inr rfl) hz (fun i hi hpar g hg => by
          have : i = 2 * p + 1 ∨ i = 2 * p + 2 := by lia
          rcases this with e | e
          · rw [e, hy] at hg; cases hg
            have : y.lt z = false := by simpa using hyz
            exact this
          · rw [e, hz] at hg; cases hg; exact Ent.le_refl _) h1 h2
        exact su_hp x f _ _ (by rw [List.length_set]; lia) (by rw [List.length_set]; lia) a b
    · rename_i y hy hz
      have hl1 := (List.getElem?_eq_some_iff.mp hy).1
      obtain ⟨a, b⟩ := su_step (.inl rfl) hy (fun i hi hpar g hg => by
        have : i = 2 * p + 1 ∨ i = 2 * p + 2 := by lia
        rcases this with e | e
        · rw [e, hy] at hg; cases hg; exact Ent.le_refl _
        · rw [e, hz] at hg; cases hg) h1 h2
      exact su_hp x f _ _ (by rw [List.length_set]; lia) (by rw [List.length_set]; lia) a b
    · rename_i hy
      exact su_leaf hp h1 hy
theorem push_hp {x : Ent} {l : List Ent} (h : Hp l) : Hp (sdGo x l.length (l ++ [x]) l.length) := by
  refine sd_hp x _ _ _ (Nat.le_refl _) (by simp) ?_ ?_ ?_
  · intro i hi a b e f he hf
    have h1 := (List.getElem?_eq_some_iff.mp hf).1
    simp only [List.length_append, List.length_singleton] at h1
    rw [List.getElem?_append_left (by lia)] at he hf
    exact h i hi e f he hf
  · intro _ i hi hpar e f he hf
    have h1 := (List.getElem?_eq_some_iff.mp hf).1
    simp only [List.length_append, List.length_singleton] at h1
    lia
  · intro i hi hpar f hf
    have h1 := (List.getElem?_eq_some_iff.mp hf).1
    simp only [List.length_append, List.length_singleton] at h1
    lia
theorem push_perm {x : Ent} {l : List Ent} : (sdGo x l.length (l ++ [x]) l.length).Perm (l ++ [x]) := by
  refine (sd_perm x _ _ _ (by simp)).trans ?_
  rw [List.set_append_right _ _ (Nat.le_refl _)]
  simp
theorem root_le {l : List Ent} (h : Hp l) : ∀ (i : Nat) (r e : Ent), l[0]? = some r → l[i]? = some e → r.le e := by
  intro i
  induction i using Nat.strongRecOn with
  | _ i ih =>
    intro r e hr he
    by_cases h0 : i = 0
    · subst h0; rw [hr] at he; cases he; exact Ent.le_refl _
    · have hlt := (List.getElem?_eq_some_iff.mp he).1
      obtain ⟨q, hq⟩ : ∃ q, l[(i - 1) / 2]? = some q := ⟨_, List.getElem?_eq_getElem (by lia)⟩
      exact Ent.le_trans (ih _ (by lia) r q hr hq) (h i (by lia) q e hq he)
theorem pop_ok {x : Ent} {es : List Ent} (h : Hp (es ++ [x])) : ((popGo x es).1 :: (popGo x es).2).Perm (es ++ [x]) ∧ Hp (popGo x es).2 ∧ ∀ b ∈ (popGo x es).2, (popGo x es).1.le b := by
  cases es with
  | nil => exact ⟨List.Perm.refl _, fun i hi e f he => by simp [popGo] at he, fun b hb => by simp [popGo] at hb⟩
  | cons y l =>
    have hperm : (suGo x (l.length + 1) (x :: l) 0).Perm (x :: l) := by
      have := su_perm x (l.length + 1) (x :: l) 0 (by simp)
      simpa using this
    have pull : ∀ i e, 0 < i → (x :: l)[i]? = some e → (y :: l ++ [x])[i]? = some e := by
      intro i e hi he
      obtain ⟨k, rfl⟩ : ∃ k, i = k + 1 := ⟨i - 1, by lia⟩
      have hk := (List.getElem?_eq_some_iff.mp he).1
      simp only [List.length_cons] at hk
      simp only [List.getElem?_cons_succ, List.cons_append] at he ⊢
      rw [List.getElem?_append_left (by lia)]
      exact he
    have hroot : ∀ b ∈ y :: l ++ [x], y.le b := by
      intro b hb
      obtain ⟨i, hi⟩ := List.getElem?_of_mem hb
      exact root_le h i y b rfl hi
    refine ⟨?_, ?_, ?_⟩
    · show (y :: suGo x (l.length + 1) (x :: l) 0).Perm (y :: l ++ [x])
      exact List.Perm.cons y (hperm.trans (List.perm_append_singleton x l).symm)
    · show Hp (suGo x (l.length + 1) (x :: l) 0)
      refine su_hp x _ _ _ (by simp) (by simp) ?_ ?_
      · intro i hi a b e f he hf
        exact h i hi e f (pull _ _ (by lia) he) (pull _ _ hi hf)
      · intro h0; exact absurd h0 (by decide)
    · intro b hb
      have hb' : b ∈ x :: l := hperm.mem_iff.mp hb
      refine hroot b ?_
      rcases List.mem_cons.mp hb' with e | hb'
      · rw [e]; simp
      · simp [hb']
theorem pops_inv {l : List Ent} (h : Hp l) : ∀ n, n ≤ l.length → ((lawPops l n).1 ++ (lawPops l n).2).Perm l ∧ Hp (lawPops l n).2 ∧ (lawPops l n).1.Pairwise Ent.le ∧ ∀ a ∈ (lawPops l n).1, ∀ b ∈ (lawPops l n).2, a.le b
  | 0, _ => ⟨List.Perm.refl _, h, .nil, fun a ha => nomatch ha⟩
  | n + 1, hn => by
    obtain ⟨p1, p2, p3, p4⟩ := pops_inv h n (by lia)
    obtain ⟨x, es, e1, e2⟩ := lawPops_step l (n := n) (by lia)
    rw [e1] at p1 p2 p4
    obtain ⟨q1, q2, q3⟩ := pop_ok p2
    rw [e2]
    dsimp only
    have hm : (popGo x es).1 ∈ es ++ [x] := q1.mem_iff.mp (.head _)
    have hsub : ∀ b ∈ (popGo x es).2, b ∈ es ++ [x] := fun b hb => q1.mem_iff.mp (.tail _ hb)
    refine ⟨?_, q2, ?_, ?_⟩
    · rw [List.append_assoc]
      exact (List.Perm.append_left _ q1).trans p1
    · rw [List.pairwise_append]
      refine ⟨p3, List.pairwise_singleton _ _, fun a ha b hb => ?_⟩
      rw [List.mem_singleton.mp hb]
      exact p4 a ha _ hm
    · intro a ha b hb
      rcases List.mem_append.mp ha with ha | ha
      · exact p4 a ha b (hsub b hb)
      · rw [List.mem_singleton.mp ha]; exact q3 b hb
theorem sorted_uniq : ∀ {a b : List Ent}, a.Perm b → a.Pairwise Ent.le → b.Pairwise Ent.le → a = b
  | [], b, p, _, _ => (List.Perm.nil_eq p)
  | x :: a, b, p, ha, hb => by
    cases b with
    | nil => exact absurd p.length_eq (by simp)
    | cons y b =>
      have hxy : x = y := by
        have h1 : y ∈ x :: a := p.mem_iff.mpr (.head _)
        have h2 : x ∈ y :: b := p.mem_iff.mp (.head _)
        have a1 : x.le y := by
          rcases List.mem_cons.mp h1 with e | e
          · rw [e]; exact Ent.le_refl _
          · exact (List.pairwise_cons.mp ha).1 _ e
        have a2 : y.le x := by
          rcases List.mem_cons.mp h2 with e | e
          · rw [e]; exact Ent.le_refl _
          · exact (List.pairwise_cons.mp hb).1 _ e
        exact Ent.le_antisymm a1 a2
      subst hxy
      rw [sorted_uniq (List.Perm.cons_inv p) (List.pairwise_cons.mp ha).2 (List.pairwise_cons.mp hb).2]
theorem lawHeap_ok (ps : List Str) : ∀ n, (lawHeap ps n).Perm (lawDue ps n) ∧ Hp (lawHeap ps n)
  | 0 => ⟨List.Perm.refl _, fun i hi e f he => by simp [lawHeap] at he⟩
  | n + 1 => by
    obtain ⟨h1, h2⟩ := lawHeap_ok ps n
    refine ⟨?_, push_hp h2⟩
    rw [lawDue_succ]
    exact push_perm.trans (List.Perm.append_right _ h1)
theorem heap_sorts {ps : List Str} {n : Nat} {out : List Ent} (hp : out.Perm (lawDue ps n)) (hs : out.Pairwise Ent.le) : (lawPops (lawHeap ps n) n).1 = out := by
  obtain ⟨h1, h2⟩ := lawHeap_ok ps n
  obtain ⟨p1, p2, p3, p4⟩ := pops_inv h2 n (by rw [lawHeap_len]; exact Nat.le_refl _)
  have hl := lawPops_len (lawHeap ps n) n
  rw [lawHeap_len, Nat.sub_self] at hl
  rw [List.eq_nil_of_length_eq_zero hl, List.append_nil] at p1
  exact sorted_uniq (p1.trans (h1.trans hp.symm)) p3 hs
end
section
variable {w : World} {mean : ExcName → Option Value} {mg mb : Str → Option Value} {news : List (Addr × Obj)}
theorem anew_l1 : True := by
  w_top off
  trivial
local macro_rules | `(tactic| walk_at "call type:type") => `(tactic| ((with_reducible show wpAny _ _ (call _ [Value.bytes _ _]) _ _ _); refine call_type_of (Tx := "bytes") rfl (by decide +kernel) ?_))
local macro_rules | `(tactic| walk_at "getMethod str") => `(tactic| with_reducible refine gm_encode ?_)
local macro_rules | `(tactic| walk_at "getMethod bytes") => `(tactic| with_reducible refine gm_translate ?_)
local macro_rules | `(tactic| walk_at "call builtin:str.encode") => `(tactic| (refine encode_ascii (by assumption) (by first | assumption | lia) ?_; intro t9 k9))
local macro_rules | `(tactic| walk_at "getMethod type:bytes") => `(tactic| (k_here; refine' method_type ?F ?X ?m (by decide +kernel) ?e ?h ?_; (case F => k_asm); (case X => k_asm); (case m => kernel_rfl); (case e => k_dflt k_is); (case h => k_handed)))
local macro_rules | `(tactic| walk_at "call builtin:bytes.maketrans") => `(tactic| (refine maketrans_bytes (by rfl) ?_; intro t9 k9; (try dsimp only)))
local macro_rules | `(tactic| walk_at "call builtin:bytes.translate") => `(tactic| (refine translate_bytes (mkTab_size _ _) (by assumption) ?_; intro t9 k9; (try dsimp only)))
local macro_rules | `(tactic| walk_at "mine_start") => `(tactic| ((case kA => exact rfl); (case kF => exact rfl); (case kK => assumption); (case k1 => k_asm); (case k2 => k_asm); (case k3 => k_asm); (case k4 => k_asm); (case k5 => k_asm); (case k6 => k_is); (case k7 => k_is); (case k8 => ktr_room); (case k9 => first | exact BindsTo.of_eq rfl | exact binds_K (by k_in) rfl (by k_is) rfl rfl rfl); (case c5 => decide); (case kB => exact locs rfl); (case c2 => exact rfl); (case c3 => exact rfl); (case c4 => exact rfl); k_whole))
local macro_rules | `(tactic| walk_at "mine_use") => `(tactic| ((case k1 => k_asm); (case k2 => k_asm); (case k3 => k_asm); (case k4 => k_asm); (case k5 => k_asm); (case kK => first | exact rfl | assumption); (case kd => ktr_room); (case ku => ktr_units)))
local macro_rules | `(tactic| walk_at "mine_steps") => `(tactic| repeat' (first | (k_unfold; (try dsimp only)) | ((fail_if_success (with_reducible show wpAny _ _ (pyIter _) _ _ _)); (fail_if_success (with_reducible show InvEndN _ _ _ _ _ _ _)); (fail_if_success (with_reducible show KswEnd _ _ _ _ _ _ _ _ _ _ _ _)); (fail_if_success (with_reducible show wpAny _ _ (exec (Stmt.While _ _ _ _) _) _ _ _)); first | walk1 | (dsimp only; walk1)) | fail "no step"))
local macro_rules | `(tactic| k_all) => `(tactic| assumption)
local macro_rules | `(tactic| size_fits) => `(tactic| assumption)
local macro_rules | `(tactic| walk_at "mine_same") => `(tactic| (intro z h1 h2 h3; (simp only [List.forall_mem_cons, List.not_mem_nil, false_implies, implies_true, and_true, ne_eq] at h2); (simp only [List.contains_cons, List.contains_nil, Bool.or_false, Bool.or_eq_false_iff, beq_eq_false_iff_ne, ne_eq] at h3); first | rfl | (simp [h1, h2, h3]; done) | (simp [kstB, h1, h2, h3]; done)))
local macro_rules | `(tactic| walk_at "mine_dec") => `(tactic| first | (with_reducible assumption) | ((simp only [decide_eq_true_eq, decide_eq_false_iff_not, Bool.not_eq_true, ne_eq, beq_iff_eq, beq_eq_false_iff_ne, bne_iff_ne]); lia) | lia)
local macro_rules | `(tactic| walk_at "ite") => `(tactic| (k_here; first | (refine ite_neg (by walk_at "mine_dec") ?_) | (refine ite_pos (by walk_at "mine_dec") ?_)))
local macro_rules | `(tactic| walk_at "mine_same2") => `(tactic| (intro z h2 h3; (simp only [List.forall_mem_cons, List.not_mem_nil, false_implies, implies_true, and_true, ne_eq] at h2); (simp only [List.contains_cons, List.contains_nil, Bool.or_false, Bool.or_eq_false_iff, beq_eq_false_iff_ne, ne_eq] at h3); first | rfl | (simp [h2, h3]; done) | (simp [kstB, h2, h3]; done)))
local macro_rules | `(tactic| walk_at "exec For") => `(tactic| (k_here; (with_reducible show wpAny _ _ (exec (Stmt.For (Expr.Name _ _) _ _ [] _) _) _ _ _); (rename Fr _ _ _ _ => lF'); (with_unfolding_all refine' For_invVF lF' ?k1 ?k2 ?_; (case k1 => exact rfl); (case k2 => exact rfl); k_whole)))
local macro_rules | `(tactic| walk_at "mine_to_for") => `(tactic| repeat' (first | ((fail_if_success (with_reducible show wpAny _ _ (exec (Stmt.For _ _ _ _ _) _) _ _ _)); (fail_if_success (with_reducible show wpAny _ _ (pyIter _) _ _ _)); (fail_if_success (with_reducible show wpAny _ _ (binaryOp Operator.Pow _ _) _ _ _)); first | walk1 | (dsimp only; walk1)) | fail "no step"))
local macro_rules | `(tactic| walk_at "mine_to_tup") => `(tactic| repeat' (first | ((fail_if_success (with_reducible show wpAny _ _ (subscriptTail (Expr.Tuple _ _ _) _ _ _) _ _ _)); first | walk1 | (dsimp only; walk1)) | fail "no step"))
local macro_rules | `(tactic| walk_at "mine_stepsA") => `(tactic| repeat' (first | (k_unfold; (try dsimp only)) | ((fail_if_success (with_reducible show wpAny _ _ (pyIter _) _ _ _)); (fail_if_success (with_reducible show wpAny _ _ (call (Value.builtin "list.append") _ _) _ _ _)); (fail_if_success (with_reducible show wpAny _ _ (call (Value.ref 143) _ _) _ _ _)); (fail_if_success (with_reducible show wpAny _ _ (call (Value.ref 150) _ _) _ _ _)); (fail_if_success (with_reducible show wpAny _ _ (call (Value.builtin "sorted") _ _) _ _ _)); (fail_if_success (with_reducible show wpAny _ _ (compareOp CmpOp.Eq (Value.ref _) (Value.ref _)) _ _ _)); (fail_if_success (with_reducible show wpAny _ _ (exec (Stmt.For _ _ _ _ _) _) _ _ _)); first | walk1 | (dsimp only; walk1)) | fail "no step"))
local macro_rules | `(tactic| k_qdec) => `(tactic| decide +kernel)
local macro_rules | `(tactic| walk_at "call ref") => `(tactic| (k_here; (with_reducible show wpAny _ _ (call (Value.ref 171) [Value.ref _] _) _ _ _); k_dflt (refine' ConH.use (spec_values (by assumption) (by lia)) (by assumption) ?k1 ?k2 ?k3 ?k4 ?k5 ?kK ?kd ?ku ?_; walk_at "mine_use"); intro v9 n9 h9 tk9 r9 F9 N9; obtain ⟨D9, y9, c9, e1, hn9, hi9, e2⟩ := r9; subst e1; (replace e2 := Eq.symm e2); subst e2; (try dsimp only)))
local macro_rules | `(tactic| walk_at "eval Name") => `(tactic| (k_here; (with_reducible show wpAny _ _ (eval (Expr.Name _ _) (envOfC _ _ _ _ _)) _ _ _); (with_reducible rename Fr _ _ _ _ => kF); k_dflt (first
  | (refine' nameX_K kF ?k1 ?k2 ?k3 ?_ ?k4 ?k5 ?k6; (case k4 => rfl); (case k5 => rfl); (case k6 => decide); (case k1 => k_asm); (case k2 => k_asm); (case k3 => k_is); k_whole)
  | (refine' nameX_B kF ?k1 ?k2 ?k3 ?k4 ?k5 ?_ ?k6 ?k7 ?k8; (case k6 => rfl); (case k7 => rfl); (case k8 => decide); (case k1 => k_asm); (case k2 => k_asm); (case k3 => k_is); (case k4 => boot_by_name); (case k5 => decide); k_whole))))
local macro_rules | `(tactic| walk_at "eval ListComp") => `(tactic| (k_here; k_dflt (refine lc_mine (F₀ := by k_asm) (by with_unfolding_all rfl) (by decide) (by rfl) (by decide) (by rfl) ?_)))
local macro_rules | `(tactic| walk_at "exec Assign cons ListComp") => `(tactic| (k_here; k_dflt (refine lc_assign (F₀ := by k_asm) (by rfl) (by with_unfolding_all rfl) (by with_unfolding_all rfl) (by decide) (by rfl) (by decide) (by rfl) (by rfl) (by rfl) ?_)))
local macro_rules | `(tactic| walk_at "subscriptTail Name Name str int") => `(tactic| ((with_reducible show wpAny _ _ (subscriptTail _ _ (Value.str _ _) (Value.int _ _)) _ _ _); (with_unfolding_all refine item_sgn (by assumption) (by assumption) ?_); (try dsimp only)))
local macro_rules | `(tactic| walk_at "call builtin:str.join") => `(tactic| (k_here; (with_reducible show wpAny _ _ (call (Value.builtin "str.join") [Value.str _ _, Value.ref _]) _ _ _); (refine join_list (News.isList (by k_asm) (by k_mem)) (by assumption) ((by assumption : JF _) _ (by decide +kernel)) ?_); intro t9 k9; (try dsimp only)))
local macro_rules | `(tactic| walk_at "call builtin:len") => `(tactic| (k_here; (with_reducible show wpAny _ _ (call (Value.builtin "len") [Value.ref _]) _ _ _); (refine mlen (by k_asm) (by k_mem) (by first | assumption | lia) ?_); intro t9 k9; (try dsimp only)))
local macro_rules | `(tactic| walk_at "call builtin:str.replace") => `(tactic| ((with_reducible show wpAny _ _ (call (Value.builtin "str.replace") [Value.str _ _, Value.str _ _, Value.str _ _]) _ _ _); (refine mrepl (by (try dsimp only); lia) (by (try dsimp only); lia) (by (try dsimp only); lia) (by decide +kernel) (by first | assumption | lia) (by decide +kernel) ?_); intro t9 k9 hk9; (try dsimp only at hk9 ⊢)))
local macro_rules | `(tactic| walk_at "call ref") => `(tactic| (k_here; (with_reducible show wpAny _ _ (call (Value.ref 183) [Value.str _ _] _) _ _ _); k_dflt (refine' Con.use (spec_rows _ _ (by first | assumption | lia)) ?k1 ?k2 ?k3 ?k4 ?k5 ?kK ?kd ?ku ?_; walk_at "mine_use"); intro v9 n9 h9 tk9 r9 F9 N9; obtain ⟨D9, y9, c9, e1, hn9, hi9, e2⟩ := r9; subst e1; (replace e2 := Eq.symm e2); subst e2; (try dsimp only)))
local macro_rules | `(tactic| walk_at "call ref") => `(tactic| (k_here; (with_reducible show wpAny _ _ (call (Value.ref 178) [Value.ref _] _) _ _ _); k_dflt (refine' Con.use (spec_octets (by assumption) (by assumption) (by assumption) (by assumption)) ?k1 ?k2 ?k3 ?k4 ?k5 ?kK ?kd ?ku ?_; walk_at "mine_use"); intro v9 n9 h9 tk9 r9 F9 N9; obtain ⟨⟨t9, e1⟩, e2⟩ := r9; subst e1; (replace e2 := Eq.symm e2); subst e2; (try dsimp only)))
local macro_rules | `(tactic| walk_at "call ref") => `(tactic| (k_here; (with_reducible show wpAny _ _ (call (Value.ref 55) [Value.str _ _] _) _ _ _); k_dflt (refine' Con.use (spec_quotedata _ _ (by first | assumption | lia) (by first | assumption | lia)) ?k1 ?k2 ?k3 ?k4 ?k5 ?kK ?kd ?ku ?_; walk_at "mine_use"); intro v9 n9 h9 tk9 r9 F9 N9; obtain ⟨⟨t9, e1⟩, e2⟩ := r9; subst e1; (replace e2 := Eq.symm e2); subst e2; (try dsimp only)))
local macro_rules | `(tactic| walk_at "call ref") => `(tactic| (k_here; (with_reducible show wpAny _ _ (call (Value.ref 136) [Value.str _ _, Value.bytes _ _] _) _ _ _); k_dflt (refine' Con.use (spec_b64decode _ _ _ (DecOk.lt (by assumption)) (DecOk.sz (by assumption)) (DecOk.ne (by assumption)) (DecOk.q (by assumption))) ?k1 ?k2 ?k3 ?k4 ?k5 ?kK ?kd ?ku ?_; walk_at "mine_use"); intro v9 n9 h9 tk9 r9 F9 N9; obtain ⟨⟨t9, e1⟩, e2⟩ := r9; subst e1; (replace e2 := Eq.symm e2); subst e2; (try dsimp only)))
local macro_rules | `(tactic| walk_at "call ref") => `(tactic| (k_here; (with_reducible show wpAny _ _ (call (Value.ref 128) [Value.bytes _ _, Value.bytes _ _] _) _ _ _); k_dflt (refine' Con.use (spec_b64encode _ _ _ (EncOk.sz (by assumption)) (EncOk.q (by assumption))) ?k1 ?k2 ?k3 ?k4 ?k5 ?kK ?kd ?ku ?_; walk_at "mine_use"); intro v9 n9 h9 tk9 r9 F9 N9; obtain ⟨⟨t9, e1⟩, e2⟩ := r9; subst e1; (replace e2 := Eq.symm e2); subst e2; (try dsimp only)))
theorem lawx : PySem.Challenge.rw_op0032_01.Holds := Mine.hd (by
  k_go0
  rename_i w s0 s1 mg mb G Y fa o pm doc ho hg KX X V GL T B TE TW w2 w3 M ca w5 hcd ns hs hlay0 hL hr hl2 w6 w7 S sv w8 hS ra w9 r0 hI hr2 hcond hcond2 K0 hD h1 tk1 F0 oH oS dH dS N0 X0
  have F1 := frNew (m' := fun y => if y = Str.ofString "script" then some (.ref S) else none) F0 (by
    intro y
    by_cases h : y = Str.ofString "script"
    · rw [if_pos h, h]; exact rfl
    · exact (Eq.trans rfl (if_neg h) : (if y = Str.ofString "script" then some (Value.ref S) else none) = none).trans (if_neg h).symm)
  have dH' : oH.data = .cell none := dH
  have dS' : oS.data = .cell none := dS
  have hlen : ns.length ≤ 63 := by lia
  clear F0 G Y V GL B TE TW M hs hlay0 hL hr hl2 ra r0 hr2 hcond hcond2 hD dH dS X0 w9 X hcd
  try k_fold
  walk_at "mine_steps"
  rename IntsAre _ (lawVals ns) => hi9
  rename News _ _ _ _ => N9
  rename Fr _ _ _ _ => F9
  rename List Value => y9
  have hz9 : y9.length ≤ 1000000 := by rw [hi9.length]; have := lawVals_length ns; lia
  refine src_list (by rfl) F9 N9 (.head _) hz9 ?_
  intro g
  refine rest_inv (fun i ys nw => StrsAre ys (((lawVals ns).map sgn).take i) ∧ nw = _) ?turn1 ?fin1 _ 0 [] _ (Nat.zero_add _) ⟨.nil, rfl⟩
  case turn1 =>
    intro i ys nw v I oI C oC D m₂ h tk E' hi hJ hv hC hx F N off ne
    obtain ⟨hys, e⟩ := hJ
    subst e
    obtain ⟨vi, ti, rfl, hvi⟩ : ∃ vi ti, v = .int vi ti ∧ (lawVals ns)[i]? = some vi := IntsAre.at hi9 i v hv
    obtain ⟨hv0, hv1⟩ := lawVals_range ns vi (List.mem_of_getElem? hvi)
    walk_at "mine_steps"
    refine LCg.CompEnd.intro F N _ (fun p hp => hp) off (.inr ⟨_, .head _, rfl, _, rfl⟩) ⟨?_, rfl⟩
    rw [List.take_add_one, List.getElem?_map, hvi]
    exact strsAre_snoc hys _ _
  case fin1 =>
    intro ys nw hJ
    obtain ⟨hys, e⟩ := hJ
    subst e
    rw [List.take_of_length_le (by rw [List.length_map, ← hi9.length]; exact Nat.le_refl _)] at hys
    unfold LCg.FinE
    intro D h tk F N o1
    clear F9 N9
    have hj1 : JF ((lawVals ns).map sgn) := jf_sgn ns
    have hzl : (Txt.join (Str.ofString "") ((lawVals ns).map sgn)).length ≤ 1000 := Nat.le_trans (hzl_ ns) (by decide)
    walk_at "mine_steps"
    rename News _ _ _ _ => N1
    rename Fr _ _ _ _ => F1
    obtain ⟨N2, hne2⟩ := reorg1 N1 dH' (Nat.ne_of_lt (Nat.lt_succ_self _))
    dsimp only
    refine storeX_C F1 N2 (by rfl) (UpdF.head hne2) dH' ?_
    intro h2 oH2 F2 N3 dH2
    clear F1 N1 N2
    rename (∀ a ∈ _, _ ≤ (Txt.join _ _).length) => hpl
    rename (List.map _ _ = Txt.split _ _) => hpe
    rename (List (Str × Tok)) => pls
    rename StrsAre (strValues pls) _ => hps
    rw [hpe] at hps hpl
    walk_at "mine_to_for"
    rename News _ _ _ _ => N1
    rename Fr _ _ _ _ => F1
    have N2 := reorg2 N1
    have hpl1 : (strValues pls).length = (pieces ns).length := hps.length
    have hpn := pieces_len ns
    with_unfolding_all refine' For_invVF F1 ?k1 ?k2 ?_
    case k1 => exact rfl
    case k2 => exact rfl
    walk_at "mine_to_for"
    refine pow_int (by lia) (pow_fits (by lia) (by lia)) ?_
    obtain ⟨nC, hnC, hC27, hC2⟩ : ∃ nC : Nat, (3 : Int) ^ ((↑(strValues pls).length : Int) - 1).toNat = (nC : Int) ∧ nC ≤ 27 ∧ 2 ≤ nC := ⟨3 ^ ((↑(strValues pls).length : Int) - 1).toNat, by simp, pow_le (by lia), pow_ge (by lia)⟩
    rw [hnC]
    walk_at "mine_steps"
    rename News _ _ _ _ => N3
    rename Fr _ _ _ _ => F3
    rename IsRange _ _ _ _ _ _ _ _ => hR
    rename (_ < _ ∧ _ < _ ∧ _ < _ ∧ _ < _ ∧ _ < _) => la
    rename (_ < _ ∧ _ < _ ∧ _ < _ ∧ _ < _) => lb
    have hap := apart_of la lb
    refine loop_rangeK (n := nC) [Str.ofString "text", Str.ofString "rest", Str.ofString "piece", Str.ofString "rows", Str.ofString "told", Str.ofString "left", Str.ofString "noughts", Str.ofString "sent", Str.ofString "read", Str.ofString "anew"] (LawP (pieces ns) _ _ _ _ _ _ _ _) (by rfl) hR (range1_small hC27) (range1_size nC) F3 N3 lawP_zero ?turn ?done
    case turn =>
      intro i t u nx h tk I oI hi hcI off hP F1 N1
      obtain ⟨hv, dv, hn, dn, tups, e, hT, hH, hD⟩ := hP
      subst e
      clear F3 N3 hR
      try k_fold
      dsimp only [kstB, List.cons_append] at F1 N1
      walk_at "mine_to_for"
      rename Fr _ _ _ _ => F2
      rename News _ _ _ _ => NB
      refine toksQ (n := 1) (by (try dsimp only); lia) ?_
      with_unfolding_all refine' For_invVF F2 ?k1 ?k2 ?_
      case k1 => exact rfl
      case k2 => exact rfl
      clear F1 N1
      walk_at "mine_steps"
      rename News _ _ _ _ => N2
      clear F2
      rename Fr _ _ _ _ => F2
      try k_fold
      dsimp only at N2 F2
      have hpt : StrsAre (slicePick (strValues pls).toArray (some 1) none none).toList ((pieces ns).drop 1) := strs_tail hps
      have hz2 := N2 _ (.head _)
      rename ((List.map (fun x => x.fst) pls)[Int.toNat 0]? = some _) => hy0
      rename Str => y0
      have hpe := strs_unique (strsAre_of_values pls) hps
      rw [hpe] at hy0
      have hy0m : y0 ∈ pieces ns := List.mem_of_getElem? hy0
      refine loop_list (σ := TS) (vs := (slicePick (strValues pls).toArray (some 1) none none).toList) (fun _ => _) (fun c => [(Str.ofString "text", .str c.tx c.tt), (Str.ofString "rest", .int c.re c.tr)]) [] (fun j c => (c.tx, c.re) = (((pieces ns).drop 1).take j).foldl tstep (y0, 0 + (i : Int) * 1)) ⟨y0, 0 + (i : Int) * 1, ?t0, ?t1⟩ (by rfl) ⟨_, hz2.1, rfl, _, rfl⟩ (Ne.symm hz2.2.1) (fun p hp => Nat.ne_of_lt (Nat.lt_succ_of_lt (Heap.lt_size (NB p hp).1))) F2 (newsTail N2) ?hk2 ?hp2 ?turn2 ?done2
      case hk2 => kst_all
      case hp2 => rfl
      case turn2 =>
        intro c j v u2 h tk own hvj off2 hP F3 N3
        clear F2 N2 NB
        try k_fold
        dsimp only [kstB, List.cons_append] at F3 N3
        obtain ⟨pj, tj, rfl, hpj⟩ : ∃ pj tj, v = .str pj tj ∧ ((pieces ns).drop 1)[j]? = some pj := strs_at hpt hvj
        have hj4 : j < 4 := by
          have h1 := (List.getElem?_eq_some_iff.mp hpj).1
          rw [List.length_drop] at h1
          lia
        have hpl := piece_len ns pj (List.mem_of_mem_drop (List.mem_of_getElem? hpj))
        have hcl : c.tx.length ≤ 100 := by
          have h1 := fold_len (((pieces ns).drop 1).take j) (y0, 0 + (i : Int) * 1) fun p hp => piece_len ns p (List.mem_of_mem_drop (List.mem_of_mem_take hp))
          rw [← hP] at h1
          have h2 := piece_len ns y0 hy0m
          simp only [List.length_take] at h1
          lia
        have hel := end_len (c.re.fmod 3).toNat
        walk_at "mine_to_tup"
        refine item_ends (by k_asm) (by k_mem) ?_
        intro t9
        try dsimp only
        walk_at "mine_steps"
        rename News _ _ _ _ => nE
        refine gen_end (⟨c.tx ++ (endTab.getD (c.re.fmod 3).toNat Str.empty ++ pj), c.re.fdiv 3, ?u1, ?u2⟩ : TS) (by assumption) nE ?gn ?go (by rfl) (by kst_all) (by walk_at "mine_same") ?gp
        case gn => exact fun p hp => .tail _ (ledIn hp)
        case go => exact fun p hp => .tail _ (ownIn hp)
        case gp =>
          rw [List.take_add_one, hpj]
          simp only [Option.toList_some, List.foldl_append, ← hP]
          rfl
      case done2 =>
        intro c u2 h tk hP F3 N3 htk
        replace htk : @LE.le Nat _ 1 tk := htk
        have htx : c.tx = textOf (pieces ns) (i : Int) := text_end hP hpt.length hy0
        have hok := text_ok ns (i : Int)
        rw [← htx] at hok
        have hxl := hok.len
        have hsz := text_sz hok
        have hsz1 := hsz.r1
        have hsz2 := hsz.nm
        have hsz3 := hsz.lf
        have hsz4 := hsz.jr
        have hsz5 := hsz.jl
        clear F2 N2 NB hP hpe hpt hz2 hy0m hy0 qk ek
        try k_fold
        dsimp only [kstB, List.cons_append] at F3 N3
        refine execs_toks htk ?_
        walk_at "mine_steps"
        intro htk2
        dsimp only
        refine execs_toks htk2 ?_
        walk_at "mine_steps"
        rename News _ _ _ _ => N4
        rename Fr _ _ _ _ => F4
        refine src_str (by rfl) F4 N4 ?hz4 ?_
        case hz4 => rw [sizeLine_eq]; exact Nat.le_trans (rows_len hok) (by decide)
        intro g4
        refine rest_inv (fun i ys nw => IntsAre ys (((Txt.join (Str.ofString "\n") (lrows (norm c.tx))).cps.toList.map fnd).take i) ∧ nw = _) ?turn4 ?fin4 _ 0 [] _ (Nat.zero_add _) ⟨.nil, rfl⟩
        case turn4 =>
          intro j ys nw v I oI C oC D m₂ h tk E' hi hJ hv hC hx F N off ne
          obtain ⟨hys, e⟩ := hJ
          subst e
          obtain ⟨cc, cu, hcc, rfl⟩ := hv
          walk_at "mine_steps"
          refine LCg.CompEnd.intro F N _ (fun p hp => hp) off trivial ⟨?_, rfl⟩
          have hcc' : (Txt.join (Str.ofString "\n") (lrows (norm c.tx))).cps.toList[j]? = some cc := by rw [Array.getElem?_toList]; exact hcc
          rw [List.take_add_one, List.getElem?_map, hcc']
          exact IntsAre.append hys (.cons _ _ .nil)
        case fin4 =>
          intro ys nw hJ
          obtain ⟨hys, e⟩ := hJ
          subst e
          have hys : IntsAre ys (told c.tx) := by
            refine (congrArg (IntsAre ys) ?_).mp hys
            unfold told
            rw [List.take_of_length_le (by rw [List.length_map, Array.length_toList]; exact Nat.le_refl _)]
          unfold LCg.FinA
          intro D h tk F N o1 htk3
          dsimp only at htk3 ⊢
          have hne3 := off1_mem o1
          have htl : (told c.tx).length ≤ 1000 := told_len hok
          have htr := told_range hok
          have hnl := mul_len (Txt.replace c.tx (Str.ofString "\x0d") (Str.ofString "")).length
          walk_at "mine_stepsA"
          rename News _ _ _ _ => N5
          rename Fr _ _ _ _ => F5
          rename (_ ∧ _ ∧ _ ∧ _ ∧ _ ∧ _ ∧ _ ∧ _ ∧ AllLt _ _) => l5
          obtain ⟨N6, hne6⟩ := reorg3 N5 hap hT off (hne3 _ (.tail _ (.tail _ (.head _)))) l5.2.2.2.2.1
          refine happend F5 N6 hne6 (by have := hD.1; simp only [lawDue, List.length_map, List.length_range] at this; lia) ?_
          clear F5 N5 N6
          intro h5 F5 N5
          dsimp only
          have hqs := qd_sz (Nat.le_trans hxl (by decide))
          have hqs1 : (subText find2 c.tx crlf).length ≤ 1000000 := Nat.le_trans hqs.1 (by decide)
          have hqs2 := hqs.2
          have hnl2 := mul_len (told c.tx).length
          have hd1 := dec_ok1 hok
          have hd2 := dec_ok2 hok
          have he2 := enc_ok2 hok
          walk_at "mine_stepsA"
          rename News _ _ _ _ => N6
          rename Fr _ _ _ _ => F6
          refine src_bytes (by rfl) F6 N6 ?hz6 ?_
          case hz6 => rw [sizeLine_eq]; exact Nat.le_trans (anew_sz hok) (by decide)
          intro g6
          refine rest_inv (fun i ys nw => StrsAre ys ((bchars (anewOf c.tx)).take i) ∧ nw = _) ?turn6 ?fin6 _ 0 [] _ (Nat.zero_add _) ⟨.nil, rfl⟩
          case turn6 =>
            intro j ys nw v I oI C oC D m₂ h tk E' hi hJ hv hC hx F N off ne
            obtain ⟨hys, e⟩ := hJ
            subst e
            obtain ⟨cc, cu, hcc, rfl⟩ := hv
            have hc0 : (0 : Int) ≤ (cc.toNat : Int) := by lia
            have hc1 : (cc.toNat : Int) ≤ 1114111 := by have := cc.toNat_lt; lia
            walk_at "mine_steps"
            refine LCg.CompEnd.intro F N _ (fun p hp => hp) off trivial ⟨?_, rfl⟩
            have hcc' : (anewOf c.tx).toList[j]? = some cc := by rw [Array.getElem?_toList]; exact hcc
            unfold bchars at hys ⊢
            rw [List.take_add_one, List.getElem?_map, hcc']
            exact strsAre_snoc hys _ _
          case fin6 =>
            intro ys6 nw hJ
            obtain ⟨hys6, e⟩ := hJ
            subst e
            rw [List.take_of_length_le (by unfold bchars; rw [List.length_map, Array.length_toList]; exact Nat.le_refl _)] at hys6
            unfold LCg.FinE
            intro D6 h6 tk6 F6' N6' o6
            clear F6 N6
            have hjb := jf_bchars hok
            have hal := anew_len hok
            have hqs3 : (subText find2 (Txt.join (Str.ofString "") (bchars (anewOf c.tx))) crlf).length ≤ 1000000 := Nat.le_trans (qd_sz hal).1 (by decide)
            walk_at "mine_stepsA"
            rename News _ _ _ _ => N7
            rename Fr _ _ _ _ => F7
            have hIH : I ≠ _ := off _ (List.mem_singleton.mpr rfl) _ (.head _)
            obtain ⟨N8, hne8, hT8⟩ := reorg5 N7 hap hT hIH rfl rfl
            rename (_ = Data.cell (some (Value.str _ _))) => dS3
            k_dflt (refine' Con.use (spec_heappush (sub8 hT8) hne8 (hH.mono (fun p hp => .tail _ (.tail _ hp))) (ent_in (push_eq hok) (.head _)) (by rw [lawHeap_len]; lia)) ?k1 ?k2 ?k3 ?k4 ?k5 ?kK ?kd ?ku ?_; walk_at "mine_use")
            intro v9 n9 h9 tk9 r9 F9 N9
            obtain ⟨e1, vs9, m9, e2, H9⟩ := r9
            subst e1; subst e2
            clear N7 F7 N8
            dsimp only
            walk_at "mine_stepsA"
            have H10 := H9
            have eH : sdGo (entOf c.tx) (lawHeap (pieces ns) i).length (lawHeap (pieces ns) i ++ [entOf c.tx]) (lawHeap (pieces ns) i).length = lawHeap (pieces ns) (i + 1) := by rw [htx]; rfl
            have hT9 := hT8
            refine rangeK_end F9 N9 ?hsame ⟨vs9, _, m9, _, _, rfl, hT8, ?e1, ?e2⟩ (own_off N9 hT9 hcI off) (fun p hp => ledIn7 hp) (fun p hp => ownIn7 hp)
            case e1 => rw [← eH]; exact H10
            case e2 =>
              rw [lawDue_succ, ← htx]
              exact (hD.mono (fun p hp => .tail _ (.tail _ hp))).snoc (ent_in (rfl : Ent.mk _ _ _ _ = entOf c.tx) (.tail _ (.head _)))
            case hsame => walk_at "mine_same"
    case done =>
      intro u nx h tk hP F1 N1
      obtain ⟨hv, dv, hn, dn, tups, e, hT, hH, hD⟩ := hP
      subst e
      clear F3 N3 hR
      try k_fold
      dsimp only [kstB] at F1 N1
      walk_at "mine_stepsA"
      have hdl : dv.length = nC := by have := hD.1; simp only [lawDue, List.length_map, List.length_range] at this; exact this
      rename Fr _ _ _ _ => F2
      refine src_list (by rfl) F2 N1 (.tail _ (.head _)) (by lia) ?_
      intro g2
      rw [hdl]
      refine rest_inv (PopP (lawHeap (pieces ns) nC) _ _ _ _ _ _ _ _ _ tups) ?turn2 ?fin2 _ 0 [] _ (Nat.zero_add _) ⟨hv, hn, rfl, hH, Ents.nil⟩
      case turn2 =>
        intro j ys nw v I oI C oC D m₂ h tk E' hj hJ hvj hC hx F N off ne
        obtain ⟨hv2, hn2, e, H1, H2⟩ := hJ
        subst e
        walk_at "mine_stepsA"
        obtain ⟨x, es, ex, ey⟩ := lawPops_step (lawHeap (pieces ns) nC) (n := j) (by rw [lawHeap_len]; exact hj)
        have hl4 := lawPops_len (lawHeap (pieces ns) nC) j
        rw [ex, lawHeap_len, List.length_append, List.length_singleton] at hl4
        rw [ex] at H1
        obtain ⟨N4, hne4, hs4⟩ := reorg6 N hap hT off
        k_dflt (refine' Con.use (spec_heappop hs4 hne4 H1 (by lia)) ?k1 ?k2 ?k3 ?k4 ?k5 ?kK ?kd ?ku ?_; walk_at "mine_use")
        intro v9 n9 h9 tk9 r9 F9 N9
        obtain ⟨e9, vs9, m9, e2, H9⟩ := r9
        subst e2
        dsimp only
        refine LCg.CompEnd.intro F9 N9 ((_, W.listOf vs9.toArray m9) :: _) ?sub4 ⟨off.1, off.2⟩ (.inr ⟨_, .tail _ (.head _), rfl, _, rfl⟩) ⟨vs9, m9, rfl, ?_, ?_⟩
        case sub4 =>
          intro p hp
          simp only [List.mem_cons] at hp ⊢
          rcases hp with h | h | h | h | h
          · exact .inr (.inl h)
          · exact .inr (.inr (.inl h))
          · exact .inr (.inr (.inr (.inl h)))
          · exact .inl h
          · exact .inr (.inr (.inr (.inr h)))
        · rw [ey]; exact H9
        · rw [ey]; exact H2.snoc e9
      case fin2 =>
        intro ys nw hJ
        obtain ⟨hv2, hn2, e, H1, H2⟩ := hJ
        subst e
        unfold LCg.FinE
        intro D h tk F N o1
        clear F2 N1
        walk_at "mine_stepsA"
        rename Fr _ _ _ _ => F5
        rename News _ _ _ _ => N5
        have hdl2 : (lawDue (pieces ns) nC).length = nC := by simp only [lawDue, List.length_map, List.length_range]
        refine law_sorted F5 N5 (.tail _ (.tail _ (.head _))) (fun p hp => .tail _ (.tail _ (.tail _ (.tail _ (.tail _ (.tail _ hp)))))) hD (by lia) (by lia) ?_
        intro D5 h5 ys5 n5 out F6 N6 hlt5 He hperm hpw
        clear F5 N5
        dsimp only
        rw [heap_sorts hperm hpw] at H2
        walk_at "mine_stepsA"
        refine law_eq N6 (.tail _ (.head _)) (.head _) (fun p hp => .tail _ (.tail _ (.tail _ (.tail _ (.tail _ (.tail _ (.tail _ hp))))))) H2 He (by ktr_units) (by ktr_units) ?_
        have hv0 : hv2 = [] := by
          have h1 := H1.len
          rw [lawPops_len, lawHeap_len, Nat.sub_self] at h1
          exact List.eq_nil_of_length_eq_zero h1
        subst hv0
        walk_at "mine_stepsA"
        rename News _ _ _ _ => N7
        dsimp only
        refine law_eq (xs := []) (ys := []) (es := []) (tups := []) N7 (.tail _ (.tail _ (.tail _ (.head _)))) (.head _) (fun _ h => nomatch h) .nil .nil (by ktr_units) (by ktr_units) ?_
        rename Fr _ _ _ _ => F7
        refine goodW_bool F7 hg (raisesW_false ?_) ?_
        · wrow_none_raised
        · wrow_post
  )
end
end Mine
set_option maxRecDepth 100000 in
set_option maxHeartbeats 8000000 in
theorem PySem.Challenge.cw_op0032_01_holds : PySem.Challenge.rw_op0032_01.Holds := by
  exact Mine.lawx
