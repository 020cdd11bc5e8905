import PyProof.Rows.All
import Wide.All
import OpenK.AllK
import Wide.FinOn
import PySem.Challenge.RW_qh0088_01
open PySem PySem.W PyProof.Rows PySem.Calls
set_option Elab.async false
set_option linter.unusedVariables false
namespace Mine
section
set_option maxRecDepth 100000 in
set_option maxHeartbeats 8000000 in
open_top hd for PySem.Challenge.rw_qh0088_01
end
end Mine
namespace Mine
section
def Done (g : Heap) (P : Value → Shared → Prop) (fl : Flow) (s' : Shared) : Prop :=
  ∃ v L' m', fl = .ret v ∧ Fr g L' s'.heap m' ∧ P v s'
theorem call_cut {prog : Program} {w : World} {A₀ A : Around} {s : Shared} {base h₀ : Heap} {outer : List Env} {L : Addr} {m : Str → Option Value} {env : Env} {K : Frag}
    {p : Program} {loose : List Str} {mean : ExcName → Option Value} {mg mb : Str → Option Value} {P : Value → Shared → Prop}
    {name qual : Str} {params : Arguments} {body : List Stmt} {scope : Scope} {dV kV doc pm cdv ct oc : Value} {an od : Option Addr} {osl : Array (Option Value)} {f : Addr} {pos : List Value} {binds : List (Str × Value)} {Q E : Value → Shared → Prop}
    (B : Below A₀ base outer h₀) (F : Fr h₀ L s.heap m) (X₀ : K.In h₀) (T : Top p loose mean mg mb h₀) (hA : A.frames = some (env :: outer)) (hf : env.frame = some L) (hke : env.scope.kind = .function)
    (ho : K.lookup f = some ⟨oc, od, .func (fnOf name qual params body scope dV kV doc pm an cdv ct), osl⟩) (hcd : codeIn K cdv qual = true) (hroom : A.depth < recursionLimit)
    (hbind : BindsTo s (fnOf name qual params body scope dV kV doc pm an cdv ct) ⟨pos, []⟩ binds) (hloc : ∀ y ∈ binds, scope.names.lookup y.1 = some .local)
    (h : ∀ L' h₁ tk, s.toks ≤ tk → Fr s.heap L' h₁ (fun y => binds.reverse.lookup y) → News s.heap L' h₁ [] → Below A base (env :: outer) s.heap → K.In s.heap → Top p loose mean mg mb s.heap →
      wpAny (model prog w) (A.deeper (envOf qual scope L' f cdv)) (execs body (envOf qual scope L' f cdv))
        (fun fl s' => Done s.heap P fl s') (fun _ _ => False)
        { s with heap := h₁, toks := tk })
    (k : ∀ v s', P v s' → Fr h₀ L s'.heap m → s.heap.StaysIn s'.heap → Q v s')
    (hco : scope.isCoroutine = false) (hgen : scope.isGenerator = false) (hk : scope.kind = .function)
    (hcell : ∀ x ∈ scope.names, x.2 ≠ .cell) : wpAny (model prog w) A (call (.ref f) pos) Q E s := by
  refine wpAny_call ?_
  have N : News h₀ L s.heap [] := News.nil
  obtain ⟨FG, BG, st, lv⟩ := groundX (R := fun r s' => match r with | .ok (.ret v) => Q v s' | .ok _ => False | .error e => E e s') B F N hA hf hke
  refine codeAny_call_def (fd := fnOf name qual params body scope dV kV doc pm an cdv ct) (body := body) (binds := binds) hroom ((X₀.keeps F.keep) _ _ ho) rfl (T.nolimit.keeps F.keep) (codeRec_of (X₀.keeps F.keep) hcd) rfl hbind hcell hloc (fun h₁ hns hk₁ => ?_) hco hgen hk
  refine wpAny_mono (h s.heap.objs.size h₁ _ (Nat.le_add_right _ _) ⟨hns, fun b o e => hk₁ b o e, Nat.le_refl _⟩ News.nil BG (X₀.keeps F.keep) (T.keeps F.keep)) (fun fl s' hl => ?_) fun _ _ y => y.elim
  obtain ⟨v, L', m', rfl, F', hp⟩ := hl
  refine lv v s' ⟨L', m', [], F', News.nil, fun FF _ => ?_⟩
  exact k v s' hp FF F'.keep
def Ans (s : Shared) (R : Tok → Value) (v : Value) (s' : Shared) : Prop := ∃ t h' tk', v = R t ∧ s' = { s with heap := h', toks := tk' }
theorem call_cutR {prog : Program} {w : World} {A₀ A : Around} {s : Shared} {base h₀ : Heap} {outer : List Env} {L : Addr} {m : Str → Option Value} {env : Env} {K : Frag}
    {p : Program} {loose : List Str} {mean : ExcName → Option Value} {mg mb : Str → Option Value} {R : Tok → Value}
    {name qual : Str} {params : Arguments} {body : List Stmt} {scope : Scope} {dV kV doc pm cdv ct oc : Value} {an od : Option Addr} {osl : Array (Option Value)} {f : Addr} {pos : List Value} {binds : List (Str × Value)} {Q E : Value → Shared → Prop}
    (k : ∀ t h' tk', Fr h₀ L h' m → s.heap.StaysIn h' → Q (R t) { s with heap := h', toks := tk' })
    (B : Below A₀ base outer h₀) (F : Fr h₀ L s.heap m) (X₀ : K.In h₀) (T : Top p loose mean mg mb h₀) (hA : A.frames = some (env :: outer)) (hf : env.frame = some L) (hke : env.scope.kind = .function)
    (ho : K.lookup f = some ⟨oc, od, .func (fnOf name qual params body scope dV kV doc pm an cdv ct), osl⟩) (hcd : codeIn K cdv qual = true) (hroom : A.depth < recursionLimit)
    (hbind : BindsTo s (fnOf name qual params body scope dV kV doc pm an cdv ct) ⟨pos, []⟩ binds) (hloc : ∀ y ∈ binds, scope.names.lookup y.1 = some .local)
    (h : ∀ L' h₁ tk, s.toks ≤ tk → Fr s.heap L' h₁ (fun y => binds.reverse.lookup y) → News s.heap L' h₁ [] → Below A base (env :: outer) s.heap → K.In s.heap → Top p loose mean mg mb s.heap →
      wpAny (model prog w) (A.deeper (envOf qual scope L' f cdv)) (execs body (envOf qual scope L' f cdv))
        (fun fl s' => Done s.heap (Ans s R) fl s') (fun _ _ => False)
        { s with heap := h₁, toks := tk })
    (hco : scope.isCoroutine = false) (hgen : scope.isGenerator = false) (hk : scope.kind = .function)
    (hcell : ∀ x ∈ scope.names, x.2 ≠ .cell) : wpAny (model prog w) A (call (.ref f) pos) Q E s :=
  call_cut B F X₀ T hA hf hke ho hcd hroom hbind hloc h (fun v s' hp F' st => by obtain ⟨t, h', tk', rfl, rfl⟩ := hp; exact k t h' tk' F' st) hco hgen hk hcell
theorem done_ret {g : Heap} {s s' : Shared} {R : Tok → Value} {v : Value} {L' : Addr} {m' : Str → Option Value} {t : Tok} {h' : Heap} {tk' : Nat}
    (F : Fr g L' s'.heap m') (e : v = R t) (es : s' = { s with heap := h', toks := tk' }) : Done g (Ans s R) (.ret v) s' := ⟨v, L', m', rfl, F, t, h', tk', e, es⟩
end
end Mine
set_option maxRecDepth 100000
namespace Mine
section
open Builtin
theorem plain_mt : plainId "bytes.maketrans" = true := by decide +kernel
theorem entry_mt : entryFor table "bytes.maketrans" = some Builtin.«bytes.maketrans» := entryFor_of_tree (by kernel_rfl)
theorem check_mt (a b : Value) : checkBuiltinCall "bytes.maketrans" ⟨[a, b], []⟩ = pure () := by kernel_rfl
theorem slot_tr : Slot "bytes" "translate" "bytes.translate" :=
  .of (owner := "bytes") (n := "translate") (by rw [typeLookup_type, builtinLookup_eq_fast]; kernel_rfl) (by decide +kernel) (by decide +kernel) (by decide +kernel)
    (by first | exact .inl (by decide +kernel) | exact .inr (by decide +kernel)) (by rw [isSubtype_type]; kernel_rfl)
theorem type_tr : typeOf (.builtin "bytes.translate") = pure (.type "method_descriptor") := by show builtinType _ = _; rw [builtinType_eq_fast]; kernel_rfl
theorem entry_tr : entryFor table "bytes.translate" = some Builtin.«bytes.translate» := entryFor_of_tree (by kernel_rfl)
theorem args_tr (a b : Value) : argsOk "bytes.translate" ⟨[a, b], []⟩ := by
  unfold argsOk; rw [signature?_of (id := "bytes.translate") (n := ['e', 't', 'a', 'l', 's', 'n', 'a', 'r', 't']) (o := ['s', 'e', 't', 'y', 'b']) (by kernel_rfl) FB.owner_bytes]; kernel_rfl
theorem args_decode_2 (a b : Value) : argsOk "bytes.decode" ⟨[a, b], []⟩ := by
  unfold argsOk; rw [signature?_of (id := "bytes.decode") (n := ['e', 'd', 'o', 'c', 'e', 'd']) (o := ['s', 'e', 't', 'y', 'b']) (by kernel_rfl) FB.owner_bytes]; kernel_rfl

def mkTab (b c : Array UInt8) : Array UInt8 := (b.toList.zip c.toList).foldl (fun t (f, x) => t.setIfInBounds f.toNat x) ((Array.range 256).map (·.toUInt8))
theorem meets_mt {b c : Array UInt8} {t u : Tok} (hs : b.size = c.size) (hsz : (mkTab b c).size ≤ sizeLine) :
    Meets («bytes.maketrans» ⟨[.bytes b t, .bytes c u], []⟩) (fun _ R s => R (.ok (.ret (.bytes (mkTab b c) s.toks))) { s with toks := s.toks + 1 }) := by
  refine .of_wp fun prog w A R s h => ?_
  show wpAny _ _ (Bytes.bytesLike _ (.bytes b t) >>= fun r => _) _ _ s
  refine wpAny_bind (wpAny_of_eq KBd.like_eq ?_)
  show wpAny _ _ (Bytes.bytesLike _ (.bytes c u) >>= fun r => _) _ _ s
  refine wpAny_bind (wpAny_of_eq KBd.like_eq ?_)
  show wpAny _ _ (if (b.size != c.size) = true then _ else _) _ _ _
  rw [if_neg (by simp [hs])]
  exact wpAny_bind (wpAny_mkBytes (wpAny_pure ⟨_, rfl, h⟩) hsz)
def trAll (b c : Array UInt8) : Array UInt8 := b.map fun x => c.getD x.toNat x
theorem meets_tr {b c : Array UInt8} {t u : Tok} (hs : c.size = 256) (hsz : b.size ≤ sizeLine) :
    Meets («bytes.translate» ⟨[.bytes b t, .bytes c u], []⟩) (fun _ R s => ∀ t' k, R (.ok (.ret (.bytes (trAll b c) t'))) { s with toks := k }) := by
  refine .of_wp fun prog w A R s h => ?_
  have hb : (b.filter fun x => !(#[] : Array UInt8).contains x) = b := by
    rw [Array.filter_eq_self]
    intro a _
    simp
  show wpAny _ _ (Bytes.bytesLike _ (.bytes c u) >>= fun t => _) _ _ s
  refine wpAny_bind (wpAny_of_eq KBd.like_eq ?_)
  show wpAny _ _ (if (c.size != 256) = true then _ else _) _ _ _
  rw [if_neg (by simp [hs])]
  show wpAny _ _ (if (((b.filter fun x => !(#[] : Array UInt8).contains x).map fun x => c.getD x.toNat x) == b) = true then _ else _) _ _ _
  rw [hb]
  by_cases hq : ((b.map fun x => c.getD x.toNat x) == b) = true
  · rw [if_pos hq]
    have hq' : (b.map fun x => c.getD x.toNat x) = b := eq_of_beq hq
    refine wpAny_bind (wpAny_rule ?_)
    refine wpAny_bind ?_
    unfold Bytes.Kind.same
    refine wpAny_bind (wpAny_typeOf (typeIs_bytes s b t) ?_)
    refine wpAny_pure (wpAny_pure ?_)
    have := h t s.toks
    unfold trAll at this
    rw [hq'] at this
    exact ⟨_, rfl, this⟩
  · rw [if_neg hq]
    refine wpAny_bind (wpAny_mkBytes (wpAny_pure ⟨_, rfl, h _ _⟩) (by simpa using hsz))
section
variable {prog : Program} {w : World} {A : Around} {E : Value → Shared → Prop} {s : Shared} {b c : Array UInt8} {t u : Tok} {Q : Value → Shared → Prop}
theorem maketrans (hs : b.size = c.size) (hsz : (mkTab b c).size ≤ sizeLine) (h : ∀ t' k, Q (.bytes (mkTab b c) t') { s with toks := k }) : wpAny (model prog w) A (call (.builtin "bytes.maketrans") [.bytes b t, .bytes c u]) Q E s := by
  refine wpAny_call (codeAny_call_builtin plain_mt entry_mt (wpAny_of_eq (check_mt _ _) ?_))
  exact meets_mt hs hsz prog w A (wants Q E) s (h _ _)
theorem translate (hs : c.size = 256) (hsz : b.size ≤ sizeLine) (h : ∀ t' k, Q (.bytes (trAll b c) t') { s with toks := k }) : wpAny (model prog w) A (call (.builtin "bytes.translate") [.bytes b t, .bytes c u]) Q E s :=
  call_meets slot_tr (typeIs_bytes _ _ _) entry_tr (args_tr _ _) (meets_tr hs hsz) h
theorem method_tr {M : Model} {pl : Sem Bool} {Q : Value × List Value → Shared → Prop} (h : Q (.builtin "bytes.translate", [.bytes b t]) s) : wpAny M A (getMethod (.bytes b t) "translate" pl) Q E s := by
  with_reducible exact KBd.method_of (.bytes b t) (typeIs_bytes _ _ _) slot_tr type_tr KBd.noRef h
end
end
end Mine
set_option maxRecDepth 100000
namespace Mine
section
open Builtin
theorem dec_key (b : Array UInt8) (hsz : b.size ≤ sizeLine) (f : Nat → Nat × Array Nat × _codecs.Faults → Sem (ForInStep (Nat × Array Nat × _codecs.Faults)))
    (hf : ∀ i p out st, p < b.size → out.size ≤ sizeLine → f i (p, out, st) = pure (.yield (p + 1, out.push (b.getD p 0).toNat, st))) :
    ∀ (l : List Nat) (p : Nat) (out : Array Nat) (st : _codecs.Faults), p + l.length = b.size → out = (b.extract 0 p).map (·.toNat) →
      (forIn l (p, out, st) f : Sem _) = pure (b.size, b.map (·.toNat), st) := by
  intro l
  induction l with
  | nil =>
    intro p out st hp ho
    have hp' : p = b.size := by simpa using hp
    subst hp'
    rw [ho]
    simp
  | cons i l ih =>
    intro p out st hp ho
    have hlt : p < b.size := by rw [List.length_cons] at hp; omega
    have hos : out.size = p := by rw [ho]; simp; omega
    rw [List.forIn_cons, hf i p out st hlt (by omega)]
    show (forIn l (p + 1, out.push (b.getD p 0).toNat, st) f : Sem _) = _
    refine ih (p + 1) _ st (by rw [List.length_cons] at hp; omega) ?_
    rw [ho]
    have : b.extract 0 (p + 1) = (b.extract 0 p).push b[p] := by
      rw [Array.extract_succ_right (by omega) hlt]
    rw [this, Array.map_push]
    congr 1
    simp [Array.getD, hlt]
theorem dec_loop (id : String) (b : Array UInt8) (hb : ∀ x ∈ b, x.toNat < 128) (hsz : b.size ≤ sizeLine) :
    _codecs.runDecoder id _codecs.asciiDecoder none true b 0 [] = pure (b.map (·.toNat), b.size) := by
  unfold _codecs.runDecoder
  dsimp only
  rw [Std.Legacy.Range.forIn_eq_forIn_range']
  rw [dec_key b hsz _ ?_ _ 0 #[] _ (by simp [Std.Legacy.Range.size]) (by simp)]
  · rfl
  · intro i p out st hp ho
    dsimp only
    rw [if_neg (by omega), if_neg (by omega)]
    have hx : (b.getD p 0).toNat < 128 := by
      have : b.getD p 0 = b[p] := by simp [Array.getD, hp]
      rw [this]
      exact hb _ (Array.getElem_mem hp)
    have : _codecs.asciiDecoder.find true b p = .text [(b.getD p 0).toNat] (p + 1) := by
      show (if (b.getD p 0).toNat < 128 then _ else _) = _
      rw [if_pos hx]
      rfl
    rw [this]
    simp
theorem enc_key (x : Str) (R : Array UInt8) (f : Nat → Nat × Array UInt8 × _codecs.Faults → Sem (ForInStep (Nat × Array UInt8 × _codecs.Faults)))
    (hf0 : ∀ i st, 0 < x.length → f i (0, #[], st) = pure (.yield (x.length, R, st)))
    (hf1 : ∀ i st, f i (x.length, R, st) = pure (.done (x.length, R, st))) (hR : x.length = 0 → R = #[]) (st : _codecs.Faults) :
    (forIn (List.range' 0 x.length) (0, #[], st) f : Sem _) = pure (x.length, R, st) := by
  cases hn : x.length with
  | zero => simp [hR hn]
  | succ n =>
    rw [List.range'_succ, List.forIn_cons, hf0 _ _ (by omega), hn]
    show (forIn (List.range' (0 + 1) n) (n + 1, R, st) f : Sem _) = _
    cases n with
    | zero => rfl
    | succ n =>
      have h1 := hf1 (0 + 1) st
      rw [hn] at h1
      rw [List.range'_succ, List.forIn_cons, h1]
      rfl
theorem encA (id : String) (self : Value) (x : Str) (hx : ∀ c ∈ x.cps, c < 128) (hsz : x.length ≤ sizeLine) :
    _codecs.encodeNarrow id _codecs.asciiCodec none self x = pure (x.cps.map (·.toUInt8)) := by
  have hfold : ∀ (l : List Nat) (acc : Array UInt8), l.foldl (fun acc y => acc ++ (_codecs.asciiCodec.bytesOf y).toArray) acc = acc ++ (l.map (·.toUInt8)).toArray := by
    intro l
    induction l with
    | nil => intro acc; simp
    | cons c l ih => 
      intro acc
      rw [List.foldl_cons, ih]
      show acc ++ #[c.toUInt8] ++ _ = _
      simp
  unfold _codecs.encodeNarrow
  dsimp only
  rw [Std.Legacy.Range.forIn_eq_forIn_range']
  have e : (List.range' 0 x.length : List Nat) = List.range' [:x.length].start [:x.length].size [:x.length].step := by simp [Std.Legacy.Range.size]
  rw [← e, enc_key x (x.cps.map (·.toUInt8))]
  · rfl
  · intro i st h0
    dsimp only
    rw [if_neg (by simp)]
    have h0' : 0 < x.cps.size := h0
    rw [Array.getElem?_eq_getElem h0']
    have hb : _codecs.asciiCodec.bad x.cps[0] = false := by
      show decide (x.cps[0] ≥ 128) = false
      have := hx _ (Array.getElem_mem h0')
      simpa using this
    have hn : Array.findIdx? _codecs.asciiCodec.bad (x.cps.extract 0) = none := by
      rw [Array.findIdx?_eq_none_iff]
      intro c hc
      show decide (c ≥ 128) = false
      have : c ∈ x.cps := by simpa using hc
      have := hx _ this
      simpa using this
    dsimp only
    rw [hb]
    simp only [Bool.not_false, if_true]
    rw [hn]
    simp only [Option.getD_none]
    have : Array.foldl (fun acc y => acc ++ (_codecs.asciiCodec.bytesOf y).toArray) #[] ((x.cps.extract 0).extract 0 (x.cps.extract 0).size) = x.cps.map (·.toUInt8) := by
      rw [← Array.foldl_toList, hfold]
      apply Array.ext'
      simp
    rw [this]
    simp [Str.length]
  · intro i st
    dsimp only
    have h1 : ¬ ((x.cps.map (·.toUInt8)).size > sizeLine) := by
      have : x.cps.size ≤ sizeLine := hsz
      simp; omega
    rw [if_neg h1]
    have : x.cps[x.length]? = none := by
      rw [Array.getElem?_eq_none]
      exact Nat.le_refl _
    rw [this]
  · intro h
    have : x.cps.size = 0 := h
    simp [Array.eq_empty_of_size_eq_zero this]
theorem road_ascii {id : String} {b : Array UInt8} : _codecs.decodeRoad id b (PySem.Str.ofString "ascii") none [] = (_codecs.runDecoder id _codecs.asciiDecoder none true b 0 [] >>= fun r => mkStr ⟨r.1⟩) := by kernel_rfl
theorem meets_textA {b : Array UInt8} {t t1 t2 : Tok} {d : PySem.Str} (hb : ∀ x ∈ b, x.toNat < 128) (hsz : b.size ≤ sizeLine) :
    Meets («_codecs.decode.text» ⟨[.bytes b t, .str (PySem.Str.ofString "ascii") t1, .none, .str d t2], []⟩) (fun _ R s => R (.ok (.ret (.str ⟨b.map (·.toNat)⟩ s.toks))) { s with toks := s.toks + 1 }) := by
  refine .of_wp fun prog w A R s h => ?_
  show wpAny _ _ (Bytes.bytesLike _ (.bytes b t) >>= fun r => _) _ _ s
  refine wpAny_bind (wpAny_of_eq KBd.like_eq ?_)
  refine wpAny_bind (wpAny_of_eq KBd.held_eq ?_)
  show wpAny _ _ (_codecs.decodeRoad _ b (PySem.Str.ofString "ascii") none [] >>= fun v => _) _ _ s
  rw [road_ascii, dec_loop _ b hb hsz]
  refine wpAny_bind (wpAny_bind (wpAny_pure ?_))
  exact wpAny_mkStr (wpAny_pure ⟨_, rfl, h⟩) (by show (b.map (·.toNat)).size ≤ _; simpa using hsz)
theorem entry_decA {c : UInt8} {cs : List UInt8} {t u : Tok} : «bytes.decode» ⟨[.bytes (c :: cs).toArray t, .str (PySem.Str.ofString "ascii") u], []⟩ = (mkStr (PySem.Str.ofString "utf-8") >>= fun _ => mkStr (PySem.Str.ofString "ascii") >>= fun e => mkStr (PySem.Str.ofString "bytes.decode") >>= fun d =>
    call (.builtin "_codecs.decode.text") [.bytes (c :: cs).toArray t, e, .none, d] >>= fun v => ret v) := by kernel_rfl
theorem meets_decA {c : UInt8} {cs : List UInt8} {t u : Tok} (hb : ∀ x ∈ (c :: cs).toArray, x.toNat < 128) (hsz : (c :: cs).toArray.size ≤ sizeLine) :
    Meets («bytes.decode» ⟨[.bytes (c :: cs).toArray t, .str (PySem.Str.ofString "ascii") u], []⟩) (fun _ R s => ∀ t' k, R (.ok (.ret (.str ⟨(c :: cs).toArray.map (·.toNat)⟩ t'))) { s with toks := k }) := by
  refine .of_wp fun prog w A R s h => ?_
  rw [entry_decA]
  refine wpAny_bind (wpAny_mkStr ?_ (by decide))
  refine wpAny_bind (wpAny_mkStr ?_ (by decide))
  refine wpAny_bind (wpAny_mkStr ?_ (by decide))
  exact wpAny_bind (call_function_meets KBd.kind_text KBd.plain_text KBd.entry_text (KBd.args_text _ _ _ _) (meets_textA hb hsz) (wpAny_pure ⟨_, rfl, h _ _⟩))
section
variable {prog : Program} {w : World} {A : Around} {E : Value → Shared → Prop} {s : Shared} {t u : Tok} {Q : Value → Shared → Prop}
theorem decodeA {b : Array UInt8} (h0 : b.size ≠ 0) (hb : ∀ x ∈ b, x.toNat < 128) (hsz : b.size ≤ sizeLine) (h : ∀ t' k, Q (.str ⟨b.map (·.toNat)⟩ t') { s with toks := k }) :
    wpAny (model prog w) A (call (.builtin "bytes.decode") [.bytes b t, .str (PySem.Str.ofString "ascii") u]) Q E s := by
  obtain ⟨l⟩ := b
  cases l with
  | nil => exact absurd rfl h0
  | cons c cs => exact call_meets FB.slot_bytes_decode (typeIs_bytes _ _ _) FB.entry_bytes_decode (args_decode_2 _ _) (meets_decA hb hsz) h
theorem road_encA (id : String) (self : Value) (x : Str) : _codecs.encodeRoad id self x (Str.ofString "ascii") none = (do mkBytes (← _codecs.encodeNarrow id _codecs.asciiCodec none self x)) := by kernel_rfl
theorem tree_encA (x : Str) (t u : Tok) : «str.encode» ⟨[.str x t, .str (Str.ofString "ascii") u], []⟩ = (do ret (← _codecs.encodeRoad "str.encode" (.str x t) x (Str.ofString "ascii") none)) := by kernel_rfl
theorem meets_encA {x : Str} {t u : Tok} (hx : ∀ c ∈ x.cps, c < 128) (hsz : x.length ≤ sizeLine) :
    Meets («str.encode» ⟨[.str x t, .str (Str.ofString "ascii") u], []⟩) (fun _ R s => ∀ t' k, R (.ok (.ret (.bytes (x.cps.map (·.toUInt8)) t'))) { s with toks := k }) := by
  refine .of_wp fun prog w A R s h => ?_
  rw [tree_encA, road_encA, encA _ _ _ hx hsz]
  refine wpAny_bind (wpAny_bind (wpAny_pure ?_))
  exact wpAny_mkBytes (wpAny_pure ⟨_, rfl, h _ _⟩) (by have : x.cps.size ≤ sizeLine := hsz; simpa using this)
theorem encodeA {x : Str} (hx : ∀ c ∈ x.cps, c < 128) (hsz : x.length ≤ sizeLine) (h : ∀ t' k, Q (.bytes (x.cps.map (·.toUInt8)) t') { s with toks := k }) :
    wpAny (model prog w) A (call (.builtin "str.encode") [.str x t, .str (PySem.Str.ofString "ascii") u]) Q E s :=
  call_meets F.slot_str_encode (typeIs_str _ _ _) F.entry_str_encode (F.args_str_encode_2 _ _) (meets_encA hx hsz) h
end
end
end Mine
set_option maxRecDepth 100000
namespace Mine
section
open Builtin Builtin.Str
def put1 (c : Nat) (z : List Nat) (l : List Nat) : List Nat := l.flatMap fun y => if y = c then z else [y]
theorem put1_free {c : Nat} {z l : List Nat} (h : c ∉ l) : put1 c z l = l := by
  unfold put1
  induction l with
  | nil => rfl
  | cons a r ih =>
    have ha : a ≠ c := fun e => h (by rw [e]; exact List.mem_cons_self ..)
    rw [List.flatMap_cons, if_neg ha, ih (fun hm => h (List.mem_cons_of_mem _ hm))]
    rfl
theorem put1_app {c : Nat} {z a b : List Nat} : put1 c z (a ++ b) = put1 c z a ++ put1 c z b := by
  unfold put1; rw [List.flatMap_append]
theorem put1_join (c : Nat) (z : Str) : ∀ parts : List Str, (∀ p ∈ parts, c ∉ p.cps.toList) → put1 c z.cps.toList (Str.join ⟨#[c]⟩ parts).cps.toList = (Str.join z parts).cps.toList
  | [], _ => rfl
  | [a], h => put1_free (h a (List.mem_cons_self ..))
  | a :: b :: r, h => by
    have ih := put1_join c z (b :: r) fun p hp => h p (List.mem_cons_of_mem _ hp)
    have e1 : Str.join ⟨#[c]⟩ (a :: b :: r) = a ++ ⟨#[c]⟩ ++ Str.join ⟨#[c]⟩ (b :: r) := rfl
    have e2 : Str.join z (a :: b :: r) = a ++ z ++ Str.join z (b :: r) := rfl
    rw [e1, e2]
    simp only [Str.cps_append, Array.toList_append, put1_app, ih]
    rw [put1_free (h a (List.mem_cons_self ..))]
    congr 2
    simp [put1]
theorem replace_put (x z : Str) (c : Nat) : (Txt.replace x ⟨#[c]⟩ z).cps.toList = put1 c z.cps.toList x.cps.toList := by
  rw [StrLaws.replace_one, ← put1_join c z _ (StrLaws.split_free x c), StrLaws.join_split]
def strOf (ns : List Int) : Str := ⟨(ns.map Int.toNat).toArray⟩
theorem strOf_length (ns : List Int) : (strOf ns).length = ns.length := by simp [strOf, Str.length]
def ampL (ns : List Int) : List Int := ns.flatMap fun n => if n = 38 then [38, 97, 109, 112, 59] else [n]
theorem ampL_nat (ns : List Int) (h : ∀ n ∈ ns, 0 ≤ n) : put1 38 [38, 97, 109, 112, 59] (ns.map Int.toNat) = (ampL ns).map Int.toNat := by
  induction ns with
  | nil => rfl
  | cons a r ih =>
    have ha := h a (List.mem_cons_self ..)
    have ih := ih fun n hn => h n (List.mem_cons_of_mem _ hn)
    unfold put1 ampL at *
    rw [List.map_cons, List.flatMap_cons, List.flatMap_cons, List.map_append, ih]
    congr 1
    by_cases e : a = 38
    · rw [if_pos e, if_pos (by omega)]; rfl
    · rw [if_neg e, if_neg (by omega)]; rfl
section
variable {prog : Program} {w : World} {A : Around} {E : Value → Shared → Prop} {s : Shared} {x y z : Str} {t u v : Tok} {Q : Value → Shared → Prop}
theorem replT (hu : u ≠ 0) (hv : v ≠ 0) (huv : u ≠ v) (hyz : (y == z) = false) (hx : x.length ≤ 1048576) (hz : z.length ≤ 14)
    (hq : ∀ t' k, s.toks ≤ k → Q (.str (Txt.replace x y z) t') { s with toks := k }) : wpAny (model prog w) A (call (.builtin "str.replace") [.str x t, .str y u, .str z v]) Q E s := by
  have hb : x.length + (x.length + 1) * z.length ≤ 16777216 := by
    have h1 : (x.length + 1) * z.length ≤ (x.length + 1) * 14 := Nat.mul_le_mul_left _ hz
    omega
  have hl : tooLong (x.length + (occurrences x y 0 x.length (x.length + 1)).length * z.length) = false := by
    have h1 := StrLaws.occ_length_le x y 0 x.length (x.length + 1)
    have h2 : (occurrences x y 0 x.length (x.length + 1)).length * z.length ≤ (x.length + 1) * z.length := Nat.mul_le_mul_right _ h1
    unfold tooLong sizeLine
    exact decide_eq_false (by omega)
  refine call_gives F.slot_str_replace (typeIs_str _ _ _) F.entry_str_replace (F.args_str_replace_3 _ _ _)
    (gives_str_replace x y z t u v fun _ => ⟨by simp [hu, hv], by simp [huv], hyz, hl⟩) ?_
  have hq' := hq
  unfold Txt.replace at hq'
  cases hc : ((occurrences x y 0 x.length (x.length + 1)).isEmpty || (y.length == 0 && z.length == 0))
  · rw [hc] at hq'
    simp only [Bool.false_eq_true, if_false] at hq' ⊢
    exact ⟨fits_replaced y hb, hq' _ _ (Nat.le_succ _)⟩
  · rw [hc] at hq'
    simp only [if_true] at hq' ⊢
    exact hq' t s.toks (Nat.le_refl _)
theorem rep_amp {ns : List Int} (hu : 0 < u) (h0 : ∀ n ∈ ns, 0 ≤ n) (hn : ns.length ≤ 1000) (h : ∀ t' k, s.toks ≤ k → Q (.str (strOf (ampL ns)) t') { s with toks := k }) :
    wpAny (model prog w) A (call (.builtin "str.replace") [.str (strOf ns) t, .str (Str.ofString "&") u, .str (Str.ofString "&amp;") (u + 1)]) Q E s := by
  have e : Txt.replace (strOf ns) (Str.ofString "&") (Str.ofString "&amp;") = strOf (ampL ns) := by
    have e1 : Str.ofString "&" = ⟨#[38]⟩ := by decide +kernel
    have e2 : (Str.ofString "&amp;").cps.toList = [38, 97, 109, 112, 59] := by decide +kernel
    refine Str.ext' (Array.toList_inj.mp ?_)
    rw [e1, replace_put, e2]
    exact ampL_nat ns h0
  refine replT (by exact Nat.pos_iff_ne_zero.mp hu) (by exact Nat.succ_ne_zero u) (by exact Nat.ne_of_lt (Nat.lt_succ_self u)) (by decide +kernel) (by rw [strOf_length]; omega) (by decide +kernel) fun t' k hk => ?_
  rw [e]
  exact h t' k hk
theorem rep_none {ns : List Int} {c : Nat} (e1 : y = ⟨#[c]⟩) (hyz : (y == z) = false) (hz : z.length ≤ 14) (hc : ∀ n ∈ ns, n.toNat ≠ c) (hu : 0 < u) (hn : ns.length ≤ 10000) (h : ∀ t' k, s.toks ≤ k → Q (.str (strOf ns) t') { s with toks := k }) :
    wpAny (model prog w) A (call (.builtin "str.replace") [.str (strOf ns) t, .str y u, .str z (u + 1)]) Q E s := by
  have e : Txt.replace (strOf ns) y z = strOf ns := by
    refine Str.ext' (Array.toList_inj.mp ?_)
    rw [e1, replace_put, put1_free]
    intro hm
    obtain ⟨n, hn, e⟩ := List.mem_map.mp (show c ∈ ns.map Int.toNat from hm)
    exact hc n hn e
  refine replT (by exact Nat.pos_iff_ne_zero.mp hu) (by exact Nat.succ_ne_zero u) (by exact Nat.ne_of_lt (Nat.lt_succ_self u)) hyz (by rw [strOf_length]; omega) hz fun t' k hk => ?_
  rw [e]
  exact h t' k hk
end
theorem ampL_len (ns : List Int) : (ampL ns).length ≤ 5 * ns.length := by
  induction ns with
  | nil => simp [ampL]
  | cons a r ih =>
    unfold ampL at *
    rw [List.flatMap_cons, List.length_append, List.length_cons]
    split <;> simp only [List.length_cons, List.length_nil] <;> omega
theorem ampL_all {P : Int → Prop} (ns : List Int) (h : ∀ n ∈ ns, P n) (h2 : P 97 ∧ P 109 ∧ P 112 ∧ P 59) : ∀ n ∈ ampL ns, P n := by
  intro n hn
  obtain ⟨a, ha, hm⟩ := List.mem_flatMap.mp hn
  by_cases e : a = 38
  · rw [if_pos e] at hm
    have := h a ha
    simp only [List.mem_cons, List.not_mem_nil, or_false] at hm
    rcases hm with rfl | rfl | rfl | rfl | rfl
    · exact e ▸ this
    · exact h2.1
    · exact h2.2.1
    · exact h2.2.2.1
    · exact h2.2.2.2
  · rw [if_neg e] at hm
    rw [List.mem_singleton.mp hm]
    exact h a ha
end
end Mine
namespace Mine
section
def Plain (ns : List Int) : Prop := ∀ n ∈ ns, 0 ≤ n ∧ n < 128 ∧ n ≠ 60 ∧ n ≠ 62 ∧ n ≠ 34 ∧ n ≠ 39
theorem Plain.amp {ns : List Int} (h : Plain ns) : Plain (ampL ns) := ampL_all ns h (by omega)
local macro_rules | `(tactic| walk_at "execs cons") => `(tactic| (k_here; (with_reducible refine wpAny_execs_cons ?_); try dsimp only))
local macro_rules | `(tactic| walk_at "call builtin:str.replace") => `(tactic| (k_here; (with_reducible rename Plain _ => hx'); first
  | (refine rep_amp (by (show 0 < (_ : Nat)); omega) (fun n hn => (hx' n hn).1) (by omega) ?_; intro t' kk' hk')
  | (refine rep_none (c := 60) (by decide +kernel) (by decide +kernel) (by decide +kernel) (fun n hn => by have := hx'.amp n hn; omega) (by (show 0 < (_ : Nat)); omega) (by omega) ?_; intro t' kk' hk')
  | (refine rep_none (c := 62) (by decide +kernel) (by decide +kernel) (by decide +kernel) (fun n hn => by have := hx'.amp n hn; omega) (by (show 0 < (_ : Nat)); omega) (by omega) ?_; intro t' kk' hk')
  | (refine rep_none (c := 34) (by decide +kernel) (by decide +kernel) (by decide +kernel) (fun n hn => by have := hx'.amp n hn; omega) (by (show 0 < (_ : Nat)); omega) (by omega) ?_; intro t' kk' hk')
  | (refine rep_none (c := 39) (by decide +kernel) (by decide +kernel) (by decide +kernel) (fun n hn => by have := hx'.amp n hn; omega) (by (show 0 < (_ : Nat)); omega) (by omega) ?_; intro t' kk' hk')))
set_option maxRecDepth 100000 in
set_option maxHeartbeats 8000000 in
theorem escape_spec {w : World} {p : Program} {loose : List Str} {mean : ExcName → Option Value} {mg mb : Str → Option Value} {base h₀ : Heap} {LL fa c : Addr} {cn : Str} {cs : Scope} {m : Str → Option Value} {s : Shared} {Q E : Value → Shared → Prop} {ns : List Int} {t : Tok} {q : Bool}
    (hx : Plain ns) (hlen : ns.length ≤ 1000) (htk : 0 < s.toks) (hcs : cs.kind = .function) (B : Below callerA base [] h₀) (F : Fr h₀ LL s.heap m) (X : (hd.heap_39 w.params).In h₀) (T : Top p loose mean mg mb h₀)
    (k : ∀ t h' tk', Fr h₀ LL h' m → s.heap.StaysIn h' → Q (.str (strOf (ampL ns)) t) { s with heap := h', toks := tk' }) :
    wpAny (model Challenge.rw_qh0088_01.row.prog w) (callerA.deeper (envOf cn cs LL fa (.ref c))) (call (.ref 29) [.str (strOf ns) t, .bool q]) Q E s := by
  k_with_none
  w_top off
  revert X; k_fill; intro X
  have hlen2 := ampL_len ns
  w_strict (
    k_dflt (refine' call_cutR k ?k1 ?k2 ?k3 ?k5 ?kA ?kF ?kK ?k6 ?k7 ?k8 ?k9 ?kB ?_ ?c2 ?c3 ?c4 ?c5; (case kA => exact rfl); (case kF => exact rfl); (case kK => assumption); (case k1 => k_asm); (case k2 => k_asm); (case k3 => k_asm); (case k5 => k_asm); (case k6 => k_is); (case k7 => k_is); (case k8 => ktr_room); (case k9 => first | exact BindsTo.of_eq rfl | exact binds_K (by k_in) rfl (by k_is) rfl rfl rfl); (case c5 => decide); (case kB => exact locs rfl); (case c2 => exact rfl); (case c3 => exact rfl); (case c4 => exact rfl); k_whole)
    clear k B F X T
    intro L' h' tk0 htk0 F' N' B' X' T'
    (try dsimp only)
    (try k_lift B')
    (try k_fold)
    k_steps
    all_goals exact done_ret (by assumption) rfl rfl)
end
end Mine
namespace Mine
section
def octStep (st : List Int × Int × Int) (f : Int) : List Int × Int × Int :=
  if st.2.2 * 64 < 256 then (st.1, st.2.1 * 64 + f, st.2.2 * 64)
  else (st.1 ++ [(st.2.1 * 64 + f) / (st.2.2 * 64 / 256)], (st.2.1 * 64 + f) % (st.2.2 * 64 / 256), st.2.2 * 64 / 256)
def octRun (ns : List Int) : List Int × Int × Int := ns.foldl octStep ([], 0, 1)
def octL (ns : List Int) : List Int := (octRun ns).1
def Figs (ns : List Int) : Prop := ∀ n ∈ ns, 0 ≤ n ∧ n < 64
structure OctS (pre o : List Int) (h r : Int) : Prop where
  run : octRun pre = (o, h, r)
  lo : 0 ≤ h
  hi : h < r
structure OctW (pre o : List Int) (h r : Int) : Prop where
  st : OctS pre o h r
  room : r = 1 ∨ r = 64 ∨ r = 16 ∨ r = 4
theorem OctW.start : OctW [] [] 0 1 ∧ ([] : List Int).length ≤ ([] : List Int).length ∧ KBa.In [] := ⟨⟨⟨rfl, by omega, by omega⟩, by omega⟩, by simp, fun _ h => nomatch h⟩
theorem octRun_snoc (pre : List Int) (n : Int) : octRun (pre ++ [n]) = octStep (octRun pre) n := by unfold octRun; rw [List.foldl_append]; rfl
theorem figs_mid {ns pre post : List Int} {n : Int} (h : Figs ns) (e : ns = pre ++ n :: post) : 0 ≤ n ∧ n < 64 := h n (by rw [e]; simp)
theorem OctW.fork {pre o : List Int} {h r : Int} (W : OctW pre o h r) : (r = 1 ∧ OctS pre o h r) ∨ (r = 64 ∧ OctS pre o h r) ∨ (r = 16 ∧ OctS pre o h r) ∨ (r = 4 ∧ OctS pre o h r) := by
  rcases W.room with e | e | e | e
  · exact .inl ⟨e, W.st⟩
  · exact .inr (.inl ⟨e, W.st⟩)
  · exact .inr (.inr (.inl ⟨e, W.st⟩))
  · exact .inr (.inr (.inr ⟨e, W.st⟩))
theorem OctW.next0 {ns pre post o : List Int} {n h : Int} (hx : Figs ns) (e : ns = pre ++ n :: post) (S : OctS pre o h 1) (hl : o.length ≤ pre.length) (hin : KBa.In o) :
    OctW (pre ++ [n]) o (h * 64 + n) (1 * 64) ∧ o.length ≤ (pre ++ [n]).length ∧ KBa.In o := by
  have hn := figs_mid hx e
  have h1 := S.lo
  have h2 := S.hi
  refine ⟨⟨⟨?_, by omega, by omega⟩, by omega⟩, by rw [List.length_append]; simp; omega, hin⟩
  rw [octRun_snoc, S.run]
  rfl
theorem OctW.next {ns pre post o : List Int} {n h r r' : Int} (hx : Figs ns) (e : ns = pre ++ n :: post) (S : OctS pre o h r) (hl : o.length ≤ pre.length) (hin : KBa.In o)
    (hr : (r = 64 ∧ r' = 16) ∨ (r = 16 ∧ r' = 4) ∨ (r = 4 ∧ r' = 1)) :
    OctW (pre ++ [n]) (o ++ [(h * 64 + n).fdiv r']) ((h * 64 + n).fmod r') r' ∧ (o ++ [(h * 64 + n).fdiv r']).length ≤ (pre ++ [n]).length ∧ KBa.In (o ++ [(h * 64 + n).fdiv r']) := by
  have hn := figs_mid hx e
  have h1 := S.lo
  have h2 := S.hi
  have hr0 : 0 < r' := by omega
  have e1 : (h * 64 + n).fdiv r' = (h * 64 + n) / r' := Int.fdiv_eq_ediv_of_nonneg _ (by omega)
  have e2 : (h * 64 + n).fmod r' = (h * 64 + n) % r' := Int.fmod_eq_emod_of_nonneg _ (by omega)
  have e3 : r * 64 / 256 = r' := by omega
  rw [e1, e2]
  refine ⟨⟨⟨?_, Int.emod_nonneg _ (by omega), Int.emod_lt_of_pos _ hr0⟩, by omega⟩, by simp; omega, ?_⟩
  · rw [octRun_snoc, S.run]
    unfold octStep
    dsimp only
    rw [if_neg (by omega), e3]
  · intro x hm
    rcases List.mem_append.mp hm with hm | hm
    · exact hin x hm
    · rw [List.mem_singleton.mp hm]
      rcases hr with ⟨rfl, rfl⟩ | ⟨rfl, rfl⟩ | ⟨rfl, rfl⟩ <;> omega
theorem OctW.fin {ns o : List Int} {h r : Int} (W : OctW ns o h r) : o = octL ns := by
  unfold octL; rw [W.st.run]
local macro_rules | `(tactic| walk_at "execs cons") => `(tactic| (k_here; (with_reducible rename (_ = _ ++ _ :: _) => kq'); (with_reducible rename OctW _ _ _ _ => hW'); obtain ⟨e', hS'⟩ | ⟨e', hS'⟩ | ⟨e', hS'⟩ | ⟨e', hS'⟩ := OctW.fork hW' <;> subst e' <;> clear hW'))
set_option maxRecDepth 100000 in
set_option maxHeartbeats 8000000 in
theorem octets_spec {w : World} {p : Program} {loose : List Str} {mean : ExcName → Option Value} {mg mb : Str → Option Value} {base h₀ : Heap} {LL fa c : Addr} {cn : Str} {cs : Scope} {m : Str → Option Value} {s : Shared} {Q E : Value → Shared → Prop} {l : Addr} {vs : List Value} {ns : List Int}
    (hl : s.heap.IsList l vs.toArray) (hi : IntsAre vs ns) (hx : Figs ns) (hlen : ns.length ≤ 1000) (hcs : cs.kind = .function) (B : Below callerA base [] h₀) (F : Fr h₀ LL s.heap m) (X : (hd.heap_39 w.params).In h₀) (T : Top p loose mean mg mb h₀)
    (k : ∀ t h' tk', Fr h₀ LL h' m → s.heap.StaysIn h' → Q (.bytes (byteArr (octL ns)) t) { s with heap := h', toks := tk' }) :
    wpAny (model Challenge.rw_qh0088_01.row.prog w) (callerA.deeper (envOf cn cs LL fa (.ref c))) (call (.ref 124) [.ref l]) Q E s := by
  k_with_none
  w_top off
  revert X; k_fill; intro X
  k_with "pyIter ref" => k_state (fun pre o h r => OctW pre o h r ∧ o.length ≤ pre.length ∧ KBa.In o) "octets" "held" "room"
  k_with "state" => first | exact OctW.start | exact OctW.next0 hx (by assumption) (by assumption) (by assumption) (by assumption) | exact OctW.next hx (by assumption) (by assumption) (by assumption) (by assumption) (by decide)
  w_strict (
    k_dflt (refine' call_cutR k ?k1 ?k2 ?k3 ?k5 ?kA ?kF ?kK ?k6 ?k7 ?k8 ?k9 ?kB ?_ ?c2 ?c3 ?c4 ?c5; (case kA => exact rfl); (case kF => exact rfl); (case kK => assumption); (case k1 => k_asm); (case k2 => k_asm); (case k3 => k_asm); (case k5 => k_asm); (case k6 => k_is); (case k7 => k_is); (case k8 => ktr_room); (case k9 => first | exact BindsTo.of_eq rfl | exact binds_K (by k_in) rfl (by k_is) rfl rfl rfl); (case c5 => decide); (case kB => exact locs rfl); (case c2 => exact rfl); (case c3 => exact rfl); (case c4 => exact rfl); k_whole)
    clear k B F X T
    intro L' h' tk0 htk0 F' N' B' X' T'
    (try dsimp only)
    (try k_lift B')
    (try k_fold)
    k_steps
    all_goals (rename OctW _ _ _ _ => hW; exact done_ret (by assumption) (by rw [OctW.fin hW]) rfl))
end
end Mine
set_option maxRecDepth 100000
namespace Mine
section
def b64L : List Int := [65, 66, 67, 68, 69, 70, 71, 72, 73, 74, 75, 76, 77, 78, 79, 80, 81, 82, 83, 84, 85, 86, 87, 88, 89, 90, 97, 98, 99, 100, 101, 102, 103, 104, 105, 106, 107, 108, 109, 110, 111, 112, 113, 114, 115, 116, 117, 118, 119, 120, 121, 122, 48, 49, 50, 51, 52, 53, 54, 55, 56, 57, 43, 47]
def chB (i : Int) : Int := b64L.getD i.toNat 0
theorem chB_all {P : Int → Prop} [DecidablePred P] (h : ∀ i : Fin 64, P (b64L.getD i.val 0)) {i : Int} (h0 : 0 ≤ i) (h1 : i < 64) : P (chB i) := h ⟨i.toNat, by omega⟩
theorem chB_in {i : Int} (h0 : 0 ≤ i) (h1 : i < 64) : 0 ≤ chB i ∧ chB i < 128 := chB_all (P := fun c => 0 ≤ c ∧ c < 128) (by decide +kernel) h0 h1
section
variable {prog : Program} {w : World} {A : Around} {E : Value → Shared → Prop} {s : Shared} {value slice : PySem.Expr} {a b i : Int} {t u ui : Tok} {Q : Value → Shared → Prop}
theorem b64_item {bs : Array UInt8} (hk : KBw.bInts bs = b64L) (h0 : 0 ≤ i) (h1 : i < 64) (h : ∀ t' k, Q (.int (chB i) t') { s with toks := k })
    (hs : subscripted slice false (.bytes bs t) (.int i ui) = operate [.bytes bs t, .int i ui] (getItem (.bytes bs t) (.int i ui)) := by with_unfolding_all rfl)
    (ht : ∀ r, letTemporaryGo value (.bytes bs t) r = pure () := by intro _; with_unfolding_all rfl) : wpAny (model prog w) A (subscriptTail value slice (.bytes bs t) (.int i ui)) Q E s :=
  KBw.item_K hk (by decide) h0 (by have : (b64L.length : Int) = 64 := rfl; omega) (fun t' k _ _ => h t' k) hs ht
theorem and3 (h : Q (.int (a % 4) s.toks) { s with toks := s.toks + 1 }) : wpAny (model prog w) A (binaryOp .BitAnd (.int a t) (.int 3 u)) Q E s := and_int (by rw [bitAnd_m2]; exact h)
theorem and15 (h : Q (.int (a % 16) s.toks) { s with toks := s.toks + 1 }) : wpAny (model prog w) A (binaryOp .BitAnd (.int a t) (.int 15 u)) Q E s := and_int (by rw [bitAnd_m4]; exact h)
theorem and63 (h : Q (.int (a % 64) s.toks) { s with toks := s.toks + 1 }) : wpAny (model prog w) A (binaryOp .BitAnd (.int a t) (.int 63 u)) Q E s := and_int (by rw [bitAnd_m6]; exact h)
theorem andFFFF (h : Q (.int (a % 65536) s.toks) { s with toks := s.toks + 1 }) : wpAny (model prog w) A (binaryOp .BitAnd (.int a t) (.int 65535 u)) Q E s := and_int (by rw [bitAnd_m16]; exact h)
theorem shlC {n c : Int} {k : Nat} (hn : n = k) (hk : k ≤ 100) (hc : (2 : Int) ^ k = c) (h0 : 0 ≤ a) (h1 : a < 1000000) (h : Q (.int (a * c) s.toks) { s with toks := s.toks + 1 }) : wpAny (model prog w) A (binaryOp .LShift (.int a t) (.int n u)) Q E s := by
  subst hn
  refine lshift_int_small (by omega) (by omega) (by omega) ?_
  rw [Int.toNat_natCast, hc]
  exact h
theorem shrC {n c : Int} {k : Nat} (hn : n = k) (hc : (2 : Int) ^ k = c) (h : Q (.int (a / c) s.toks) { s with toks := s.toks + 1 }) : wpAny (model prog w) A (binaryOp .RShift (.int a t) (.int n u)) Q E s := by
  subst hn
  refine rshift_int (by omega) ?_
  rw [Int.toNat_natCast, Int.fdiv_eq_ediv_of_nonneg _ (Int.le_of_lt (kbt_pos k)), hc]
  exact h
theorem bitOr_nat {x y : Int} (hx : 0 ≤ x) (hy : 0 ≤ y) : Builtin.bitOr x y = ((x.toNat ||| y.toNat : Nat) : Int) := by
  have e1 : Builtin.bitNot x = -x - 1 := rfl
  have e2 : Builtin.bitNot y = -y - 1 := rfl
  have d1 : decide (0 ≤ -x - 1) = false := by simp; omega
  have d2 : decide (0 ≤ -y - 1) = false := by simp; omega
  unfold Builtin.bitOr Builtin.bitAnd
  rw [e1, e2, d1, d2]
  have e3 : Builtin.bitNot (-x - 1) = x := by show -(-x - 1) - 1 = x; omega
  have e4 : Builtin.bitNot (-y - 1) = y := by show -(-y - 1) - 1 = y; omega
  rw [e3, e4]
  show - (-((x.toNat ||| y.toNat : Nat) : Int) - 1) - 1 = _
  omega
theorem bitOr_add {x y : Int} (k : Nat) (hx : 0 ≤ x) (hy : 0 ≤ y) (h1 : y < 2 ^ k) : Builtin.bitOr (x * 2 ^ k) y = x * 2 ^ k + y := by
  have hp := kbt_pos k
  rw [bitOr_nat (Int.mul_nonneg hx (Int.le_of_lt hp)) hy]
  obtain ⟨n, rfl⟩ := Int.eq_ofNat_of_zero_le hx
  obtain ⟨m, rfl⟩ := Int.eq_ofNat_of_zero_le hy
  have e : ((n : Int) * 2 ^ k).toNat = 2 ^ k * n := by
    rw [show ((n : Int) * 2 ^ k) = ((2 ^ k * n : Nat) : Int) by rw [Int.natCast_mul, kbt_cast, Int.mul_comm], Int.toNat_natCast]
  have hm : m < 2 ^ k := by
    have : ((m : Nat) : Int) < ((2 ^ k : Nat) : Int) := by rw [kbt_cast]; exact h1
    exact Int.ofNat_lt.mp this
  rw [e, Int.toNat_natCast, ← Nat.two_pow_add_eq_or_of_lt hm, Int.natCast_add, Int.natCast_mul, kbt_cast, Int.mul_comm]
theorem orC {c : Int} (k : Nat) (hc : (2 : Int) ^ k = c) (h0 : 0 ≤ a) (h1 : 0 ≤ b) (h2 : b < c) (h : Q (.int (a * c + b) s.toks) { s with toks := s.toks + 1 }) : wpAny (model prog w) A (binaryOp .BitOr (.int (a * c) t) (.int b u)) Q E s := by
  subst hc
  refine or_int ?_
  rw [bitOr_add k h0 h1 h2]
  exact h
end
end
end Mine
set_option maxRecDepth 100000
namespace Mine
section
theorem tab_size {b c : Array UInt8} : (mkTab b c).size = 256 := by
  unfold mkTab
  have key : ∀ (l : List (UInt8 × UInt8)) (a : Array UInt8), (l.foldl (fun t (p : UInt8 × UInt8) => t.setIfInBounds p.1.toNat p.2) a).size = a.size := by
    intro l
    induction l with
    | nil => intro a; rfl
    | cons p l ih => intro a; rw [List.foldl_cons, ih]; simp
  refine (key _ _).trans ?_
  simp
theorem alt_size {alt : Array UInt8} {a0 a1 : Int} (h : KBw.bInts alt = [a0, a1]) : alt.size = 2 := by
  have := KBw.ints_length alt
  rw [h] at this
  simpa using this.symm
theorem enc_size {o : List Int} (h : o.length ≤ 16777216) : (byteArr o).size ≤ sizeLine := by rw [byteArr_size, sizeLine_eq]; exact h
theorem bInts_inj {b : Array UInt8} {ns : List Int} (h : KBw.bInts b = ns) : b = byteArr ns := by
  subst h
  apply Array.ext'
  show b.toList = ((b.toList.map fun c => ((c.toNat : Nat) : Int)).map fun n => n.toNat.toUInt8)
  rw [List.map_map]
  conv => lhs; rw [← List.map_id b.toList]
  refine List.map_congr_left fun c _ => ?_
  simp
theorem mkTab_get (f0 f1 t0 t1 c : UInt8) : (mkTab #[f0, f1] #[t0, t1]).getD c.toNat c = if c = f1 then t1 else if c = f0 then t0 else c := by
  have hlt : ∀ x : UInt8, x.toNat < 256 := fun x => x.toNat_lt
  have e : mkTab #[f0, f1] #[t0, t1] = (((Array.range 256).map (·.toUInt8)).setIfInBounds f0.toNat t0).setIfInBounds f1.toNat t1 := rfl
  have hne : ∀ {x y : UInt8}, x ≠ y → x.toNat ≠ y.toNat := fun h e => h (UInt8.toNat_inj.mp e)
  rw [e, Array.getD_eq_getD_getElem?, Array.getElem?_setIfInBounds]
  by_cases h1 : c = f1
  · subst h1
    rw [if_pos rfl, if_pos rfl, if_pos (by simp; exact hlt c)]
    rfl
  · rw [if_neg (fun e => h1 (UInt8.toNat_inj.mp e.symm)), if_neg h1, Array.getElem?_setIfInBounds]
    by_cases h0 : c = f0
    · subst h0
      rw [if_pos rfl, if_pos rfl, if_pos (by simp; exact hlt c)]
      rfl
    · rw [if_neg (fun e => h0 (UInt8.toNat_inj.mp e.symm)), if_neg h0]
      rw [Array.getElem?_map, Array.getElem?_range]
      simp [hlt c]
def trC (f0 f1 t0 t1 x : Int) : Int := if x = f1 then t1 else if x = f0 then t0 else x
theorem u8_inj {x y : Int} (hx : 0 ≤ x ∧ x < 256) (hy : 0 ≤ y ∧ y < 256) : x.toNat.toUInt8 = y.toNat.toUInt8 ↔ x = y := by
  constructor
  · intro h
    have := congrArg UInt8.toNat h
    have e1 : (x.toNat.toUInt8).toNat = x.toNat := by show (UInt8.ofNat x.toNat).toNat = _; rw [UInt8.toNat_ofNat']; omega
    have e2 : (y.toNat.toUInt8).toNat = y.toNat := by show (UInt8.ofNat y.toNat).toNat = _; rw [UInt8.toNat_ofNat']; omega
    rw [e1, e2] at this
    omega
  · intro h; rw [h]
theorem trAll_eq {X : List Int} {f0 f1 t0 t1 : Int} (hX : KBa.In X) (hf : KBa.In [f0, f1]) (ht : KBa.In [t0, t1]) :
    trAll (byteArr X) (mkTab (byteArr [f0, f1]) (byteArr [t0, t1])) = byteArr (X.map (trC f0 f1 t0 t1)) := by
  unfold trAll byteArr
  apply Array.ext'
  simp only [List.map_toArray, List.map_map, List.map_cons, List.map_nil]
  refine List.map_congr_left fun x hx => ?_
  show (mkTab #[f0.toNat.toUInt8, f1.toNat.toUInt8] #[t0.toNat.toUInt8, t1.toNat.toUInt8]).getD (x.toNat.toUInt8).toNat (x.toNat.toUInt8) = (trC f0 f1 t0 t1 x).toNat.toUInt8
  rw [mkTab_get]
  unfold trC
  have h0 := u8_inj (hX x hx) (hf f0 (by simp))
  have h1 := u8_inj (hX x hx) (hf f1 (by simp))
  by_cases e1 : x = f1
  · rw [if_pos e1, if_pos (h1.mpr e1)]
  · rw [if_neg e1, if_neg (fun e => e1 (h1.mp e))]
    by_cases e0 : x = f0
    · rw [if_pos e0, if_pos (h0.mpr e0)]
    · rw [if_neg e0, if_neg (fun e => e0 (h0.mp e))]
end
end Mine
namespace Mine
section
def encStep (st : List Int × Int × Int) (b : Int) : List Int × Int × Int :=
  if st.2.1 = 0 then (st.1 ++ [chB ((st.2.2 * 256 + b) % 65536 / 4 % 64)], 2, (st.2.2 * 256 + b) % 65536)
  else if st.2.1 = 2 then (st.1 ++ [chB ((st.2.2 * 256 + b) % 65536 / 16 % 64)], 4, (st.2.2 * 256 + b) % 65536)
  else (st.1 ++ [chB ((st.2.2 * 256 + b) % 65536 / 64 % 64)] ++ [chB ((st.2.2 * 256 + b) % 65536 / 1 % 64)], 0, (st.2.2 * 256 + b) % 65536)
def encRun (ns : List Int) : List Int × Int × Int := ns.foldl encStep ([], 0, 0)
theorem encRun_snoc (pre : List Int) (n : Int) : encRun (pre ++ [n]) = encStep (encRun pre) n := by unfold encRun; rw [List.foldl_append]; rfl
def encEnd (st : List Int × Int × Int) : List Int :=
  if st.2.1 = 2 then st.1 ++ [chB (st.2.2 % 4 * 16)] ++ [61] ++ [61]
  else if st.2.1 = 4 then st.1 ++ [chB (st.2.2 % 16 * 4)] ++ [61]
  else st.1
def encL (ns : List Int) : List Int := encEnd (encRun ns)
structure EncS (pre o : List Int) (lb lc : Int) : Prop where
  run : encRun pre = (o, lb, lc)
structure EncW (pre o : List Int) (lb lc : Int) : Prop where
  st : EncS pre o lb lc
  room : lb = 0 ∨ lb = 2 ∨ lb = 4
theorem EncW.start : EncW [] [] 0 0 ∧ ([] : List Int).length ≤ 2 * ([] : List Int).length ∧ KBa.In [] ∧ (0 : Int) ≤ 0 ∧ (0 : Int) < 65536 := ⟨⟨⟨rfl⟩, by omega⟩, by simp, fun _ h => (by cases h), by omega, by omega⟩
theorem EncW.fork {pre o : List Int} {lb lc : Int} (W : EncW pre o lb lc) : (lb = 0 ∧ EncS pre o lb lc) ∨ (lb = 2 ∧ EncS pre o lb lc) ∨ (lb = 4 ∧ EncS pre o lb lc) := by
  rcases W.room with e | e | e
  · exact .inl ⟨e, W.st⟩
  · exact .inr (.inl ⟨e, W.st⟩)
  · exact .inr (.inr ⟨e, W.st⟩)
theorem in_snoc {o : List Int} {x : Int} (h : KBa.In o) (h0 : 0 ≤ x) (h1 : x < 256) : KBa.In (o ++ [x]) := by
  intro y hy
  rcases List.mem_append.mp hy with hm | hm
  · exact h y hm
  · rw [List.mem_singleton.mp hm]; exact ⟨h0, h1⟩
theorem in_ch {o : List Int} {x : Int} (h : KBa.In o) (h0 : 0 ≤ x) (h1 : x < 64) : KBa.In (o ++ [chB x]) := in_snoc h (chB_in h0 h1).1 (by have := (chB_in h0 h1).2; omega)
theorem EncW.next0 {pre o : List Int} {n lc : Int} (S : EncS pre o 0 lc) (hl : o.length ≤ 2 * pre.length) (hin : KBa.In o) :
    EncW (pre ++ [n]) (o ++ [chB ((lc * 256 + n) % 65536 / 4 % 64)]) (0 + 8 - 6) ((lc * 256 + n) % 65536) ∧ (o ++ [chB ((lc * 256 + n) % 65536 / 4 % 64)]).length ≤ 2 * (pre ++ [n]).length ∧
      KBa.In (o ++ [chB ((lc * 256 + n) % 65536 / 4 % 64)]) ∧ 0 ≤ (lc * 256 + n) % 65536 ∧ (lc * 256 + n) % 65536 < 65536 := by
  refine ⟨⟨⟨?_⟩, by omega⟩, by simp; omega, in_ch hin (by omega) (by omega), by omega, by omega⟩
  rw [encRun_snoc, S.run]; rfl
theorem EncW.next2 {pre o : List Int} {n lc : Int} (S : EncS pre o 2 lc) (hl : o.length ≤ 2 * pre.length) (hin : KBa.In o) :
    EncW (pre ++ [n]) (o ++ [chB ((lc * 256 + n) % 65536 / 16 % 64)]) (2 + 8 - 6) ((lc * 256 + n) % 65536) ∧ (o ++ [chB ((lc * 256 + n) % 65536 / 16 % 64)]).length ≤ 2 * (pre ++ [n]).length ∧
      KBa.In (o ++ [chB ((lc * 256 + n) % 65536 / 16 % 64)]) ∧ 0 ≤ (lc * 256 + n) % 65536 ∧ (lc * 256 + n) % 65536 < 65536 := by
  refine ⟨⟨⟨?_⟩, by omega⟩, by simp; omega, in_ch hin (by omega) (by omega), by omega, by omega⟩
  rw [encRun_snoc, S.run]; rfl
theorem EncW.next4 {pre o : List Int} {n lc : Int} (S : EncS pre o 4 lc) (hl : o.length ≤ 2 * pre.length) (hin : KBa.In o) :
    EncW (pre ++ [n]) (o ++ [chB ((lc * 256 + n) % 65536 / 64 % 64)] ++ [chB ((lc * 256 + n) % 65536 / 1 % 64)]) (4 + 8 - 6 - 6) ((lc * 256 + n) % 65536) ∧ (o ++ [chB ((lc * 256 + n) % 65536 / 64 % 64)] ++ [chB ((lc * 256 + n) % 65536 / 1 % 64)]).length ≤ 2 * (pre ++ [n]).length ∧
      KBa.In (o ++ [chB ((lc * 256 + n) % 65536 / 64 % 64)] ++ [chB ((lc * 256 + n) % 65536 / 1 % 64)]) ∧ 0 ≤ (lc * 256 + n) % 65536 ∧ (lc * 256 + n) % 65536 < 65536 := by
  refine ⟨⟨⟨?_⟩, by omega⟩, by simp; omega, in_ch (in_ch hin (by omega) (by omega)) (by omega) (by omega), by omega, by omega⟩
  rw [encRun_snoc, S.run]; rfl
local macro_rules | `(tactic| walk_at "execs cons") => `(tactic| (k_here; (with_reducible rename (_ = _ ++ _ :: _) => kq'); (with_reducible rename EncW _ _ _ _ => hW'); obtain ⟨e', hS'⟩ | ⟨e', hS'⟩ | ⟨e', hS'⟩ := EncW.fork hW' <;> subst e' <;> clear hW'))
local macro_rules | `(tactic| walk_at "call type:type") => `(tactic| (k_here; (with_reducible show wpAny _ _ (call _ [Value.bytes _ _]) _ _ _); refine call_type_of (Tx := "bytes") (typeIs_bytes _ _ _) (by decide +kernel) ?_))
local macro_rules | `(tactic| kba_ints) => `(tactic| with_reducible assumption)
local macro_rules | `(tactic| walk_at "pyIter bytes") => `(tactic| ((k_extra "pyIter bytes")))
local macro_rules | `(tactic| walk_at "binaryOp BitAnd int int") => `(tactic| (k_here; first | refine and3 ?_ | refine and15 ?_ | refine and63 ?_ | refine andFFFF ?_))
local macro_rules | `(tactic| walk_at "binaryOp LShift int int") => `(tactic| (k_here; first
  | (with_reducible refine shlC (k := 2) (c := 4) (by with_unfolding_all rfl) (by decide) (by decide) (by omega) (by omega) ?_)
  | (with_reducible refine shlC (k := 4) (c := 16) (by with_unfolding_all rfl) (by decide) (by decide) (by omega) (by omega) ?_)
  | (with_reducible refine shlC (k := 6) (c := 64) (by with_unfolding_all rfl) (by decide) (by decide) (by omega) (by omega) ?_)
  | (with_reducible refine shlC (k := 8) (c := 256) (by with_unfolding_all rfl) (by decide) (by decide) (by omega) (by omega) ?_)))
local macro_rules | `(tactic| walk_at "binaryOp RShift int int") => `(tactic| (k_here; first
  | (with_reducible refine shrC (k := 0) (c := 1) (by decide) (by decide) ?_)
  | (with_reducible refine shrC (k := 2) (c := 4) (by decide) (by decide) ?_)
  | (with_reducible refine shrC (k := 4) (c := 16) (by decide) (by decide) ?_)
  | (with_reducible refine shrC (k := 6) (c := 64) (by decide) (by decide) ?_)))
local macro_rules | `(tactic| walk_at "binaryOp BitOr int int") => `(tactic| (k_here; first
  | (with_reducible refine orC (c := 4) 2 (by decide) (by omega) (by omega) (by omega) ?_)
  | (with_reducible refine orC (c := 16) 4 (by decide) (by omega) (by omega) (by omega) ?_)
  | (with_reducible refine orC (c := 64) 6 (by decide) (by omega) (by omega) (by omega) ?_)
  | (with_reducible refine orC (c := 256) 8 (by decide) (by omega) (by omega) (by omega) ?_)))
local macro_rules | `(tactic| walk_at "subscriptTail") => `(tactic| (k_here; (with_reducible show wpAny _ _ (subscriptTail _ _ (Value.bytes _ _) (Value.int _ _)) _ _ _); (refine b64_item (by with_unfolding_all rfl) (by omega) (by omega) ?_); intro tI' kI'))
local macro_rules | `(tactic| kbe_in) => `(tactic| first | assumption | exact in_ch (by kbe_in) (by omega) (by omega) | exact in_snoc (by kbe_in) (by omega) (by omega))
local macro_rules | `(tactic| walk_at "getMethod bytes") => `(tactic| (k_here; (with_reducible refine method_tr ?_)))
theorem meta_bytes : typeOf (.type "bytes") = pure (.type "type") := by first | rfl | kernel_rfl | (unfold typeOf; kernel_rfl)
local macro_rules | `(tactic| walk_at "getMethod type:bytes") => `(tactic| (k_here; (refine' method_type ?F ?X ?m (by decide +kernel) ?e ?h ?_; (case F => k_asm); (case X => k_asm); (case m => exact meta_bytes); (case e => k_dflt k_is); (case h => k_handed))))
local macro_rules | `(tactic| walk_at "call builtin:bytes.maketrans") => `(tactic| (k_here; (refine maketrans (alt_size (by assumption)).symm (by rw [tab_size]; decide) ?_); intro tM' kM'))
local macro_rules | `(tactic| walk_at "call builtin:bytes.translate") => `(tactic| (k_here; (refine translate tab_size (enc_size (by kba_size)) ?_); intro tM' kM'))
local macro_rules | `(tactic| walk_at "call builtin:repr") => `(tactic| (exfalso; (simp only [List.length_cons, List.length_nil] at *); omega))
local macro_rules | `(tactic| walk_at "call type:bytes") => `(tactic| (k_here; (with_reducible show wpAny _ _ (call (Value.type "bytes") [Value.ref _]) _ _ _); (rename News _ _ _ _ => nE'); (try simp only [List.push_toArray] at nE'); k_dflt (refine' KBa.make_K ?kbaF nE' ?kbah ?kbal ?kbai ?kbar ?kban ?_; (case kbaF => k_asm); (case kbah => rfl); (case kbal => exact News.isList nE' (by k_mem)); (case kbai => k_intsEnd); (case kbar => kbe_in); (case kban => kba_size)); intro _ _ _ F' N' kbaIn))
theorem enc_fin2 {ns o : List Int} {lb lc : Int} (W : EncW ns o lb lc) (h : lb = 2) : o ++ [chB (lc % 4 * 16)] ++ [61] ++ [61] = encL ns := by
  unfold encL encEnd; rw [W.st.run]; dsimp only; rw [if_pos h]
theorem enc_fin4 {ns o : List Int} {lb lc : Int} (W : EncW ns o lb lc) (h : lb = 4) : o ++ [chB (lc % 16 * 4)] ++ [61] = encL ns := by
  unfold encL encEnd; rw [W.st.run]; dsimp only; rw [if_neg (by omega), if_pos h]
theorem enc_fin0 {ns o : List Int} {lb lc : Int} (W : EncW ns o lb lc) (h2 : ¬ lb = 2) (h4 : ¬ lb = 4) : o = encL ns := by
  unfold encL encEnd; rw [W.st.run]; dsimp only; rw [if_neg h2, if_neg h4]
theorem enc_done {ns X : List Int} {alt : Array UInt8} {a0 a1 : Int} (hX : KBa.In X) (e : X = encL ns) (halt : KBw.bInts alt = [a0, a1]) (ha0 : 0 ≤ a0 ∧ a0 < 128) (ha1 : 0 ≤ a1 ∧ a1 < 128) :
    trAll (byteArr X) (mkTab #[43, 47] alt) = byteArr ((encL ns).map (trC 43 47 a0 a1)) := by
  subst e
  rw [bInts_inj halt]
  refine trAll_eq (f0 := 43) (f1 := 47) hX (by intro x hx; simp at hx; omega) ?_
  intro x hx
  simp at hx
  rcases hx with rfl | rfl <;> omega
set_option maxRecDepth 100000 in
set_option maxHeartbeats 8000000 in
theorem encode_spec {w : World} {p : Program} {loose : List Str} {mean : ExcName → Option Value} {mg mb : Str → Option Value} {base h₀ : Heap} {LL fa c : Addr} {cn : Str} {cs : Scope} {m : Str → Option Value} {s : Shared} {Q E : Value → Shared → Prop} {b alt : Array UInt8} {ns : List Int} {a0 a1 : Int} {t u : Tok}
    (hb : KBw.bInts b = ns) (halt : KBw.bInts alt = [a0, a1]) (ha0 : 0 ≤ a0 ∧ a0 < 128) (ha1 : 0 ≤ a1 ∧ a1 < 128) (hlen : ns.length ≤ 1000) (hcs : cs.kind = .function) (B : Below callerA base [] h₀) (F : Fr h₀ LL s.heap m) (X : (hd.heap_39 w.params).In h₀) (T : Top p loose mean mg mb h₀)
    (k : ∀ t h' tk', Fr h₀ LL h' m → s.heap.StaysIn h' → Q (.bytes (byteArr ((encL ns).map (trC 43 47 a0 a1))) t) { s with heap := h', toks := tk' }) :
    wpAny (model Challenge.rw_qh0088_01.row.prog w) (callerA.deeper (envOf cn cs LL fa (.ref c))) (call (.ref 102) [.bytes b t, .bytes alt u]) Q E s := by
  k_with_none
  w_top off
  revert X; k_fill; intro X
  have hI0 : IntsAre ([] : List Value) ([] : List Int) := IntsAre.nil
  k_with "pyIter bytes" => k_state (fun pre o lb lc => EncW pre o lb lc ∧ o.length ≤ 2 * pre.length ∧ KBa.In o ∧ 0 ≤ lc ∧ lc < 65536) "out" "leftbits" "leftchar"
  k_with "state" => first | exact EncW.start | exact EncW.next0 (by assumption) (by assumption) (by assumption) | exact EncW.next2 (by assumption) (by assumption) (by assumption) | exact EncW.next4 (by assumption) (by assumption) (by assumption)
  w_strict (
    k_dflt (refine' call_cutR k ?k1 ?k2 ?k3 ?k5 ?kA ?kF ?kK ?k6 ?k7 ?k8 ?k9 ?kB ?_ ?c2 ?c3 ?c4 ?c5; (case kA => exact rfl); (case kF => exact rfl); (case kK => assumption); (case k1 => k_asm); (case k2 => k_asm); (case k3 => k_asm); (case k5 => k_asm); (case k6 => k_is); (case k7 => k_is); (case k8 => ktr_room); (case k9 => first | exact BindsTo.of_eq rfl | exact binds_K (by k_in) rfl (by k_is) rfl rfl rfl); (case c5 => decide); (case kB => exact locs rfl); (case c2 => exact rfl); (case c3 => exact rfl); (case c4 => exact rfl); k_whole)
    clear k B F X T
    intro L' h' tk0 htk0 F' N' B' X' T'
    (try dsimp only)
    (try k_lift B')
    (try k_fold)
    k_steps
    all_goals (rename EncW _ _ _ _ => hW; first | exact done_ret (by assumption) (by rw [enc_done (by assumption) (enc_fin2 hW (by assumption)) halt ha0 ha1]) rfl | exact done_ret (by assumption) (by rw [enc_done (by assumption) (enc_fin4 hW (by assumption)) halt ha0 ha1]) rfl | exact done_ret (by assumption) (by rw [enc_done (by assumption) (enc_fin0 hW (by assumption) (by assumption)) halt ha0 ha1]) rfl))
end
end Mine
namespace Mine
section
def padL (n : Nat) : List Int := if n % 4 = 2 then [61, 61] else if n % 4 = 3 then [61] else []
def encF (fs : List Int) : List Int := fs.map chB ++ padL fs.length
section
variable {prog : Program} {w : World} {A : Around} {E : Value → Shared → Prop} {s : Shared} {t u : Tok} {Q : Value → Shared → Prop}
theorem encode_to {cs : List Int} (h0 : ∀ n ∈ cs, 0 ≤ n ∧ n < 128) (hl : cs.length ≤ 10000) (h : ∀ t' k, Q (.bytes (byteArr cs) t') { s with toks := k }) :
    wpAny (model prog w) A (call (.builtin "str.encode") [.str (strOf cs) t, .str (PySem.Str.ofString "ascii") u]) Q E s := by
  refine encodeA ?_ ?_ ?_
  · intro c hc
    obtain ⟨n, hn, rfl⟩ := List.mem_map.mp (show c ∈ cs.map Int.toNat by simpa [strOf] using hc)
    have := h0 n hn
    omega
  · rw [strOf_length, sizeLine_eq]; omega
  · have e : (strOf cs).cps.map (·.toUInt8) = byteArr cs := by
      apply Array.ext'
      simp [strOf, byteArr]
    rw [e]
    exact h
theorem translate_to {X Y : List Int} {f0 f1 : Int} {alt : Array UInt8} (halt : KBw.bInts alt = [f0, f1]) (hX : ∀ n ∈ X, 0 ≤ n ∧ n < 128) (hf : KBa.In [f0, f1]) (hY : X.map (trC f0 f1 43 47) = Y) (hl : X.length ≤ 10000)
    (h : ∀ t' k, Q (.bytes (byteArr Y) t') { s with toks := k }) : wpAny (model prog w) A (call (.builtin "bytes.translate") [.bytes (byteArr X) t, .bytes (mkTab alt #[43, 47]) u]) Q E s := by
  refine translate tab_size (enc_size (by omega)) ?_
  have e : trAll (byteArr X) (mkTab alt #[43, 47]) = byteArr Y := by
    rw [bInts_inj halt, ← hY]
    exact trAll_eq (t0 := 43) (t1 := 47) (fun n hn => by have := hX n hn; omega) hf (by intro x hx; simp at hx; omega)
  rw [e]
  exact h
theorem method_enc {M : Model} {x : Str} {pl : Sem Bool} {Q : Value × List Value → Shared → Prop} (h : Q (.builtin "str.encode", [.str x t]) s) : wpAny M A (getMethod (.str x t) "encode" pl) Q E s := by
  with_reducible exact GM.of (.str x t) (typeIs_str _ _ _) F.slot_str_encode F.type_str_encode GM.noRef h
end
def bval (c : Int) : Int := if 65 ≤ c ∧ c ≤ 90 then c - 65 else if 97 ≤ c ∧ c ≤ 122 then c - 71 else if 48 ≤ c ∧ c ≤ 57 then c + 4 else if c = 43 then 62 else if c = 47 then 63 else 64
theorem bval_ch {f : Int} (h0 : 0 ≤ f) (h1 : f < 64) : bval (chB f) = f := by
  have h : ∀ i : Fin 64, bval (b64L.getD i.val 0) = (i.val : Int) := by decide +kernel
  have := h ⟨f.toNat, by omega⟩
  unfold chB
  rw [this]
  show ((f.toNat : Nat) : Int) = f
  omega
theorem chB_ne {f : Int} (h0 : 0 ≤ f) (h1 : f < 64) : chB f ≠ 61 := chB_all (P := fun c => c ≠ 61) (by decide +kernel) h0 h1
def decStep (st : List Int × Int × Int) (f : Int) : List Int × Int × Int :=
  if st.2.1 = 0 then (st.1, 1, f)
  else if st.2.1 = 1 then (st.1 ++ [st.2.2 * 4 + f / 16], 2, f % 16)
  else if st.2.1 = 2 then (st.1 ++ [st.2.2 * 16 + f / 4], 3, f % 4)
  else (st.1 ++ [st.2.2 * 64 + f], 0, 0)
def decRun (fs : List Int) : List Int × Int × Int := fs.foldl decStep ([], 0, 0)
theorem decRun_snoc (pre : List Int) (n : Int) : decRun (pre ++ [n]) = decStep (decRun pre) n := by unfold decRun; rw [List.foldl_append]; rfl
structure DecW (fs pre o : List Int) (qp lc pads : Int) : Prop where
  run : decRun (fs.take pre.length) = (o, qp, lc)
  pos : qp = (((fs.take pre.length).length % 4 : Nat) : Int)
  pad : pads = ((pre.length - fs.length : Nat) : Int)
  lo : 0 ≤ lc
  hi : (qp = 0 → lc = 0) ∧ (qp = 1 → lc < 64) ∧ (qp = 2 → lc < 16) ∧ (qp = 3 → lc < 4)
theorem DecW.start {fs : List Int} : DecW fs [] [] 0 0 0 ∧ ([] : List Int).length ≤ ([] : List Int).length ∧ KBa.In [] :=
  ⟨⟨rfl, by simp, by simp, by omega, by omega⟩, by simp, fun _ h => (by cases h)⟩
theorem DecW.fin {fs o : List Int} {qp lc pads : Int} (W : DecW fs (encF fs) o qp lc pads) (hfl : fs.length % 4 ≠ 1) : (qp = 0 ∧ pads = 0) ∨ (qp = 2 ∧ pads = 2) ∨ (qp = 3 ∧ pads = 1) := by
  have h1 := W.pos
  have h2 := W.pad
  have hel : (encF fs).length = fs.length + (padL fs.length).length := by unfold encF; simp
  have hpl : (padL fs.length).length = if fs.length % 4 = 2 then 2 else if fs.length % 4 = 3 then 1 else 0 := by
    unfold padL
    split
    · rfl
    · split <;> rfl
  rw [List.length_take] at h1
  rw [hpl] at hel
  split at hel
  · omega
  · split at hel <;> omega
structure DecE (fs o : List Int) : Prop where
  run : ∃ qp lc, decRun fs = (o, qp, lc)
def ODrel (a b : List Int × Int × Int) : Prop := a.1 = b.1 ∧ 0 ≤ a.2.1 ∧ a.2.1 < a.2.2 ∧ a.2.1 = b.2.2 ∧ ((a.2.2 = 1 ∧ b.2.1 = 0) ∨ (a.2.2 = 64 ∧ b.2.1 = 1) ∨ (a.2.2 = 16 ∧ b.2.1 = 2) ∨ (a.2.2 = 4 ∧ b.2.1 = 3))
theorem ODrel.step {a b : List Int × Int × Int} {f : Int} (h : ODrel a b) (h0 : 0 ≤ f) (h1 : f < 64) : ODrel (octStep a f) (decStep b f) := by
  obtain ⟨o, h', r⟩ := a
  obtain ⟨o', qp, lc⟩ := b
  obtain ⟨e1, e2, e3, e4, e5⟩ := h
  dsimp only at e1 e2 e3 e4 e5
  subst e1 e4
  unfold octStep decStep
  rcases e5 with ⟨rfl, rfl⟩ | ⟨rfl, rfl⟩ | ⟨rfl, rfl⟩ | ⟨rfl, rfl⟩
  · have : h' = 0 := by omega
    subst this
    exact ⟨rfl, by dsimp only; simp; omega, by dsimp only; simp; omega, by dsimp only; simp, .inr (.inl ⟨by simp, by simp⟩)⟩
  · refine ⟨?_, ?_, ?_, ?_, .inr (.inr (.inl ⟨by simp, by simp⟩))⟩
    · show o ++ [(h' * 64 + f) / 16] = o ++ [h' * 4 + f / 16]
      congr 2; omega
    · show 0 ≤ (h' * 64 + f) % 16
      omega
    · show (h' * 64 + f) % 16 < 16
      omega
    · show (h' * 64 + f) % 16 = f % 16
      omega
  · refine ⟨?_, ?_, ?_, ?_, .inr (.inr (.inr ⟨by simp, by simp⟩))⟩
    · show o ++ [(h' * 64 + f) / 4] = o ++ [h' * 16 + f / 4]
      congr 2; omega
    · show 0 ≤ (h' * 64 + f) % 4
      omega
    · show (h' * 64 + f) % 4 < 4
      omega
    · show (h' * 64 + f) % 4 = f % 4
      omega
  · refine ⟨?_, ?_, ?_, ?_, .inl ⟨by simp, by simp⟩⟩
    · show o ++ [(h' * 64 + f) / 1] = o ++ [h' * 64 + f]
      congr 2; omega
    · show 0 ≤ (h' * 64 + f) % 1
      omega
    · show (h' * 64 + f) % 1 < 1
      omega
    · show (h' * 64 + f) % 1 = 0
      omega
theorem ODrel.run : ∀ (fs : List Int) (a b : List Int × Int × Int), Figs fs → ODrel a b → ODrel (fs.foldl octStep a) (fs.foldl decStep b)
  | [], _, _, _, h => h
  | f :: r, a, b, hf, h => by
    have h1 := hf f (List.mem_cons_self ..)
    exact ODrel.run r _ _ (fun n hn => hf n (List.mem_cons_of_mem _ hn)) (h.step h1.1 h1.2)
theorem dec_oct {fs : List Int} (hf : Figs fs) : (decRun fs).1 = octL fs :=
  (ODrel.run fs ([], 0, 1) ([], 0, 0) hf ⟨rfl, by decide, by decide, rfl, .inl ⟨rfl, rfl⟩⟩).1.symm
theorem DecE.eq {fs o : List Int} (h : DecE fs o) (hf : Figs fs) : o = octL fs := by
  obtain ⟨qp, lc, e⟩ := h.run
  rw [← dec_oct hf, e]
theorem DecW.out {fs o : List Int} {qp lc pads : Int} (W : DecW fs (encF fs) o qp lc pads) : DecE fs o := by
  have e : fs.take (encF fs).length = fs := List.take_of_length_le (by unfold encF; simp)
  have h := W.run
  rw [e] at h
  exact ⟨qp, lc, h⟩
structure DecA (fs pre o : List Int) (qp lc f : Int) : Prop where
  run : decRun (fs.take pre.length) = (o, qp, lc)
  pos : qp = (((fs.take pre.length).length % 4 : Nat) : Int)
  next : fs.take (pre.length + 1) = fs.take pre.length ++ [f]
  short : pre.length < fs.length
  flo : 0 ≤ f
  fhi : f < 64
  lo : 0 ≤ lc
  hi : (qp = 0 → lc = 0) ∧ (qp = 1 → lc < 64) ∧ (qp = 2 → lc < 16) ∧ (qp = 3 → lc < 4)
structure DecB (fs pre o : List Int) (qp lc pads : Int) : Prop where
  w : DecW fs pre o qp lc pads
  over : fs.length ≤ pre.length
  two : 2 ≤ qp
  three : qp ≤ 3
  room : qp + (pads + 1) ≤ 4
  plo : 0 ≤ pads
theorem padL_mem {n : Nat} {x : Int} (h : x ∈ padL n) : x = 61 := by
  unfold padL at h
  split at h
  · simp at h; exact h
  · split at h
    · simp at h; exact h
    · cases h
theorem padL_len (n : Nat) : (padL n).length = if n % 4 = 2 then 2 else if n % 4 = 3 then 1 else 0 := by
  unfold padL
  split
  · rfl
  · split <;> rfl
theorem encF_in {fs : List Int} (hf : Figs fs) : KBa.In (encF fs) := by
  intro x hx
  unfold encF at hx
  rcases List.mem_append.mp hx with hx | hx
  · obtain ⟨f, hm, rfl⟩ := List.mem_map.mp hx
    have h1 := hf f hm
    have := chB_in h1.1 h1.2
    omega
  · rw [padL_mem hx]; omega
theorem mid_get {l pre post : List Int} {n : Int} (e : l = pre ++ n :: post) : l[pre.length]? = some n := by rw [e]; simp
theorem DecW.fork {fs pre post o : List Int} {n qp lc pads : Int} (W : DecW fs pre o qp lc pads) (hfs : Figs fs) (e : encF fs = pre ++ n :: post) :
    (∃ f, (qp = 0 ∨ qp = 1 ∨ qp = 2 ∨ qp = 3) ∧ pads = 0 ∧ n = chB f ∧ DecA fs pre o qp lc f) ∨ (n = 61 ∧ DecB fs pre o qp lc pads) := by
  have hm := mid_get e
  have hln : (encF fs).length = pre.length + (post.length + 1) := by rw [e]; simp
  have hel : (encF fs).length = fs.length + (padL fs.length).length := by unfold encF; simp
  rw [padL_len] at hel
  have hpos := W.pos
  have hpad := W.pad
  by_cases hs : pre.length < fs.length
  · left
    have hg : fs[pre.length]? = some fs[pre.length] := List.getElem?_eq_getElem hs
    have hn : chB fs[pre.length] = n := by
      unfold encF at hm
      rw [List.getElem?_append_left (by simpa using hs), List.getElem?_map, hg] at hm
      simpa using hm
    have hf := hfs _ (List.getElem_mem hs)
    refine ⟨fs[pre.length], by omega, by omega, hn.symm, ⟨W.run, W.pos, ?_, hs, hf.1, hf.2, W.lo, W.hi⟩⟩
    rw [List.take_add_one, hg]; rfl
  · right
    have hn : n = 61 := by
      unfold encF at hm
      rw [List.getElem?_append_right (by simpa using Nat.le_of_not_lt hs)] at hm
      exact padL_mem (List.mem_of_getElem? hm)
    have ht : (fs.take pre.length).length = fs.length := by rw [List.length_take]; omega
    rw [ht] at hpos
    refine ⟨hn, W, by omega, ?_, ?_, ?_, by omega⟩
    · split at hel
      · omega
      · split at hel <;> omega
    · omega
    · split at hel
      · omega
      · split at hel <;> omega
theorem DecA.next0 {fs pre o : List Int} {lc f n : Int} (S : DecA fs pre o 0 lc f) (hl : o.length ≤ pre.length) (hin : KBa.In o) :
    DecW fs (pre ++ [n]) o 1 f 0 ∧ o.length ≤ (pre ++ [n]).length ∧ KBa.In o := by
  have hp := S.pos
  have hs := S.short
  have h1 := S.flo
  have h2 := S.fhi
  rw [List.length_take] at hp
  refine ⟨⟨?_, ?_, ?_, S.flo, by omega⟩, by simp; omega, hin⟩
  · rw [List.length_append, List.length_singleton, S.next, decRun_snoc, S.run]; rfl
  · rw [List.length_append, List.length_singleton, List.length_take]; omega
  · rw [List.length_append, List.length_singleton]; omega
theorem DecA.next1 {fs pre o : List Int} {lc f n : Int} (S : DecA fs pre o 1 lc f) (hl : o.length ≤ pre.length) (hin : KBa.In o) :
    DecW fs (pre ++ [n]) (o ++ [lc * 4 + f / 16]) 2 (f % 16) 0 ∧ (o ++ [lc * 4 + f / 16]).length ≤ (pre ++ [n]).length ∧ KBa.In (o ++ [lc * 4 + f / 16]) := by
  have hp := S.pos
  have hs := S.short
  have h1 := S.flo
  have h2 := S.fhi
  have h3 := S.lo
  have h4 := S.hi
  rw [List.length_take] at hp
  refine ⟨⟨?_, ?_, ?_, by omega, by omega⟩, by simp; omega, ?_⟩
  · rw [List.length_append, List.length_singleton, S.next, decRun_snoc, S.run]; rfl
  · rw [List.length_append, List.length_singleton, List.length_take]; omega
  · rw [List.length_append, List.length_singleton]; omega
  · intro x hx
    rcases List.mem_append.mp hx with hx | hx
    · exact hin x hx
    · rw [List.mem_singleton.mp hx]; omega
theorem DecA.next2 {fs pre o : List Int} {lc f n : Int} (S : DecA fs pre o 2 lc f) (hl : o.length ≤ pre.length) (hin : KBa.In o) :
    DecW fs (pre ++ [n]) (o ++ [lc * 16 + f / 4]) 3 (f % 4) 0 ∧ (o ++ [lc * 16 + f / 4]).length ≤ (pre ++ [n]).length ∧ KBa.In (o ++ [lc * 16 + f / 4]) := by
  have hp := S.pos
  have hs := S.short
  have h1 := S.flo
  have h2 := S.fhi
  have h3 := S.lo
  have h4 := S.hi
  rw [List.length_take] at hp
  refine ⟨⟨?_, ?_, ?_, by omega, by omega⟩, by simp; omega, ?_⟩
  · rw [List.length_append, List.length_singleton, S.next, decRun_snoc, S.run]; rfl
  · rw [List.length_append, List.length_singleton, List.length_take]; omega
  · rw [List.length_append, List.length_singleton]; omega
  · intro x hx
    rcases List.mem_append.mp hx with hx | hx
    · exact hin x hx
    · rw [List.mem_singleton.mp hx]; omega
theorem DecA.next3 {fs pre o : List Int} {lc f n : Int} (S : DecA fs pre o 3 lc f) (hl : o.length ≤ pre.length) (hin : KBa.In o) :
    DecW fs (pre ++ [n]) (o ++ [lc * 64 + f]) 0 0 0 ∧ (o ++ [lc * 64 + f]).length ≤ (pre ++ [n]).length ∧ KBa.In (o ++ [lc * 64 + f]) := by
  have hp := S.pos
  have hs := S.short
  have h1 := S.flo
  have h2 := S.fhi
  have h3 := S.lo
  have h4 := S.hi
  rw [List.length_take] at hp
  refine ⟨⟨?_, ?_, ?_, by omega, by omega⟩, by simp; omega, ?_⟩
  · rw [List.length_append, List.length_singleton, S.next, decRun_snoc, S.run]; rfl
  · rw [List.length_append, List.length_singleton, List.length_take]; omega
  · rw [List.length_append, List.length_singleton]; omega
  · intro x hx
    rcases List.mem_append.mp hx with hx | hx
    · exact hin x hx
    · rw [List.mem_singleton.mp hx]; omega
theorem DecB.next {fs pre o : List Int} {qp lc pads n : Int} (S : DecB fs pre o qp lc pads) (hl : o.length ≤ pre.length) (hin : KBa.In o) :
    DecW fs (pre ++ [n]) o qp lc (pads + 1) ∧ o.length ≤ (pre ++ [n]).length ∧ KBa.In o := by
  have ho := S.over
  have hp := S.w.pad
  have e : fs.take (pre ++ [n]).length = fs.take pre.length := by
    rw [List.take_of_length_le (by simp; omega), List.take_of_length_le ho]
  refine ⟨⟨?_, ?_, ?_, S.w.lo, S.w.hi⟩, by simp; omega, hin⟩
  · rw [e]; exact S.w.run
  · rw [e]; exact S.w.pos
  · rw [List.length_append, List.length_singleton]; omega
local macro_rules | `(tactic| walk_at "execs cons") => `(tactic| (k_here; (with_reducible rename (encF _ = _ ++ _ :: _) => kq'); (with_reducible rename DecW _ _ _ _ _ _ => hW'); (with_reducible rename Figs _ => hF'); obtain hE' | hE' := DecW.fork hW' hF' kq' <;> clear hW' kq' <;> first
  | (obtain ⟨f', hq', hp', hn', hS'⟩ := hE'; subst hp'; subst hn'; (have hv' := bval_ch hS'.flo hS'.fhi); (have hc' := chB_ne hS'.flo hS'.fhi); (have hlo' := hS'.flo); (have hhi' := hS'.fhi); (have hl0' := hS'.lo); (have hl1' := hS'.hi); obtain hq' | hq' | hq' | hq' := hq' <;> subst hq')
  | (obtain ⟨hn', hS'⟩ := hE'; subst hn'; (have hb1' := hS'.two); (have hb2' := hS'.three); (have hb3' := hS'.room); (have hb4' := hS'.plo))))
local macro_rules | `(tactic| walk_at "execs cons") => `(tactic| (k_here; (with_reducible rename DecW _ (encF _) _ _ _ _ => hW'); (with_reducible rename (_ % 4 ≠ 1) => hfl'); (have hFin' := DecW.fin hW' hfl'); (have hOut' := DecW.out hW'); clear hW'))
local macro_rules | `(tactic| walk_at "ite") => `(tactic| (first
  | refine PySem.W.ite_neg (by ((simp only [decide_eq_true_eq, beq_iff_eq, bne_iff_ne, ne_eq]); omega)) ?_
  | refine PySem.W.ite_pos (by ((simp only [decide_eq_true_eq, beq_iff_eq, bne_iff_ne, ne_eq]); omega)) ?_))
local macro_rules | `(tactic| walk_at "binaryOp BitAnd int int") => `(tactic| (k_here; first | refine and3 ?_ | refine and15 ?_ | refine and63 ?_ | refine andFFFF ?_))
local macro_rules | `(tactic| walk_at "binaryOp LShift int int") => `(tactic| (k_here; first
  | (with_reducible refine shlC (k := 2) (c := 4) (by with_unfolding_all rfl) (by decide) (by decide) (by omega) (by omega) ?_)
  | (with_reducible refine shlC (k := 4) (c := 16) (by with_unfolding_all rfl) (by decide) (by decide) (by omega) (by omega) ?_)
  | (with_reducible refine shlC (k := 6) (c := 64) (by with_unfolding_all rfl) (by decide) (by decide) (by omega) (by omega) ?_)))
local macro_rules | `(tactic| walk_at "binaryOp RShift int int") => `(tactic| (k_here; first
  | (with_reducible refine shrC (k := 2) (c := 4) (by decide) (by decide) ?_)
  | (with_reducible refine shrC (k := 4) (c := 16) (by decide) (by decide) ?_)))
local macro_rules | `(tactic| walk_at "binaryOp BitOr int int") => `(tactic| (k_here; first
  | (with_reducible refine orC (c := 4) 2 (by decide) (by omega) (by omega) (by omega) ?_)
  | (with_reducible refine orC (c := 16) 4 (by decide) (by omega) (by omega) (by omega) ?_)
  | (with_reducible refine orC (c := 64) 6 (by decide) (by omega) (by omega) (by omega) ?_)))
local macro_rules | `(tactic| walk_at "call type:type") => `(tactic| (k_here; (with_reducible show wpAny _ _ (call _ [Value.bytes _ _]) _ _ _); refine call_type_of (Tx := "bytes") (typeIs_bytes _ _ _) (by decide +kernel) ?_))
local macro_rules | `(tactic| kba_ints) => `(tactic| with_reducible assumption)
local macro_rules | `(tactic| walk_at "pyIter bytes") => `(tactic| ((k_extra "pyIter bytes")))
local macro_rules | `(tactic| walk_at "getMethod bytes") => `(tactic| (k_here; (with_reducible refine method_tr ?_)))
theorem meta_bytes' : typeOf (.type "bytes") = pure (.type "type") := by first | rfl | kernel_rfl | (unfold typeOf; kernel_rfl)
local macro_rules | `(tactic| walk_at "getMethod type:bytes") => `(tactic| (k_here; (refine' method_type ?F ?X ?m (by decide +kernel) ?e ?h ?_; (case F => k_asm); (case X => k_asm); (case m => exact meta_bytes'); (case e => k_dflt k_is); (case h => k_handed))))
local macro_rules | `(tactic| walk_at "call builtin:bytes.maketrans") => `(tactic| (k_here; (refine maketrans (alt_size (by assumption)) (by rw [tab_size]; decide) ?_); intro tM' kM'))
local macro_rules | `(tactic| walk_at "call builtin:str.encode") => `(tactic| (k_here; (refine encode_to (by assumption) (by omega) ?_); intro tM' kM'))
local macro_rules | `(tactic| walk_at "call builtin:bytes.translate") => `(tactic| (k_here; (refine translate_to (by assumption) (by assumption) (by assumption) (by assumption) (by omega) ?_); intro tM' kM'))
local macro_rules | `(tactic| walk_at "getMethod str") => `(tactic| (k_here; (with_reducible refine method_enc ?_)))
local macro_rules | `(tactic| walk_at "call builtin:repr") => `(tactic| (exfalso; (simp only [List.length_cons, List.length_nil] at *); omega))
set_option maxRecDepth 100000 in
set_option maxHeartbeats 8000000 in
theorem decode_spec {w : World} {p : Program} {loose : List Str} {mean : ExcName → Option Value} {mg mb : Str → Option Value} {base h₀ : Heap} {LL fa c : Addr} {cn : Str} {cs : Scope} {m : Str → Option Value} {s : Shared} {Q E : Value → Shared → Prop} {alt : Array UInt8} {xs fs : List Int} {a0 a1 : Int} {t u : Tok}
    (hxs : ∀ n ∈ xs, 0 ≤ n ∧ n < 128) (hf : KBa.In [a0, a1]) (halt : KBw.bInts alt = [a0, a1]) (hY : xs.map (trC a0 a1 43 47) = encF fs) (hfs : Figs fs) (hfl : fs.length % 4 ≠ 1) (hlen : xs.length ≤ 10000) (hcs : cs.kind = .function) (B : Below callerA base [] h₀) (F : Fr h₀ LL s.heap m) (X : (hd.heap_39 w.params).In h₀) (T : Top p loose mean mg mb h₀)
    (k : ∀ t h' tk', Fr h₀ LL h' m → s.heap.StaysIn h' → Q (.bytes (byteArr (octL fs)) t) { s with heap := h', toks := tk' }) :
    wpAny (model Challenge.rw_qh0088_01.row.prog w) (callerA.deeper (envOf cn cs LL fa (.ref c))) (call (.ref 110) [.str (strOf xs) t, .bytes alt u, .bool true]) Q E s := by
  k_with_none
  w_top off
  revert X; k_fill; intro X
  have hI0 : IntsAre ([] : List Value) ([] : List Int) := IntsAre.nil
  have hY2 : KBw.bInts (byteArr (encF fs)) = encF fs := KBa.ints_make (encF_in hfs)
  have hEl : (encF fs).length ≤ 10000 := by rw [← hY, List.length_map]; exact hlen
  k_with "pyIter bytes" => k_state (fun pre o qp lc pads i => DecW fs pre o qp lc pads ∧ o.length ≤ pre.length ∧ KBa.In o) "out" "quad_pos" "leftchar" "pads" "i"
  k_with "state" => first | exact DecW.start | (rw [bval_ch (by assumption) (by assumption)]; first | exact DecA.next0 (by assumption) (by assumption) (by assumption) | exact DecA.next1 (by assumption) (by assumption) (by assumption) | exact DecA.next2 (by assumption) (by assumption) (by assumption) | exact DecA.next3 (by assumption) (by assumption) (by assumption)) | exact DecB.next (by assumption) (by assumption) (by assumption)
  k_with "tree" => simp only [bval]
  k_with "call ref" => k_call_by "_b64_value" bval
  w_strict (
    k_dflt (refine' call_cutR k ?k1 ?k2 ?k3 ?k5 ?kA ?kF ?kK ?k6 ?k7 ?k8 ?k9 ?kB ?_ ?c2 ?c3 ?c4 ?c5; (case kA => exact rfl); (case kF => exact rfl); (case kK => assumption); (case k1 => k_asm); (case k2 => k_asm); (case k3 => k_asm); (case k5 => k_asm); (case k6 => k_is); (case k7 => k_is); (case k8 => ktr_room); (case k9 => first | exact BindsTo.of_eq rfl | exact binds_K (by k_in) rfl (by k_is) rfl rfl rfl); (case c5 => decide); (case kB => exact locs rfl); (case c2 => exact rfl); (case c3 => exact rfl); (case c4 => exact rfl); k_whole)
    clear k B F X T
    intro L' h' tk0 htk0 F' N' B' X' T'
    (try dsimp only)
    (try k_lift B')
    (try k_fold)
    k_steps
    all_goals (rename DecE _ _ => hW; exact done_ret (by assumption) (by rw [DecE.eq hW (by assumption)]) rfl))
end
end Mine
namespace Mine
section
def AnsL (s : Shared) (g : Heap) (res : List Int) (v : Value) (s' : Shared) : Prop := ∃ l vs n h' tk', v = .ref l ∧ s' = { s with heap := h', toks := tk' } ∧ h'.get? l = some (W.listOf vs.toArray n) ∧ g.get? l = none ∧ IntsAre vs res
theorem call_cutL {prog : Program} {w : World} {A₀ A : Around} {s : Shared} {base h₀ : Heap} {outer : List Env} {L : Addr} {m : Str → Option Value} {env : Env} {K : Frag}
    {p : Program} {loose : List Str} {mean : ExcName → Option Value} {mg mb : Str → Option Value} {res : List Int}
    {name qual : Str} {params : Arguments} {body : List Stmt} {scope : Scope} {dV kV doc pm cdv ct oc : Value} {an od : Option Addr} {osl : Array (Option Value)} {f : Addr} {pos : List Value} {binds : List (Str × Value)} {Q E : Value → Shared → Prop}
    (k : ∀ l vs n h' tk', Fr h₀ L h' m → s.heap.StaysIn h' → h'.get? l = some (W.listOf vs.toArray n) → s.heap.get? l = none → IntsAre vs res → Q (.ref l) { s with heap := h', toks := tk' })
    (B : Below A₀ base outer h₀) (F : Fr h₀ L s.heap m) (X₀ : K.In h₀) (T : Top p loose mean mg mb h₀) (hA : A.frames = some (env :: outer)) (hf : env.frame = some L) (hke : env.scope.kind = .function)
    (ho : K.lookup f = some ⟨oc, od, .func (fnOf name qual params body scope dV kV doc pm an cdv ct), osl⟩) (hcd : codeIn K cdv qual = true) (hroom : A.depth < recursionLimit)
    (hbind : BindsTo s (fnOf name qual params body scope dV kV doc pm an cdv ct) ⟨pos, []⟩ binds) (hloc : ∀ y ∈ binds, scope.names.lookup y.1 = some .local)
    (h : ∀ L' h₁ tk, s.toks ≤ tk → Fr s.heap L' h₁ (fun y => binds.reverse.lookup y) → News s.heap L' h₁ [] → Below A base (env :: outer) s.heap → K.In s.heap → Top p loose mean mg mb s.heap →
      wpAny (model prog w) (A.deeper (envOf qual scope L' f cdv)) (execs body (envOf qual scope L' f cdv))
        (fun fl s' => Done s.heap (AnsL s s.heap res) fl s') (fun _ _ => False)
        { s with heap := h₁, toks := tk })
    (hco : scope.isCoroutine = false) (hgen : scope.isGenerator = false) (hk : scope.kind = .function)
    (hcell : ∀ x ∈ scope.names, x.2 ≠ .cell) : wpAny (model prog w) A (call (.ref f) pos) Q E s :=
  call_cut B F X₀ T hA hf hke ho hcd hroom hbind hloc h (fun v s' hp F' st => by obtain ⟨l, vs, n, h', tk', rfl, rfl, h1, h2, h3⟩ := hp; exact k l vs n h' tk' F' st h1 h2 h3) hco hgen hk hcell
theorem done_list {g : Heap} {s s' : Shared} {res : List Int} {l L' : Addr} {m' : Str → Option Value} {h' : Heap} {tk' : Nat} {vs : List Value} {n : Nat} {news : List (Addr × Obj)}
    (F : Fr g L' s'.heap m') (N : News g L' s'.heap news) (hm : (l, W.listOf vs.toArray n) ∈ news) (hi : IntsAre vs res) (es : s' = { s with heap := h', toks := tk' }) : Done g (AnsL s g res) (.ret (.ref l)) s' := by
  subst es
  exact ⟨_, L', m', rfl, F, l, vs, n, h', tk', rfl, rfl, (N _ hm).1, (N _ hm).2.2, hi⟩
def figF (x : Int) : Int := if x.fmod 70 < 64 then x.fmod 70 else 62
def figB (ns : List Int) : List Int := [62, 3, 63, 62] ++ (ns.take 12).map figF
def figsOf (ns : List Int) : List Int :=
  if (figB ns).length % 4 = 1 then (figB ns).dropLast
  else if (figB ns).length % 4 = 2 then (figB ns).dropLast ++ [(figB ns).getLastD 0 - ((figB ns).getLastD 0).fmod 16]
  else if (figB ns).length % 4 = 3 then (figB ns).dropLast ++ [(figB ns).getLastD 0 - ((figB ns).getLastD 0).fmod 4]
  else figB ns
structure FigW (pre o : List Int) : Prop where
  eq : o = [62, 3, 63, 62] ++ pre.map figF
theorem FigW.start : FigW [] [62, 3, 63, 62] ∧ ([62, 3, 63, 62] : List Int).length = ([] : List Int).length + 4 := ⟨⟨rfl⟩, rfl⟩
theorem FigW.next1 {pre o : List Int} {n : Int} (W : FigW pre o) (hl : o.length = pre.length + 4) (h : n.fmod 70 < 64) : FigW (pre ++ [n]) (o ++ [n.fmod 70]) ∧ (o ++ [n.fmod 70]).length = (pre ++ [n]).length + 4 := by
  refine ⟨⟨?_⟩, by simp; omega⟩
  rw [W.eq, List.map_append, List.append_assoc]
  simp [figF, h]
theorem FigW.next2 {pre o : List Int} {n : Int} (W : FigW pre o) (hl : o.length = pre.length + 4) (h : ¬ n.fmod 70 < 64) : FigW (pre ++ [n]) (o ++ [62]) ∧ (o ++ [62]).length = (pre ++ [n]).length + 4 := by
  refine ⟨⟨?_⟩, by simp; omega⟩
  rw [W.eq, List.map_append, List.append_assoc]
  simp [figF, h]
theorem fm4 (n : Nat) : ((n : Int)).fmod 4 = ((n % 4 : Nat) : Int) := by rw [Int.fmod_eq_emod_of_nonneg _ (by omega)]; omega
theorem fig_e1 {ns o : List Int} {vs : List Value} (W : FigW (List.take 12 ns) o) (h : ((o.length : Nat) : Int).fmod 4 = 1) (hi : IntsAre vs o.dropLast) : IntsAre vs (figsOf ns) := by
  have e : o = figB ns := W.eq
  subst e
  rw [fm4] at h
  unfold figsOf
  rw [if_pos (by omega)]
  exact hi
theorem fig_e2 {ns o : List Int} {vs : List Value} (W : FigW (List.take 12 ns) o) (h : ((o.length : Nat) : Int).fmod 4 = 2) (hi : IntsAre vs (o.dropLast ++ [o.getLastD 0 - (o.getLastD 0).fmod 16])) : IntsAre vs (figsOf ns) := by
  have e : o = figB ns := W.eq
  subst e
  rw [fm4] at h
  unfold figsOf
  rw [if_neg (by omega), if_pos (by omega)]
  exact hi
theorem fig_e3 {ns o : List Int} {vs : List Value} (W : FigW (List.take 12 ns) o) (h : 1 < ((o.length : Nat) : Int).fmod 4) (h2 : ((o.length : Nat) : Int).fmod 4 ≠ 2) (hi : IntsAre vs (o.dropLast ++ [o.getLastD 0 - (o.getLastD 0).fmod 4])) : IntsAre vs (figsOf ns) := by
  have e : o = figB ns := W.eq
  subst e
  rw [fm4] at h h2
  unfold figsOf
  rw [if_neg (by omega), if_neg (by omega), if_pos (by omega)]
  exact hi
theorem fig_e0 {ns o : List Int} {vs : List Value} (W : FigW (List.take 12 ns) o) (h : ((o.length : Nat) : Int).fmod 4 ≠ 1) (h2 : ¬ 1 < ((o.length : Nat) : Int).fmod 4) (hi : IntsAre vs o) : IntsAre vs (figsOf ns) := by
  have e : o = figB ns := W.eq
  subst e
  rw [fm4] at h h2
  unfold figsOf
  rw [if_neg (by omega), if_neg (by omega), if_neg (by omega)]
  exact hi
local macro_rules | `(tactic| walk_at "call builtin:list.append") => `(tactic| (k_here; (with_reducible show wpAny _ _ (call (Value.builtin _) [Value.ref _, _]) _ _ _); k_dflt (refine' append_K ?k1 ?k2 ?k3 ?_ ?z; (case k1 => k_asm); (case k2 => k_asm); (case k3 => k_upd); (case z => (simp only [List.size_toArray, List.length_dropLast]; rw [sizeLine_eq]; omega)); k_whole); intro h' F' N'; (try k_sweep)))
set_option maxRecDepth 100000 in
set_option maxHeartbeats 8000000 in
theorem figures_spec {w : World} {p : Program} {loose : List Str} {mean : ExcName → Option Value} {mg mb : Str → Option Value} {base h₀ : Heap} {LL fa c : Addr} {cn : Str} {cs : Scope} {m : Str → Option Value} {s : Shared} {Q E : Value → Shared → Prop} {l : Addr} {vs : List Value} {ns : List Int}
    (hl : s.heap.IsList l vs.toArray) (hi : IntsAre vs ns) (hlen : ns.length ≤ 63) (hcs : cs.kind = .function) (B : Below callerA base [] h₀) (F : Fr h₀ LL s.heap m) (X : (hd.heap_39 w.params).In h₀) (T : Top p loose mean mg mb h₀)
    (k : ∀ l vs n h' tk', Fr h₀ LL h' m → s.heap.StaysIn h' → h'.get? l = some (W.listOf vs.toArray n) → s.heap.get? l = none → IntsAre vs (figsOf ns) → Q (.ref l) { s with heap := h', toks := tk' }) :
    wpAny (model Challenge.rw_qh0088_01.row.prog w) (callerA.deeper (envOf cn cs LL fa (.ref c))) (call (.ref 117) [.ref l]) Q E s := by
  k_with_none
  w_top off
  revert X; k_fill; intro X
  k_with "pyIter ref" => k_state (fun pre o => FigW pre o ∧ o.length = pre.length + 4) "figures"
  k_with "state" => first | exact FigW.start | exact FigW.next1 (by assumption) (by assumption) (by assumption) | exact FigW.next2 (by assumption) (by assumption) (by assumption)
  have hT12 : (List.take 12 ns).length ≤ 12 := by rw [List.length_take]; omega
  w_strict (
    k_dflt (refine' call_cutL k ?k1 ?k2 ?k3 ?k5 ?kA ?kF ?kK ?k6 ?k7 ?k8 ?k9 ?kB ?_ ?c2 ?c3 ?c4 ?c5; (case kA => exact rfl); (case kF => exact rfl); (case kK => assumption); (case k1 => k_asm); (case k2 => k_asm); (case k3 => k_asm); (case k5 => k_asm); (case k6 => k_is); (case k7 => k_is); (case k8 => ktr_room); (case k9 => first | exact BindsTo.of_eq rfl | exact binds_K (by k_in) rfl (by k_is) rfl rfl rfl); (case c5 => decide); (case kB => exact locs rfl); (case c2 => exact rfl); (case c3 => exact rfl); (case c4 => exact rfl); k_whole)
    clear k B F X T
    intro L' h' tk0 htk0 F' N' B' X' T'
    (try dsimp only)
    (try k_lift B')
    (try k_fold)
    k_steps
    all_goals (rename FigW _ _ => hW; (rename News _ _ _ _ => nE'); (try simp only [List.push_toArray] at nE'); first
      | exact done_list (by assumption) nE' (by k_mem) (fig_e1 hW (by assumption) (by k_intsEnd)) rfl
      | exact done_list (by assumption) nE' (by k_mem) (fig_e2 hW (by assumption) (by k_intsEnd)) rfl
      | exact done_list (by assumption) nE' (by k_mem) (fig_e3 hW (by assumption) (by assumption) (by k_intsEnd)) rfl
      | exact done_list (by assumption) nE' (by k_mem) (fig_e0 hW (by assumption) (by assumption) (by k_intsEnd)) rfl))
end
end Mine
namespace Mine
section
def ampR (mark : Int) (n : Nat) : List Int := (List.replicate n [26, 38, 41, 125 - mark]).flatten
def sprL (mark : Int) (n : Nat) (fs : List Int) : List Int := fs.flatMap fun f => if f = mark then f :: ampR mark n else [f]
structure SprW (mark : Int) (n : Nat) (pre o : List Int) : Prop where
  eq : o = sprL mark n pre
theorem rep_len {α : Type} (n : Nat) (a b c d : α) : (List.replicate n [a, b, c, d]).flatten.length = 4 * n := by
  induction n with
  | zero => rfl
  | succ n ih => rw [List.replicate_succ, List.flatten_cons, List.length_append, ih]; simp; omega
theorem sprL_snoc (mark : Int) (n : Nat) (pre : List Int) (x : Int) : sprL mark n (pre ++ [x]) = sprL mark n pre ++ (if x = mark then x :: ampR mark n else [x]) := by
  unfold sprL; rw [List.flatMap_append]; simp
theorem SprW.ints {mark : Int} {n : Nat} {ns o : List Int} {vs : List Value} (W : SprW mark n ns o) (hi : IntsAre vs o) : IntsAre vs (sprL mark n ns) := W.eq ▸ hi
theorem SprW.start {mark : Int} {n : Nat} : SprW mark n [] [] ∧ ([] : List Int).length ≤ 13 * ([] : List Int).length := ⟨⟨rfl⟩, by simp⟩
theorem SprW.next1 {mark x : Int} {n : Nat} {pre o : List Int} (W : SprW mark n pre o) (hl : o.length ≤ 13 * pre.length) (h : ¬ x = mark) : SprW mark n (pre ++ [x]) (o ++ [x]) ∧ (o ++ [x]).length ≤ 13 * (pre ++ [x]).length := by
  refine ⟨⟨?_⟩, by simp; omega⟩
  rw [sprL_snoc, if_neg h, W.eq]
theorem SprW.next2 {mark x times : Int} {n : Nat} {pre o : List Int} (W : SprW mark n pre o) (hl : o.length ≤ 13 * pre.length) (ht : times = 1 ∧ n = 1 ∨ times = 2 ∧ n = 2 ∨ times = 3 ∧ n = 3) (h : x = mark) :
    SprW mark n (pre ++ [x]) (o ++ [x] ++ (List.replicate times.toNat [26, 38, 41, 125 - mark]).flatten) ∧ (o ++ [x] ++ (List.replicate times.toNat [26, 38, 41, 125 - mark]).flatten).length ≤ 13 * (pre ++ [x]).length := by
  have e : times.toNat = n := by omega
  rw [e]
  refine ⟨⟨?_⟩, ?_⟩
  · rw [sprL_snoc, if_pos h, W.eq, List.append_assoc]; rfl
  · rw [List.length_append, List.length_append, List.length_append, rep_len]; simp; omega
section
variable {prog : Program} {w : World} {A : Around} {E : Value → Shared → Prop} {s : Shared} {h₀ h : Heap} {L D b : Addr} {m : Str → Option Value} {news news' : List (Addr × Obj)} {xs ys : List Value} {n n2 : Nat}
theorem ext_L {Q : Value → Shared → Prop} (F : Fr h₀ L s.heap m) (N : News h₀ L s.heap news) (hb : (b, W.listOf ys.toArray n2) ∈ news) 
    (U : Upd D (W.listOf xs.toArray n) (W.listOf (xs ++ ys).toArray (n + 1)) news news') (hne : ys.length ≠ 0) (hz : xs.length + ys.length ≤ 10000)
    (h : ∀ h', Fr h₀ L h' m → News h₀ L h' news' → Q .none { s with heap := h' }) : wpAny (model prog w) A (call (.builtin "list.extend") [.ref D, .ref b]) Q E s := by
  refine kl_extend F N hb rfl hne U ?_ ?_ ?_ h
  · have : Builtin.List.listTooLong (xs.toArray.size + ys.toArray.size) = false := by
      unfold Builtin.List.listTooLong
      simp only [List.size_toArray]
      rw [sizeLine_eq]
      exact decide_eq_false (by omega)
    rw [this, Bool.and_false]
    exact Bool.false_ne_true
  · rw [sizeLine_eq]; show xs.length ≤ _; omega
  · rw [sizeLine_eq]; simp only [List.size_toArray]; omega
end
local macro_rules | `(tactic| walk_at "call builtin:list.extend") => `(tactic| (k_here; (rename News _ _ _ _ => nE'); (try simp only [List.push_toArray] at nE'); k_dflt (refine' ext_L ?k1 nE' ?k2 ?k3 ?ne ?z ?_; (case k1 => k_asm); (case k2 => k_mem); (case k3 => k_upd); (case ne => (rw [rep_len]; omega)); (case z => (rw [rep_len]; simp only [List.length_append, List.length_cons, List.length_nil]; omega)); k_whole); clear nE'; intro h' F' N'; (try k_sweep)))
local macro_rules | `(tactic| kst_facts1) => `(tactic| exact IntsAre.append (IntsAre.append (by assumption) (.cons _ _ .nil)) (by assumption))
set_option maxRecDepth 100000 in
set_option maxHeartbeats 8000000 in
theorem spread_spec {w : World} {p : Program} {loose : List Str} {mean : ExcName → Option Value} {mg mb : Str → Option Value} {base h₀ : Heap} {LL fa c : Addr} {cn : Str} {cs : Scope} {m : Str → Option Value} {s : Shared} {Q E : Value → Shared → Prop} {l : Addr} {vs : List Value} {ns : List Int} {mark times : Int} {n : Nat} {t u : Tok}
    (hl : s.heap.IsList l vs.toArray) (hi : IntsAre vs ns) (hlen : ns.length ≤ 63) (ht : times = 1 ∧ n = 1 ∨ times = 2 ∧ n = 2 ∨ times = 3 ∧ n = 3) (hcs : cs.kind = .function) (B : Below callerA base [] h₀) (F : Fr h₀ LL s.heap m) (X : (hd.heap_39 w.params).In h₀) (T : Top p loose mean mg mb h₀)
    (k : ∀ l vs n' h' tk', Fr h₀ LL h' m → s.heap.StaysIn h' → h'.get? l = some (W.listOf vs.toArray n') → s.heap.get? l = none → IntsAre vs (sprL mark n ns) → Q (.ref l) { s with heap := h', toks := tk' }) :
    wpAny (model Challenge.rw_qh0088_01.row.prog w) (callerA.deeper (envOf cn cs LL fa (.ref c))) (call (.ref 131) [.ref l, .int mark t, .int times u]) Q E s := by
  k_with_none
  w_top off
  revert X; k_fill; intro X
  k_with "pyIter ref" => k_state (fun pre o => SprW mark n pre o ∧ o.length ≤ 13 * pre.length) "spread"
  k_with "state" => first | exact SprW.start | exact SprW.next1 (by assumption) (by assumption) (by assumption) | exact SprW.next2 (by assumption) (by assumption) (by assumption) (by assumption)
  w_strict (
    k_dflt (refine' call_cutL k ?k1 ?k2 ?k3 ?k5 ?kA ?kF ?kK ?k6 ?k7 ?k8 ?k9 ?kB ?_ ?c2 ?c3 ?c4 ?c5; (case kA => exact rfl); (case kF => exact rfl); (case kK => assumption); (case k1 => k_asm); (case k2 => k_asm); (case k3 => k_asm); (case k5 => k_asm); (case k6 => k_is); (case k7 => k_is); (case k8 => ktr_room); (case k9 => first | exact BindsTo.of_eq rfl | exact binds_K (by k_in) rfl (by k_is) rfl rfl rfl); (case c5 => decide); (case kB => exact locs rfl); (case c2 => exact rfl); (case c3 => exact rfl); (case c4 => exact rfl); k_whole)
    clear k B F X T
    intro L' h' tk0 htk0 F' N' B' X' T'
    (try dsimp only)
    (try k_lift B')
    (try k_fold)
    k_steps
    all_goals (rename SprW _ _ _ _ => hW; exact done_list (by assumption) (by assumption) (by k_mem) (SprW.ints hW (by assumption)) rfl))
end
end Mine
namespace Mine
section
structure EOrel (fs : List Int) (a b : List Int × Int × Int) : Prop where
  lo : 0 ≤ b.2.2
  hi : b.2.2 < 65536
  hlo : 0 ≤ a.2.1
  hhi : a.2.1 < a.2.2
  st : (a.2.2 = 1 ∧ fs.length % 4 = 0 ∧ b.2.1 = 0 ∧ b.1 = fs.map chB) ∨
    (a.2.2 = 64 ∧ fs.length % 4 = 1 ∧ b.2.1 = 0 ∧ ∃ i x, fs = i ++ [x] ∧ b.1 = i.map chB ∧ x = a.2.1) ∨
    (a.2.2 = 16 ∧ fs.length % 4 = 2 ∧ b.2.1 = 2 ∧ ∃ i x, fs = i ++ [x] ∧ b.1 = i.map chB ∧ x = b.2.2 % 4 * 16 + a.2.1) ∨
    (a.2.2 = 4 ∧ fs.length % 4 = 3 ∧ b.2.1 = 4 ∧ ∃ i x, fs = i ++ [x] ∧ b.1 = i.map chB ∧ x = b.2.2 % 16 * 4 + a.2.1)
theorem encStep0 (e : List Int) (lc b : Int) : encStep (e, 0, lc) b = (e ++ [chB ((lc * 256 + b) % 65536 / 4 % 64)], 2, (lc * 256 + b) % 65536) := rfl
theorem encStep2 (e : List Int) (lc b : Int) : encStep (e, 2, lc) b = (e ++ [chB ((lc * 256 + b) % 65536 / 16 % 64)], 4, (lc * 256 + b) % 65536) := rfl
theorem encStep4 (e : List Int) (lc b : Int) : encStep (e, 4, lc) b = (e ++ [chB ((lc * 256 + b) % 65536 / 64 % 64)] ++ [chB ((lc * 256 + b) % 65536 / 1 % 64)], 0, (lc * 256 + b) % 65536) := rfl
theorem octStep1 (o : List Int) (h f : Int) : octStep (o, h, 1) f = (o, h * 64 + f, 64) := rfl
theorem octStep64 (o : List Int) (h f : Int) : octStep (o, h, 64) f = (o ++ [(h * 64 + f) / 16], (h * 64 + f) % 16, 16) := rfl
theorem octStep16 (o : List Int) (h f : Int) : octStep (o, h, 16) f = (o ++ [(h * 64 + f) / 4], (h * 64 + f) % 4, 4) := rfl
theorem octStep4 (o : List Int) (h f : Int) : octStep (o, h, 4) f = (o ++ [(h * 64 + f) / 1], (h * 64 + f) % 1, 1) := rfl
theorem EOrel.step {fs o : List Int} {h r f : Int} (R : EOrel fs (o, h, r) (encRun o)) (h0 : 0 ≤ f) (h1 : f < 64) : EOrel (fs ++ [f]) (octStep (o, h, r) f) (encRun (octStep (o, h, r) f).1) := by
  obtain ⟨lo, hi, hlo, hhi, st⟩ := R
  rcases hE : encRun o with ⟨e, lb, lc⟩
  rw [hE] at lo hi st
  dsimp only at lo hi hlo hhi st
  rcases st with ⟨rfl, hl, rfl, rfl⟩ | ⟨rfl, hl, rfl, i, x, rfl, rfl, rfl⟩ | ⟨rfl, hl, rfl, i, x, rfl, rfl, hx⟩ | ⟨rfl, hl, rfl, i, x, rfl, rfl, hx⟩
  · rw [octStep1]
    dsimp only
    rw [hE]
    refine ⟨lo, hi, by dsimp only; omega, by dsimp only; omega, .inr (.inl ⟨rfl, by rw [List.length_append, List.length_singleton]; omega, rfl, fs, f, rfl, rfl, by dsimp only; omega⟩)⟩
  · rw [octStep64]
    dsimp only
    rw [encRun_snoc, hE, encStep0]
    refine ⟨by dsimp only; omega, by dsimp only; omega, by dsimp only; omega, by dsimp only; omega, .inr (.inr (.inl ⟨rfl, by rw [List.length_append, List.length_singleton]; omega, rfl, i ++ [x], f, rfl, ?_, by dsimp only; omega⟩))⟩
    dsimp only
    rw [List.map_append]
    congr 2
    congr 1
    omega
  · rw [octStep16]
    dsimp only
    rw [encRun_snoc, hE, encStep2]
    refine ⟨by dsimp only; omega, by dsimp only; omega, by dsimp only; omega, by dsimp only; omega, .inr (.inr (.inr ⟨rfl, by rw [List.length_append, List.length_singleton]; omega, rfl, i ++ [x], f, rfl, ?_, by dsimp only; omega⟩))⟩
    dsimp only
    rw [List.map_append]
    congr 2
    congr 1
    omega
  · rw [octStep4]
    dsimp only
    rw [encRun_snoc, hE, encStep4]
    refine ⟨by dsimp only; omega, by dsimp only; omega, by dsimp only; omega, by dsimp only; omega, .inl ⟨rfl, by rw [List.length_append, List.length_singleton]; omega, rfl, ?_⟩⟩
    dsimp only
    rw [List.map_append, List.map_append]
    have e1 : (lc * 256 + (h * 64 + f) / 1) % 65536 / 64 % 64 = x := by omega
    have e2 : (lc * 256 + (h * 64 + f) / 1) % 65536 / 1 % 64 = f := by omega
    rw [e1, e2]
    rfl
theorem EOrel.run : ∀ (gs fs : List Int) (o : List Int) (h r : Int), Figs gs → EOrel fs (o, h, r) (encRun o) → EOrel (fs ++ gs) (gs.foldl octStep (o, h, r)) (encRun (gs.foldl octStep (o, h, r)).1)
  | [], fs, o, h, r, _, R => by simpa using R
  | f :: g, fs, o, h, r, hf, R => by
    have h1 := hf f (List.mem_cons_self ..)
    have S := R.step h1.1 h1.2
    rcases hq : octStep (o, h, r) f with ⟨o', h', r'⟩
    rw [hq] at S
    have := EOrel.run g (fs ++ [f]) o' h' r' (fun n hn => hf n (List.mem_cons_of_mem _ hn)) S
    rw [List.append_assoc] at this
    rw [List.foldl_cons, hq]
    exact this
structure Wf (fs : List Int) : Prop where
  figs : Figs fs
  one : fs.length % 4 ≠ 1
  two : fs.length % 4 = 2 → fs.getLastD 0 % 16 = 0
  three : fs.length % 4 = 3 → fs.getLastD 0 % 4 = 0
theorem last_snoc (i : List Int) (x : Int) : (i ++ [x]).getLastD 0 = x := by simp [List.getLastD_eq_getLast?]
theorem enc_oct {fs : List Int} (W : Wf fs) : encL (octL fs) = encF fs := by
  have R := EOrel.run fs [] [] 0 1 W.figs ⟨by decide, by decide, by decide, by decide, .inl ⟨rfl, rfl, rfl, rfl⟩⟩
  rw [List.nil_append] at R
  have e0 : fs.foldl octStep ([], 0, 1) = octRun fs := rfl
  rw [e0] at R
  unfold encL octL
  obtain ⟨lo, hi, hlo, hhi, st⟩ := R
  unfold encF encEnd padL
  rcases st with ⟨e1, hl, e2, e3⟩ | ⟨e1, hl, e2, i, x, e3, e4, e5⟩ | ⟨e1, hl, e2, i, x, e3, e4, e5⟩ | ⟨e1, hl, e2, i, x, e3, e4, e5⟩
  · rw [if_neg (by omega), if_neg (by omega), if_neg (by omega), if_neg (by omega), e3]
    simp
  · exact absurd hl W.one
  · have h2 := W.two hl
    rw [e3, last_snoc] at h2
    have e6 : fs.map chB = i.map chB ++ [chB x] := by rw [e3]; simp
    have e7 : (encRun (octRun fs).1).2.2 % 4 * 16 = x := by omega
    rw [if_pos e2, if_pos hl, e4, e6, e7]
    simp
  · have h2 := W.three hl
    rw [e3, last_snoc] at h2
    have e6 : fs.map chB = i.map chB ++ [chB x] := by rw [e3]; simp
    have e7 : (encRun (octRun fs).1).2.2 % 16 * 4 = x := by omega
    rw [if_neg (by omega), if_pos e2, if_neg (by omega), if_pos hl, e4, e6, e7]
theorem octRun_len : ∀ (gs : List Int) (a : List Int × Int × Int), (gs.foldl octStep a).1.length ≤ a.1.length + gs.length
  | [], a => by simp
  | f :: g, a => by
    rw [List.foldl_cons]
    have h := octRun_len g (octStep a f)
    have h2 : (octStep a f).1.length ≤ a.1.length + 1 := by
      unfold octStep
      split
      · simp
      · simp
    rw [List.length_cons]
    omega
theorem octL_len (fs : List Int) : (octL fs).length ≤ fs.length := by
  have := octRun_len fs ([], 0, 1)
  show (fs.foldl octStep ([], 0, 1)).1.length ≤ _
  simpa using this
theorem octS_all (ns : List Int) (hx : Figs ns) : ∃ h r, OctW ns (octL ns) h r ∧ KBa.In (octL ns) := by
  suffices H : ∀ (post pre o : List Int) (h r : Int), ns = pre ++ post → OctW pre o h r → o.length ≤ pre.length → KBa.In o → ∃ o' h' r', OctW ns o' h' r' ∧ KBa.In o' by
    obtain ⟨o', h', r', W, hi⟩ := H ns [] [] 0 1 rfl OctW.start.1 (by simp) OctW.start.2.2
    have e := W.fin
    subst e
    exact ⟨h', r', W, hi⟩
  intro post
  induction post with
  | nil =>
    intro pre o h r e W _ hi
    rw [List.append_nil] at e
    subst e
    exact ⟨o, h, r, W, hi⟩
  | cons n post ih =>
    intro pre o h r e W hl hi
    have e' : ns = (pre ++ [n]) ++ post := by rw [e]; simp
    rcases W.room with rfl | rfl | rfl | rfl
    · obtain ⟨a, b, c⟩ := OctW.next0 hx e W.st hl hi
      exact ih _ _ _ _ e' a b c
    · obtain ⟨a, b, c⟩ := OctW.next (r' := 16) hx e W.st hl hi (by decide)
      exact ih _ _ _ _ e' a b c
    · obtain ⟨a, b, c⟩ := OctW.next (r' := 4) hx e W.st hl hi (by decide)
      exact ih _ _ _ _ e' a b c
    · obtain ⟨a, b, c⟩ := OctW.next (r' := 1) hx e W.st hl hi (by decide)
      exact ih _ _ _ _ e' a b c
theorem octL_in {fs : List Int} (hx : Figs fs) : KBa.In (octL fs) := by
  obtain ⟨_, _, _, h⟩ := octS_all fs hx
  exact h
-- the two ways of the alternative signs
inductive Alt : Int → Int → Int → Prop where
  | one : Alt 38 59 62
  | two : Alt 59 38 63
theorem ampL_app (a b : List Int) : ampL (a ++ b) = ampL a ++ ampL b := by unfold ampL; rw [List.flatMap_append]
theorem amp_back {a0 a1 mark f : Int} (h : Alt a0 a1 mark) (h0 : 0 ≤ f) (h1 : f < 64) :
    (ampL [trC 43 47 a0 a1 (chB f)]).map (trC a0 a1 43 47) = (if f = mark then f :: ampR mark 1 else [f]).map chB := by
  have key : ∀ a0 a1 mark : Int, (∀ i : Fin 64, (ampL [trC 43 47 a0 a1 (b64L.getD i.val 0)]).map (trC a0 a1 43 47) = (if (i.val : Int) = mark then (i.val : Int) :: ampR mark 1 else [(i.val : Int)]).map chB) →
      (ampL [trC 43 47 a0 a1 (chB f)]).map (trC a0 a1 43 47) = (if f = mark then f :: ampR mark 1 else [f]).map chB := by
    intro a0 a1 mark hk
    have := hk ⟨f.toNat, by omega⟩
    have e : ((f.toNat : Nat) : Int) = f := by omega
    dsimp only at this
    rw [e] at this
    exact this
  cases h with
  | one => exact key _ _ _ (by decide +kernel)
  | two => exact key _ _ _ (by decide +kernel)
theorem amp_map {a0 a1 mark : Int} (h : Alt a0 a1 mark) : ∀ (fs : List Int), Figs fs → (ampL ((fs.map chB).map (trC 43 47 a0 a1))).map (trC a0 a1 43 47) = (sprL mark 1 fs).map chB
  | [], _ => rfl
  | f :: r, hf => by
    have h1 := hf f (List.mem_cons_self ..)
    have ih := amp_map h r fun n hn => hf n (List.mem_cons_of_mem _ hn)
    have e : sprL mark 1 (f :: r) = (if f = mark then f :: ampR mark 1 else [f]) ++ sprL mark 1 r := by unfold sprL; rw [List.flatMap_cons]
    rw [e, List.map_append, ← ih, ← amp_back h h1.1 h1.2, ← List.map_append, ← ampL_app]
    rfl
theorem ampR_len (mark : Int) (n : Nat) : (ampR mark n).length = 4 * n := rep_len n _ _ _ _
theorem spr_len (mark : Int) (n : Nat) : ∀ fs : List Int, (sprL mark n fs).length % 4 = fs.length % 4 ∧ fs.length ≤ (sprL mark n fs).length ∧ (sprL mark n fs).length ≤ (4 * n + 1) * fs.length
  | [] => by simp [sprL]
  | f :: r => by
    have ih := spr_len mark n r
    have e : sprL mark n (f :: r) = (if f = mark then f :: ampR mark n else [f]) ++ sprL mark n r := by unfold sprL; rw [List.flatMap_cons]
    have hm : (4 * n + 1) * (r.length + 1) = (4 * n + 1) * r.length + (4 * n + 1) := by rw [Nat.mul_add, Nat.mul_one]
    rw [e, List.length_append, List.length_cons, hm]
    split
    · rw [List.length_cons, ampR_len]; omega
    · rw [List.length_singleton]; omega
theorem pad_all {a0 a1 mark : Int} (h : Alt a0 a1 mark) (n : Nat) : (ampL ((padL n).map (trC 43 47 a0 a1))).map (trC a0 a1 43 47) = padL n := by
  unfold padL
  split
  · cases h <;> decide
  · split
    · cases h <;> decide
    · rfl
theorem amp_enc {a0 a1 mark : Int} (h : Alt a0 a1 mark) {fs : List Int} (hf : Figs fs) : (ampL ((encF fs).map (trC 43 47 a0 a1))).map (trC a0 a1 43 47) = encF (sprL mark 1 fs) := by
  unfold encF
  rw [List.map_append, ampL_app, List.map_append, amp_map h fs hf, pad_all h]
  congr 1
  unfold padL
  rw [(spr_len mark 1 fs).1]
theorem ampR_no {a0 a1 mark : Int} (h : Alt a0 a1 mark) (n : Nat) : ∀ x ∈ ampR mark n, 0 ≤ x ∧ x < 64 ∧ x ≠ mark := by
  intro x hx
  obtain ⟨l, hl, hm⟩ := List.mem_flatten.mp hx
  rw [List.eq_of_mem_replicate hl] at hm
  cases h <;> simp at hm <;> omega
theorem spr_free {mark : Int} (k : Nat) : ∀ l : List Int, (∀ x ∈ l, x ≠ mark) → sprL mark k l = l
  | [], _ => rfl
  | f :: r, h => by
    have e : sprL mark k (f :: r) = (if f = mark then f :: ampR mark k else [f]) ++ sprL mark k r := by unfold sprL; rw [List.flatMap_cons]
    rw [e, if_neg (h f (List.mem_cons_self ..)), spr_free k r fun x hx => h x (List.mem_cons_of_mem _ hx)]
    rfl
theorem spr_app (mark : Int) (k : Nat) (a b : List Int) : sprL mark k (a ++ b) = sprL mark k a ++ sprL mark k b := by unfold sprL; rw [List.flatMap_append]
theorem spr_spr {a0 a1 mark : Int} (h : Alt a0 a1 mark) (n : Nat) : ∀ fs : List Int, sprL mark 1 (sprL mark n fs) = sprL mark (n + 1) fs
  | [] => rfl
  | f :: r => by
    have e : ∀ k, sprL mark k (f :: r) = (if f = mark then f :: ampR mark k else [f]) ++ sprL mark k r := fun k => by unfold sprL; rw [List.flatMap_cons]
    rw [e n, e (n + 1), spr_app, spr_spr h n r]
    congr 1
    by_cases hm : f = mark
    · rw [if_pos hm, if_pos hm]
      have e2 : sprL mark 1 (f :: ampR mark n) = (f :: ampR mark 1) ++ sprL mark 1 (ampR mark n) := by
        show (f :: ampR mark n).flatMap _ = _
        rw [List.flatMap_cons, if_pos hm]
        rfl
      rw [e2, spr_free 1 _ fun x hx => (ampR_no h n x hx).2.2]
      rfl
    · rw [if_neg hm, if_neg hm]
      exact spr_free 1 [f] (by intro x hx; rw [List.mem_singleton.mp hx]; exact hm)
theorem spr_zero (mark : Int) : ∀ fs : List Int, sprL mark 0 fs = fs
  | [] => rfl
  | f :: r => by
    have e : sprL mark 0 (f :: r) = (if f = mark then f :: ampR mark 0 else [f]) ++ sprL mark 0 r := by unfold sprL; rw [List.flatMap_cons]
    rw [e, spr_zero mark r]
    by_cases hm : f = mark
    · rw [if_pos hm]; rfl
    · rw [if_neg hm]; rfl
theorem spr_figs {a0 a1 mark : Int} (h : Alt a0 a1 mark) (n : Nat) {fs : List Int} (hf : Figs fs) : Figs (sprL mark n fs) := by
  intro x hx
  obtain ⟨f, hm, hx⟩ := List.mem_flatMap.mp hx
  have h1 := hf f hm
  split at hx
  · rcases List.mem_cons.mp hx with rfl | hx
    · exact h1
    · have := ampR_no h n x hx; omega
  · rw [List.mem_singleton.mp hx]; exact h1
theorem spr_last (mark : Int) (n : Nat) {fs : List Int} (hne : fs ≠ []) (hl : fs.getLastD 0 ≠ mark) : (sprL mark n fs).getLastD 0 = fs.getLastD 0 := by
  obtain ⟨i, x, rfl⟩ : ∃ i x, fs = i ++ [x] := ⟨fs.dropLast, fs.getLast hne, (List.dropLast_concat_getLast hne).symm⟩
  rw [last_snoc] at hl ⊢
  rw [spr_app]
  have e : sprL mark n [x] = [x] := by
    show (if x = mark then x :: ampR mark n else [x]) ++ [] = [x]
    rw [if_neg hl]; rfl
  rw [e, last_snoc]
theorem Wf.spr {a0 a1 mark : Int} (h : Alt a0 a1 mark) (n : Nat) {fs : List Int} (W : Wf fs) : Wf (sprL mark n fs) := by
  have hl := (spr_len mark n fs).1
  have hmk : mark % 16 ≠ 0 ∧ mark % 4 ≠ 0 := by cases h <;> decide
  refine ⟨spr_figs h n W.figs, by rw [hl]; exact W.one, fun e => ?_, fun e => ?_⟩
  · rw [hl] at e
    have h2 := W.two e
    rw [spr_last mark n (by rintro rfl; simp at e) (by rintro e3; rw [e3] at h2; exact hmk.1 h2)]
    exact h2
  · rw [hl] at e
    have h2 := W.three e
    rw [spr_last mark n (by rintro rfl; simp at e) (by rintro e3; rw [e3] at h2; exact hmk.2 h2)]
    exact h2
theorem encF_len (fs : List Int) : (encF fs).length ≤ fs.length + 2 := by
  unfold encF
  rw [List.length_append, List.length_map, padL_len]
  split
  · omega
  · split <;> omega
theorem ch_plain {a0 a1 mark f : Int} (h : Alt a0 a1 mark) (h0 : 0 ≤ f) (h1 : f < 64) : 0 ≤ trC 43 47 a0 a1 (chB f) ∧ trC 43 47 a0 a1 (chB f) < 128 ∧ trC 43 47 a0 a1 (chB f) ≠ 60 ∧ trC 43 47 a0 a1 (chB f) ≠ 62 ∧ trC 43 47 a0 a1 (chB f) ≠ 34 ∧ trC 43 47 a0 a1 (chB f) ≠ 39 := by
  cases h with
  | one => exact chB_all (P := fun c => 0 ≤ trC 43 47 38 59 c ∧ trC 43 47 38 59 c < 128 ∧ trC 43 47 38 59 c ≠ 60 ∧ trC 43 47 38 59 c ≠ 62 ∧ trC 43 47 38 59 c ≠ 34 ∧ trC 43 47 38 59 c ≠ 39) (by decide +kernel) h0 h1
  | two => exact chB_all (P := fun c => 0 ≤ trC 43 47 59 38 c ∧ trC 43 47 59 38 c < 128 ∧ trC 43 47 59 38 c ≠ 60 ∧ trC 43 47 59 38 c ≠ 62 ∧ trC 43 47 59 38 c ≠ 34 ∧ trC 43 47 59 38 c ≠ 39) (by decide +kernel) h0 h1
theorem enc_plain {a0 a1 mark : Int} (h : Alt a0 a1 mark) {fs : List Int} (hf : Figs fs) : Plain ((encF fs).map (trC 43 47 a0 a1)) := by
  intro x hx
  obtain ⟨c, hc, rfl⟩ := List.mem_map.mp hx
  unfold encF at hc
  rcases List.mem_append.mp hc with hc | hc
  · obtain ⟨f, hm, rfl⟩ := List.mem_map.mp hc
    have h1 := hf f hm
    exact ch_plain h h1.1 h1.2
  · rw [padL_mem hc]
    cases h <;> decide
theorem figB_len (ns : List Int) : (figB ns).length = 4 + min 12 ns.length := by
  unfold figB; rw [List.length_append, List.length_map, List.length_take]; rfl
theorem figF_in (x : Int) : 0 ≤ figF x ∧ figF x < 64 := by
  unfold figF
  have := Int.fmod_nonneg_of_pos x (b := 70) (by decide)
  split <;> omega
theorem figB_in (ns : List Int) : Figs (figB ns) := by
  intro x hx
  rcases List.mem_append.mp hx with hx | hx
  · simp at hx; omega
  · obtain ⟨y, _, rfl⟩ := List.mem_map.mp hx
    exact figF_in y
theorem figsOf_wf (ns : List Int) : Wf (figsOf ns) ∧ (figsOf ns).length ≤ 16 := by
  have hl := figB_len ns
  have hin := figB_in ns
  have hne : figB ns ≠ [] := by intro e; rw [e] at hl; simp at hl; omega
  obtain ⟨i, x, e⟩ : ∃ i x, figB ns = i ++ [x] := ⟨(figB ns).dropLast, (figB ns).getLast hne, (List.dropLast_concat_getLast hne).symm⟩
  have hx := hin x (by rw [e]; simp)
  have hi : Figs i := fun y hy => hin y (by rw [e]; exact List.mem_append.mpr (.inl hy))
  unfold figsOf
  rw [e] at hl ⊢
  rw [last_snoc, List.dropLast_concat]
  rw [List.length_append, List.length_singleton] at hl
  have hm : ∀ y : Int, Figs [y] → Figs (i ++ [y]) := fun y hy z hz => by
    rcases List.mem_append.mp hz with hz | hz
    · exact hi z hz
    · exact hy z hz
  rw [List.length_append, List.length_singleton]
  split
  · refine ⟨⟨hi, by omega, by omega, by omega⟩, by omega⟩
  · split
    · have e16 : x.fmod 16 = x % 16 := Int.fmod_eq_emod_of_nonneg _ (by decide)
      rw [e16]
      refine ⟨⟨hm _ (fun z hz => by rw [List.mem_singleton.mp hz]; omega), by rw [List.length_append, List.length_singleton]; omega, fun _ => by rw [last_snoc]; omega, fun h => by rw [List.length_append, List.length_singleton] at h; omega⟩, by rw [List.length_append, List.length_singleton]; omega⟩
    · split
      · have e4 : x.fmod 4 = x % 4 := Int.fmod_eq_emod_of_nonneg _ (by decide)
        rw [e4]
        refine ⟨⟨hm _ (fun z hz => by rw [List.mem_singleton.mp hz]; omega), by rw [List.length_append, List.length_singleton]; omega, fun h => by rw [List.length_append, List.length_singleton] at h; omega, fun _ => by rw [last_snoc]; omega⟩, by rw [List.length_append, List.length_singleton]; omega⟩
      · refine ⟨⟨hm _ (fun z hz => by rw [List.mem_singleton.mp hz]; exact hx), by rw [List.length_append, List.length_singleton]; omega, fun h => by rw [List.length_append, List.length_singleton] at h; omega, fun h => by rw [List.length_append, List.length_singleton] at h; omega⟩, by rw [List.length_append, List.length_singleton]; omega⟩
end
end Mine
namespace Mine
section
theorem news_list {h₀ h h' : Heap} {L l : Addr} {m : Str → Option Value} {news : List (Addr × Obj)} {o : Obj} (N : News h₀ L h news) (F : Fr h₀ L h m) (st : h.StaysIn h') (hg : h'.get? l = some o) (hn : h.get? l = none) : News h₀ L h' ((l, o) :: news) := by
  intro p hp
  rcases List.mem_cons.mp hp with rfl | hp
  · refine ⟨hg, ?_, ?_⟩
    · intro e
      obtain ⟨oL, es, ep, hL, _⟩ := F.ns
      have : l = L := e
      rw [this, hL] at hn
      cases hn
    · cases hq : h₀.get? l with
      | none => rfl
      | some o' => rw [F.keep _ _ hq] at hn; cases hn
  · exact ⟨st _ _ (N p hp).1, (N p hp).2⟩
theorem news_stay {h₀ h h' : Heap} {L : Addr} {news : List (Addr × Obj)} (N : News h₀ L h news) (st : h.StaysIn h') : News h₀ L h' news := fun p hp => ⟨st _ _ (N p hp).1, (N p hp).2⟩
theorem alt1 {k : Int} (h : 62 + k.fmod 2 = 62) : Alt 38 59 (62 + k.fmod 2) := h.symm ▸ Alt.one
theorem alt2 {k : Int} (h : ¬ 62 + k.fmod 2 = 62) : Alt 59 38 (62 + k.fmod 2) := by
  have h1 : k.fmod 2 = k % 2 := Int.fmod_eq_emod_of_nonneg _ (by decide)
  have h2 : 62 + k.fmod 2 = 63 := by omega
  rw [h2]
  exact Alt.two
local macro_rules | `(tactic| walk_at "call ref") => `(tactic| (k_here; (with_reducible show wpAny _ _ (call (Value.ref 117) _) _ _ _); (rename News _ _ _ _ => nE'); (rename Fr _ _ _ _ => fE'); k_dflt (refine' figures_spec ?hl ?hi ?hlen ?hk ?B fE' ?X ?T ?_; (case hl => is_list); (case hi => l_ints); (case hlen => l_fact); (case hk => exact rfl); (case B => k_asm); (case X => k_asm); (case T => k_asm); k_whole); intro l' vs' n' h' tk' F' st' hg' hn' hi'; (have N' := news_list nE' fE' st' hg' hn'); clear hg' hn' st' nE' fE'))
section
variable {w : World} {p : Program} {loose : List Str} {mean : ExcName → Option Value} {mg mb : Str → Option Value} {base h₀ : Heap} {LL fa c : Addr} {cn : Str} {cs : Scope} {m : Str → Option Value} {s : Shared} {Q E : Value → Shared → Prop} {alt : Array UInt8} {fs : List Int} {a0 a1 mark : Int} {t u : Tok} {q : Bool}
theorem alt_in {a0 a1 mark : Int} (h : Alt a0 a1 mark) : KBa.In [a0, a1] ∧ (0 ≤ a0 ∧ a0 < 128) ∧ (0 ≤ a1 ∧ a1 < 128) := by
  cases h <;> refine ⟨fun x hx => ?_, by omega, by omega⟩ <;> simp at hx <;> omega
theorem encode_S (hA : Alt a0 a1 mark) (halt : KBw.bInts alt = [a0, a1]) (W : Wf fs) (hlen : fs.length ≤ 300) (hcs : cs.kind = .function) (B : Below callerA base [] h₀) (F : Fr h₀ LL s.heap m) (X : (hd.heap_39 w.params).In h₀) (T : Top p loose mean mg mb h₀)
    (k : ∀ t h' tk', Fr h₀ LL h' m → s.heap.StaysIn h' → Q (.bytes (byteArr ((encF fs).map (trC 43 47 a0 a1))) t) { s with heap := h', toks := tk' }) :
    wpAny (model Challenge.rw_qh0088_01.row.prog w) (callerA.deeper (envOf cn cs LL fa (.ref c))) (call (.ref 102) [.bytes (byteArr (octL fs)) t, .bytes alt u]) Q E s := by
  have h1 := alt_in hA
  have h2 := octL_len fs
  refine encode_spec (ns := octL fs) (KBa.ints_make (octL_in W.figs)) halt h1.2.1 h1.2.2 (by omega) hcs B F X T ?_
  rw [enc_oct W]
  exact k
theorem decodeA_S {prog : Program} {A : Around} (hA : Alt a0 a1 mark) (W : Figs fs) (hne : 0 < fs.length) (hlen : fs.length ≤ 300) (h : ∀ t' k, Q (.str (strOf ((encF fs).map (trC 43 47 a0 a1))) t') { s with toks := k }) :
    wpAny (model prog w) A (call (.builtin "bytes.decode") [.bytes (byteArr ((encF fs).map (trC 43 47 a0 a1))) t, .str (PySem.Str.ofString "ascii") u]) Q E s := by
  have hp := enc_plain hA W
  have hl := encF_len fs
  have hl2 : fs.length ≤ (encF fs).length := by unfold encF; simp
  refine decodeA ?_ ?_ ?_ ?_
  · rw [byteArr_size, List.length_map]; omega
  · intro x hx
    obtain ⟨n, hn, rfl⟩ := List.mem_map.mp (show x ∈ ((encF fs).map (trC 43 47 a0 a1)).map (fun n => n.toNat.toUInt8) by simpa [byteArr] using hx)
    have := hp n hn
    show (UInt8.ofNat n.toNat).toNat < 128
    rw [UInt8.toNat_ofNat']
    omega
  · rw [byteArr_size, List.length_map, sizeLine_eq]; omega
  · have e : (⟨(byteArr ((encF fs).map (trC 43 47 a0 a1))).map (·.toNat)⟩ : Str) = strOf ((encF fs).map (trC 43 47 a0 a1)) := by
      refine Str.ext' (Array.toList_inj.mp ?_)
      show ((byteArr ((encF fs).map (trC 43 47 a0 a1))).map (·.toNat)).toList = ((encF fs).map (trC 43 47 a0 a1)).map Int.toNat
      unfold byteArr
      rw [List.map_toArray, List.map_map]
      refine List.map_congr_left fun n hn => ?_
      have := hp n hn
      show (UInt8.ofNat n.toNat).toNat = n.toNat
      rw [UInt8.toNat_ofNat']
      omega
    rw [e]
    exact h
theorem escape_S (hA : Alt a0 a1 mark) (W : Figs fs) (hlen : fs.length ≤ 300) (htk : 0 < s.toks) (hcs : cs.kind = .function) (B : Below callerA base [] h₀) (F : Fr h₀ LL s.heap m) (X : (hd.heap_39 w.params).In h₀) (T : Top p loose mean mg mb h₀)
    (k : ∀ t h' tk', Fr h₀ LL h' m → s.heap.StaysIn h' → Q (.str (strOf (ampL ((encF fs).map (trC 43 47 a0 a1)))) t) { s with heap := h', toks := tk' }) :
    wpAny (model Challenge.rw_qh0088_01.row.prog w) (callerA.deeper (envOf cn cs LL fa (.ref c))) (call (.ref 29) [.str (strOf ((encF fs).map (trC 43 47 a0 a1))) t, .bool q]) Q E s := by
  have hl := encF_len fs
  exact escape_spec (enc_plain hA W) (by rw [List.length_map]; omega) htk hcs B F X T k
theorem decode_S {gs : List Int} (hA : Alt a0 a1 mark) (halt : KBw.bInts alt = [a0, a1]) (W : Wf fs) (hlen : fs.length ≤ 300) (hg : sprL mark 1 fs = gs) (hcs : cs.kind = .function) (B : Below callerA base [] h₀) (F : Fr h₀ LL s.heap m) (X : (hd.heap_39 w.params).In h₀) (T : Top p loose mean mg mb h₀)
    (k : ∀ t h' tk', Fr h₀ LL h' m → s.heap.StaysIn h' → Q (.bytes (byteArr (octL gs)) t) { s with heap := h', toks := tk' }) :
    wpAny (model Challenge.rw_qh0088_01.row.prog w) (callerA.deeper (envOf cn cs LL fa (.ref c))) (call (.ref 110) [.str (strOf (ampL ((encF fs).map (trC 43 47 a0 a1)))) t, .bytes alt u, .bool true]) Q E s := by
  subst hg
  have hl := encF_len fs
  have hl2 := ampL_len ((encF fs).map (trC 43 47 a0 a1))
  rw [List.length_map] at hl2
  have W2 := W.spr hA 1
  exact decode_spec (fun n hn => ⟨((enc_plain hA W.figs).amp n hn).1, ((enc_plain hA W.figs).amp n hn).2.1⟩) (alt_in hA).1 halt (amp_enc hA W.figs) W2.figs W2.one (by omega) hcs B F X T k
end
theorem spr_le (ns : List Int) (mark : Int) (n : Nat) (hn : n ≤ 3) : (sprL mark n (figsOf ns)).length ≤ 300 := by
  have h1 := (spr_len mark n (figsOf ns)).2.2
  have h2 := (figsOf_wf ns).2
  have h3 : (4 * n + 1) * (figsOf ns).length ≤ (4 * n + 1) * 16 := Nat.mul_le_mul_left _ h2
  omega
theorem figs_pos (ns : List Int) : 0 < (figsOf ns).length := by
  have hl := figB_len ns
  unfold figsOf
  split
  · rw [List.length_dropLast]; omega
  · split
    · rw [List.length_append, List.length_singleton]; omega
    · split
      · rw [List.length_append, List.length_singleton]; omega
      · omega
theorem spr_pos (ns : List Int) (mark : Int) (n : Nat) : 0 < (sprL mark n (figsOf ns)).length := Nat.lt_of_lt_of_le (figs_pos ns) (spr_len mark n (figsOf ns)).2.1
theorem figs_le (ns : List Int) : (figsOf ns).length ≤ 300 := Nat.le_trans (figsOf_wf ns).2 (by decide)
theorem intb {a b : Int} (ha : 0 ≤ a ∧ a < 256) (hb : 0 ≤ b ∧ b < 256) : KBw.bInts (byteArr [a, b]) = [a, b] := KBa.ints_make (fun x hx => by simp at hx; rcases hx with rfl | rfl <;> assumption)
local macro_rules | `(tactic| walk_at "call ref") => `(tactic| (k_here; (with_reducible show wpAny _ _ (call (Value.ref 124) _) _ _ _); (rename News _ _ _ _ => nE'); (rename Fr _ _ _ _ => fE'); k_dflt (refine' octets_spec ?hl ?hi ?hx ?hlen ?hk ?B fE' ?X ?T ?_; (case hl => exact News.isList nE' (by k_mem)); (case hi => assumption); (case hx => first | exact (figsOf_wf _).1.figs | exact spr_figs (by first | exact alt1 (by assumption) | exact alt2 (by assumption)) _ (figsOf_wf _).1.figs); (case hlen => first | exact Nat.le_trans (figs_le _) (by decide) | exact Nat.le_trans (spr_le _ _ _ (by decide)) (by decide)); (case hk => exact rfl); (case B => k_asm); (case X => k_asm); (case T => k_asm); k_whole); intro t' h' tk' F' st'; (have N' := news_stay nE' st'); clear st' nE' fE'))
local macro_rules | `(tactic| walk_at "call ref") => `(tactic| (k_here; (with_reducible show wpAny _ _ (call (Value.ref 131) _) _ _ _); (rename News _ _ _ _ => nE'); (rename Fr _ _ _ _ => fE'); k_dflt (first
  | (refine' spread_spec (n := 1) ?hl ?hi ?hlen (.inl ⟨rfl, rfl⟩) ?hk ?B fE' ?X ?T ?_; (case hl => exact News.isList nE' (by k_mem)); (case hi => assumption); (case hlen => exact Nat.le_trans (figsOf_wf _).2 (by decide)); (case hk => exact rfl); (case B => k_asm); (case X => k_asm); (case T => k_asm); k_whole)
  | (refine' spread_spec (n := 2) ?hl ?hi ?hlen (.inr (.inl ⟨rfl, rfl⟩)) ?hk ?B fE' ?X ?T ?_; (case hl => exact News.isList nE' (by k_mem)); (case hi => assumption); (case hlen => exact Nat.le_trans (figsOf_wf _).2 (by decide)); (case hk => exact rfl); (case B => k_asm); (case X => k_asm); (case T => k_asm); k_whole)
  | (refine' spread_spec (n := 3) ?hl ?hi ?hlen (.inr (.inr ⟨rfl, rfl⟩)) ?hk ?B fE' ?X ?T ?_; (case hl => exact News.isList nE' (by k_mem)); (case hi => assumption); (case hlen => exact Nat.le_trans (figsOf_wf _).2 (by decide)); (case hk => exact rfl); (case B => k_asm); (case X => k_asm); (case T => k_asm); k_whole)); intro l' vs' n' h' tk' F' st' hg' hn' hi'; (have N' := news_list nE' fE' st' hg' hn'); clear hg' hn' st' nE' fE'))
local macro_rules | `(tactic| walk_at "call ref") => `(tactic| (k_here; (with_reducible show wpAny _ _ (call (Value.ref 102) _) _ _ _); (rename News _ _ _ _ => nE'); (rename Fr _ _ _ _ => fE'); k_dflt (refine' encode_S (fs := _) ?hA ?halt ?hW ?hlen ?hk ?B fE' ?X ?T ?_; (case hA => first | exact alt1 (by assumption) | exact alt2 (by assumption)); (case halt => first | exact intb (by decide) (by decide) | rfl | decide +kernel); (case hW => first | exact (figsOf_wf _).1 | exact Wf.spr (by first | exact alt1 (by assumption) | exact alt2 (by assumption)) _ (figsOf_wf _).1); (case hlen => first | exact figs_le _ | exact spr_le _ _ _ (by decide)); (case hk => exact rfl); (case B => k_asm); (case X => k_asm); (case T => k_asm); k_whole); intro t' h' tk' F' st'; (have N' := news_stay nE' st'); clear st' nE' fE'))
local macro_rules | `(tactic| walk_at "call builtin:bytes.decode") => `(tactic| (k_here; k_dflt (refine' decodeA_S ?hA ?hW ?hne ?hlen ?_; (case hA => first | exact alt1 (by assumption) | exact alt2 (by assumption)); (case hW => first | exact (figsOf_wf _).1.figs | exact spr_figs (by first | exact alt1 (by assumption) | exact alt2 (by assumption)) _ (figsOf_wf _).1.figs); (case hne => first | exact figs_pos _ | exact spr_pos _ _ _); (case hlen => first | exact figs_le _ | exact spr_le _ _ _ (by decide)); k_whole); intro t' tk'))
local macro_rules | `(tactic| walk_at "call ref") => `(tactic| (k_here; (with_reducible show wpAny _ _ (call (Value.ref 29) _) _ _ _); (rename News _ _ _ _ => nE'); (rename Fr _ _ _ _ => fE'); k_dflt (refine' escape_S ?hA ?hW ?hlen ?htk ?hk ?B fE' ?X ?T ?_; (case hA => first | exact alt1 (by assumption) | exact alt2 (by assumption)); (case hW => first | exact (figsOf_wf _).1.figs | exact spr_figs (by first | exact alt1 (by assumption) | exact alt2 (by assumption)) _ (figsOf_wf _).1.figs); (case hlen => first | exact figs_le _ | exact spr_le _ _ _ (by decide)); (case htk => exact Nat.succ_pos _); (case hk => exact rfl); (case B => k_asm); (case X => k_asm); (case T => k_asm); k_whole); intro t' h' tk' F' st'; (have N' := news_stay nE' st'); clear st' nE' fE'))
local macro_rules | `(tactic| walk_at "call ref") => `(tactic| (k_here; (with_reducible show wpAny _ _ (call (Value.ref 110) _) _ _ _); (rename News _ _ _ _ => nE'); (rename Fr _ _ _ _ => fE'); k_dflt (refine' decode_S ?hA ?halt ?hW ?hlen ?hg ?hk ?B fE' ?X ?T ?_; (case hA => first | exact alt1 (by assumption) | exact alt2 (by assumption)); (case halt => first | exact intb (by decide) (by decide) | rfl | decide +kernel); (case hW => first | exact (figsOf_wf _).1 | exact Wf.spr (by first | exact alt1 (by assumption) | exact alt2 (by assumption)) _ (figsOf_wf _).1); (case hlen => first | exact figs_le _ | exact spr_le _ _ _ (by decide)); (case hg => first | exact spr_spr (by first | exact alt1 (by assumption) | exact alt2 (by assumption)) _ _ | exact rfl); (case hk => exact rfl); (case B => k_asm); (case X => k_asm); (case T => k_asm); k_whole); intro t' h' tk' F' st'; (have N' := news_stay nE' st'); clear st' nE' fE'))
local macro_rules | `(tactic| walk_at "ite") => `(tactic| (refine PySem.W.ite_neg (by (simp only [bne_self_eq_false, Bool.false_eq_true, not_false_eq_true])) ?_))
local macro_rules | `(tactic| walk_at "call builtin:isinstance") => `(tactic| (k_here; (with_reducible show wpAny _ _ (call _ [Value.bytes _ _, _]) _ _ _); (rename Fr _ _ _ _ => fE'); k_dflt (refine' kia_one kitx_bytes ?X trivial ?ee ?nb ?_; (case X => exact Frag.In.keeps (by with_reducible assumption) (Fr.keep fE')); (case ee => kit_is); (case nb => kit_nb); k_whole; intro _)))
set_option maxRecDepth 100000 in
set_option maxHeartbeats 8000000 in
theorem holds : PySem.Challenge.rw_qh0088_01.Holds := by
  k_with_none
  refine hd ?_
  w_strict (k_go0; (all_goals try k_fold); k_steps)
end
end Mine
theorem PySem.Challenge.cw_qh0088_01_holds : PySem.Challenge.rw_qh0088_01.Holds :=
  Mine.holds
