import PyProof.Rows.All
import Wide.All
import OpenK.AllK
import Wide.FinOn
import PySem.Challenge.RW_qh0002_01
open PySem PySem.W PyProof.Rows
set_option Elab.async false
namespace Mine
set_option maxRecDepth 100000 in
set_option maxHeartbeats 8000000 in
open_top hd for PySem.Challenge.rw_qh0002_01
end Mine
set_option maxRecDepth 100000
open PySem PySem.W PySem.Calls PySem.Spec PyProof.Rows
namespace Mine
section
abbrev Ar (dp un : Nat) (gd : Option (List Code)) (outer : List Env) : Around := { handled := none, depth := dp, frames := some outer, guards := gd, units := un }

abbrev Kept (h h' : Heap) : Prop := ∀ b o, h.get? b = some o → h'.get? b = some o

/-- what a call of the def at f with these arguments gives back, whatever calls it -/
def Ctr (w : World) (f : Addr) (pos : List Value) (kw : List (Str × Value)) (d : Nat) (pre : Heap → Prop) (post : Heap → Value → Heap → Prop) : Prop :=
  ∀ (p : Program) (loose : List Str) (mean : ExcName → Option Value) (mg mb : Str → Option Value) (base : Heap) (outer : List Env) (dp un : Nat) (gd : Option (List Code)) (s : Shared) (Q E : Value → Shared → Prop),
    (hd.heap_39 w.params).In s.heap → Top p loose mean mg mb s.heap → Below (Ar dp un gd outer) base outer s.heap → dp + d < recursionLimit → un + 8 * d < cLine → pre s.heap →
    (∀ v h' tk, Kept s.heap h' → post s.heap v h' → Q v { s with heap := h', toks := tk }) →
    wpAny (model PySem.Challenge.rw_qh0002_01.row.prog w) (Ar dp un gd outer) (call (.ref f) pos kw) Q E s

theorem enterK {prog : Program} {w : World} {A : Around} {s : Shared} {K : Frag} {p : Program} {loose : List Str} {mean : ExcName → Option Value} {mg mb : Str → Option Value} {R : Result → Shared → Prop} {name qual : Str} {params : Arguments} {body : List Stmt} {scope : Scope} {dV kV doc pm cdv ct oc : Value} {an od : Option Addr} {osl : Array (Option Value)} {f : Addr} {args : Args} {binds : List (Str × Value)}
    (X : K.In s.heap) (T : Top p loose mean mg mb s.heap)
    (ho : K.lookup f = some ⟨oc, od, .func (fnOf name qual params body scope dV kV doc pm an cdv ct), osl⟩) (hcd : codeIn K cdv qual = true) (hroom : A.depth < recursionLimit)
    (hbind : BindsTo s (fnOf name qual params body scope dV kV doc pm an cdv ct) args binds) (hloc : ∀ y ∈ binds, scope.names.lookup y.1 = some .local)
    (h : ∀ L h₁, L = s.heap.objs.size → Fr s.heap L h₁ (fun y => binds.reverse.lookup y) → News s.heap L h₁ [] →
      wpAny (model prog w) (A.deeper (envOf qual scope L f cdv)) (execs body (envOf qual scope L f cdv))
        (fun fl s' => R (.ok (.ret (match fl with | .ret v => v | _ => .none))) s')
        (fun e s' => wpAny (model prog w) (A.deeper (envOf qual scope L f cdv)) (leaving (envOf qual scope L f cdv) e) (fun _ s'' => R (.error e) s'') (fun e' s'' => R (.error e') s'') s')
        { s with heap := h₁, toks := s.toks + binds.length })
    (hco : scope.isCoroutine = false) (hgen : scope.isGenerator = false) (hk : scope.kind = .function)
    (hcell : ∀ x ∈ scope.names, x.2 ≠ .cell) : codeAny (model prog w) A (.call (.ref f) args) R s := by
  refine codeAny_call_def (fd := fnX name qual params body scope [] dV kV doc pm an cdv ct) (body := body) (binds := binds) hroom (X _ _ ho) rfl T.nolimit (codeRec_of X hcd) rfl hbind hcell hloc (fun h₁ hns hk₁ => ?_) hco hgen hk
  exact h _ h₁ rfl ⟨hns, hk₁, Nat.le_refl _⟩ News.nil

theorem name_let {base h : Heap} {L : Addr} {m : Str → Option Value} {P : Prop} (F : Fr base L h m) (k : let m' := m; Fr base L h m' → P) : P := k F
theorem tok_gen {α : Type} {M : Model} {A : Around} {t : Sem α} {Q : α → Shared → Prop} {E : Value → Shared → Prop} {h : Heap} {g : Array GenState} {d : Drawn} {n : Nat} {o : OsState} (H : ∀ n, wpAny M A t Q E ⟨h, g, d, n, o⟩) : wpAny M A t Q E ⟨h, g, d, n, o⟩ := H n
theorem stv {M : Model} {A : Around} {n : Int} {t : Tok} {Q : Unit → Shared → Prop} {E : Value → Shared → Prop} {s : Shared} {env : Env} {x : Str} (h : ∀ u, wpAny M A (storeName env x (.int n u)) Q E s) : wpAny M A (storeName env x (.int n t)) Q E s := h t
theorem ar_let {α : Type} {M : Model} {A : Around} {t : Sem α} {Q : α → Shared → Prop} {E : Value → Shared → Prop} {s : Shared} (H : let A' := A; wpAny M A' t Q E s) : wpAny M A t Q E s := H
end
section
local macro_rules | `(tactic| walk_at "room") => `(tactic| first | omega | ((try dsimp +zetaDelta only [Ar, Around.deeper, Around.in1]); omega))
local macro_rules | `(tactic| walk_at "got") => `(tactic| k_dflt (intro v' h' tk' K' P' F' N'; (try dsimp only at P'); (try first | subst P' | (obtain ⟨u', e'⟩ := P'; subst e')); (try k_sweep)))
section
namespace R
open Builtin

theorem forIn_two {β : Type} (f : Nat → β → Sem (ForInStep β)) (init mid : β) (h0 : f 0 init = pure (.yield mid)) (h1 : ∀ i, f i mid = pure (.done mid)) (n : Nat) :
    forIn (List.range' 0 (n + 1) 1) init f = pure mid := by
  rw [List.range'_succ, List.forIn_cons, h0]
  show forIn (List.range' (0 + 1) n 1) mid f = pure mid
  cases n with
  | zero => rfl
  | succ n => rw [List.range'_succ, List.forIn_cons, h1]; rfl

theorem foldl_push (l : List Nat) : ∀ acc : Array UInt8, l.foldl (fun acc y => acc ++ [y.toUInt8].toArray) acc = acc ++ (l.map (·.toUInt8)).toArray := by
  induction l with
  | nil => intro acc; simp
  | cons a r ih => intro acc; rw [List.foldl_cons, ih]; simp [← Array.append_assoc]

theorem enc_narrow (id : String) (self : Value) (x : Str) (h : ∀ c ∈ x.cps, c < 128) (hne : x.cps.size ≠ 0) (hsz : x.cps.size ≤ 1000) :
    _codecs.encodeNarrow id _codecs.asciiCodec none self x = pure (x.cps.map (·.toUInt8)) := by
  unfold _codecs.encodeNarrow
  obtain ⟨cps⟩ := x
  obtain ⟨l⟩ := cps
  dsimp only [Str.length] at *
  obtain ⟨n, hn⟩ := Nat.exists_eq_succ_of_ne_zero hne
  rw [Std.Legacy.Range.forIn_eq_forIn_range']
  have hl : l.length = n + 1 := by simpa using hn
  have e : [:(⟨l⟩ : Array Nat).size].size = n + 1 := by simp [Std.Legacy.Range.size, hl]
  rw [e]
  have hfind : Array.findIdx? _codecs.asciiCodec.bad (⟨l⟩ : Array Nat) = none := by
    rw [Array.findIdx?_eq_none_iff]
    intro c hc
    have := h c hc
    simp [_codecs.asciiCodec]; omega
  have hsl : (⟨l⟩ : Array Nat).size ≤ sizeLine := by rw [sizeLine_eq]; omega
  rw [forIn_two _ _ (l.length, (l.map (·.toUInt8)).toArray, {})]
  · simp
  · obtain ⟨a, r, rfl⟩ : ∃ a r, l = a :: r := by cases l with | nil => simp at hl | cons a r => exact ⟨a, r, rfl⟩
    have ha : a < 128 := h a (by simp)
    have hb : (!_codecs.asciiCodec.bad a) = true := by simp [_codecs.asciiCodec]; omega
    rw [if_neg (by simp)]
    have h0 : (⟨a :: r⟩ : Array Nat)[0]? = some a := by simp
    have hx : (⟨a :: r⟩ : Array Nat).extract 0 = (⟨a :: r⟩ : Array Nat) := by simp
    simp only [h0]
    rw [if_pos hb, hx, hfind]
    simp only [Option.getD_none]
    have hy : (⟨a :: r⟩ : Array Nat).extract 0 (⟨a :: r⟩ : Array Nat).size = (⟨a :: r⟩ : Array Nat) := by simp
    rw [hy]
    have hz : Array.foldl (fun acc y => acc ++ (_codecs.asciiCodec.bytesOf y).toArray) #[] (⟨a :: r⟩ : Array Nat) = ((a :: r).map (·.toUInt8)).toArray := by
      have := foldl_push (a :: r) #[]
      rw [Array.empty_append] at this
      rw [← this, ← Array.foldl_toList]
      rfl
    rw [hz]
    simp
  · intro i
    rw [if_neg (by simp only [Array.size] at hsl ⊢; simp; exact hsl)]
    have : (⟨l⟩ : Array Nat)[l.length]? = none := by simp
    simp only [this]
end R
end
section
namespace R
open Builtin
theorem call_meets_kw {prog : Program} {w : World} {A : Around} {E : Value → Shared → Prop} {s : Shared} {T : String} {name : Str} {id : String} {B : Builtin} {self : Value} {rest : List Value} {kw : List (Str × Value)} {S : PySem.Spec} {Q : Value → Shared → Prop} (slot : Slot T name id) (hT : s.TypeIs self T)
    (entry : entryFor table id = some B) (args : argsOk id ⟨self :: rest, kw⟩) (g : Meets (B ⟨self :: rest, kw⟩) S) (h : S A (wants Q E) s) :
    wpAny (model prog w) A (call (.builtin id) (self :: rest) kw) Q E s :=
  wpAny_call (codeAny_call_builtin slot.plain entry (slot.check _ _ _ _ _ _ _ _ hT args (g prog w A (wants Q E) s h)))

theorem str_new_eq (b : Array UInt8) (t u : Tok) : «str.__new__» ⟨[.type "str", .bytes b t, .str (PySem.Str.ofString "ascii") u], []⟩ =
   (isType (.type "str") >>= fun _ => isSubtype (.type "str") (.type "str") >>= fun _ => mkStr (PySem.Str.ofString "ascii") >>= fun e => isInstance (.bytes b t) (.type "bytes") >>= fun _ => rule "str.__new__.decode-bytes" >>= fun _ => call (.builtin "bytes.decode") [.bytes b t] [(PySem.Str.ofString "encoding", e)] >>= fun v => ret v) := by kernel_rfl
theorem decode_eq (c : UInt8) (cs : List UInt8) (t u : Tok) : «bytes.decode» ⟨[.bytes (c :: cs).toArray t], [(PySem.Str.ofString "encoding", .str (PySem.Str.ofString "ascii") u)]⟩ = (mkStr (PySem.Str.ofString "utf-8") >>= fun _ => mkStr (PySem.Str.ofString "ascii") >>= fun e => mkStr (PySem.Str.ofString "bytes.decode") >>= fun d =>
    call (.builtin "_codecs.decode.text") [.bytes (c :: cs).toArray t, e, .none, d] >>= fun v => ret v) := by kernel_rfl
theorem road_ascii {id : String} {b : Array UInt8} : _codecs.decodeRoad id b (PySem.Str.ofString "ascii") none [] = (_codecs.runDecoder id _codecs.asciiDecoder none true b 0 [] >>= fun r => mkStr ⟨r.1⟩) := by kernel_rfl

theorem args_decode (a v : Value) : argsOk "bytes.decode" ⟨[a], [(PySem.Str.ofString "encoding", v)]⟩ := by
  unfold argsOk; kernel_rfl

theorem forIn_steps {β : Type} (f : Nat → β → Sem (ForInStep β)) (st : Nat → β) (n : Nat) (h : ∀ i p, p < n → f i (st p) = pure (.yield (st (p + 1)))) : forIn (List.range' 0 n 1) (st 0) f = pure (st n) := by
  have all : ∀ k i p : Nat, p + k = n → forIn (List.range' i k 1) (st p) f = pure (st n) := by
    intro k
    induction k with
    | zero => intro i p hp; simp at hp; subst hp; rfl
    | succ k ih =>
      intro i p hp
      rw [List.range'_succ, List.forIn_cons, h i p (by omega)]
      exact ih (i + 1) (p + 1) (by omega)
  exact all n 0 0 (by omega)

theorem dec_loop (id : String) (b : List UInt8) (h : ∀ c ∈ b, c.toNat < 128) (hsz : b.length ≤ 1000) :
    _codecs.runDecoder id _codecs.asciiDecoder none true b.toArray 0 [] = pure ((b.map (·.toNat)).toArray, b.length) := by
  unfold _codecs.runDecoder
  dsimp only
  rw [Std.Legacy.Range.forIn_eq_forIn_range']
  have e : [:b.toArray.size].size = b.length := by simp [Std.Legacy.Range.size]
  rw [e]
  refine Eq.trans (congrArg (fun z => z >>= _) (forIn_steps _ (fun p => (p, ((b.map (·.toNat)).take p).toArray, ({} : _codecs.Faults))) b.length ?_)) ?_
  · intro i p hp
    have hc : (b.toArray.getD p 0).toNat < 128 := by
      simp only [Array.getD_eq_getD_getElem?, List.getElem?_toArray, List.getElem?_eq_getElem hp, Option.getD_some]
      exact h _ (List.getElem_mem _)
    have hs : ¬ (((b.map (·.toNat)).take p).toArray).size > sizeLine := by rw [sizeLine_eq]; simp; omega
    have hp' : ¬ p ≥ b.toArray.size := by simp; omega
    have hfnd : _codecs.asciiDecoder.find true b.toArray p = _codecs.Found.text [(b.toArray.getD p 0).toNat] (p + 1) := by
      show (if (b.toArray.getD p 0).toNat < 128 then _ else _) = _
      rw [if_pos hc]; rfl
    dsimp only
    rw [if_neg hs, if_neg hp', hfnd]
    dsimp only
    congr 3
    rw [List.take_add_one]
    have hg : (b.map (·.toNat))[p]? = some (b.toArray.getD p 0).toNat := by
      simp only [Array.getD_eq_getD_getElem?, List.getElem?_toArray, List.getElem?_eq_getElem hp, Option.getD_some, List.getElem?_map, Option.map_some]
    rw [hg]
    simp
  · show (pure (((b.map (·.toNat)).take b.length).toArray, b.length) : Sem (Array Nat × Nat)) = _
    rw [List.take_of_length_le (by simp)]

theorem small_le {n : Nat} (h : n ≤ 1000) : n ≤ sizeLine := by rw [sizeLine_eq]; omega

theorem meets_text_ascii {b : List UInt8} {t t1 t2 : Tok} {d : PySem.Str} (h : ∀ c ∈ b, c.toNat < 128) (hsz : b.length ≤ 1000) :
    Meets («_codecs.decode.text» ⟨[.bytes b.toArray t, .str (PySem.Str.ofString "ascii") t1, .none, .str d t2], []⟩) (fun _ R s => R (.ok (.ret (.str ⟨(b.map (·.toNat)).toArray⟩ s.toks))) { s with toks := s.toks + 1 }) := by
  refine .of_wp fun prog w A R s hS => ?_
  show wpAny _ _ (Bytes.bytesLike _ (.bytes b.toArray t) >>= fun r => _) _ _ s
  refine wpAny_bind (wpAny_of_eq KBd.like_eq ?_)
  refine wpAny_bind (wpAny_of_eq KBd.held_eq ?_)
  show wpAny _ _ (_codecs.decodeRoad _ b.toArray (PySem.Str.ofString "ascii") none [] >>= fun v => _) _ _ s
  rw [road_ascii, dec_loop _ b h hsz]
  refine wpAny_bind (wpAny_bind (wpAny_pure ?_))
  exact wpAny_mkStr (wpAny_pure ⟨_, rfl, hS⟩) (small_le (by simp [PySem.Str.length]; exact hsz))

theorem meets_decode_ascii {c : UInt8} {cs : List UInt8} {t u : Tok} (h : ∀ x ∈ c :: cs, x.toNat < 128) (hsz : (c :: cs).length ≤ 1000) :
    Meets («bytes.decode» ⟨[.bytes (c :: cs).toArray t], [(PySem.Str.ofString "encoding", .str (PySem.Str.ofString "ascii") u)]⟩) (fun _ R s => ∀ t' k, R (.ok (.ret (.str ⟨((c :: cs).map (·.toNat)).toArray⟩ t'))) { s with toks := k }) := by
  refine .of_wp fun prog w A R s hS => ?_
  rw [decode_eq]
  refine wpAny_bind (wpAny_mkStr ?_ (by decide))
  refine wpAny_bind (wpAny_mkStr ?_ (by decide))
  refine wpAny_bind (wpAny_mkStr ?_ (by decide))
  exact wpAny_bind (call_function_meets KBd.kind_text KBd.plain_text KBd.entry_text (KBd.args_text _ _ _ _) (meets_text_ascii h hsz) (wpAny_pure ⟨_, rfl, hS _ _⟩))

theorem meets_new_ascii {c : UInt8} {cs : List UInt8} {t u : Tok} (h : ∀ x ∈ c :: cs, x.toNat < 128) (hsz : (c :: cs).length ≤ 1000) :
    Meets («str.__new__» ⟨[.type "str", .bytes (c :: cs).toArray t, .str (PySem.Str.ofString "ascii") u], []⟩) (fun _ R s => ∀ t' k, R (.ok (.ret (.str ⟨((c :: cs).map (·.toNat)).toArray⟩ t'))) { s with toks := k }) := by
  refine .of_wp fun prog w A R s hS => ?_
  rw [str_new_eq]
  refine wpAny_bind (wpAny_pure ?_)
  refine wpAny_bind (wpAny_of_eq isSubtype_str_str ?_)
  refine wpAny_bind (wpAny_mkStr ?_ (by decide))
  refine wpAny_bind (wpAny_of_eq KBy.isInstance_eq ?_)
  refine wpAny_bind (wpAny_rule ?_)
  exact wpAny_bind (call_meets_kw FB.slot_bytes_decode (typeIs_bytes _ _ _) FB.entry_bytes_decode (args_decode _ _) (meets_decode_ascii h hsz) (fun t' k => wpAny_pure ⟨_, rfl, hS _ _⟩))

theorem typeCall_str_2 (a b : Value) : checkTypeCall "str" ⟨[a, b], []⟩ = pure () := by kernel_rfl
theorem newCall_str_2 (a b : Value) : checkBuiltinCall "str.__new__" ⟨[.type "str", a, b], []⟩ = pure () := by kernel_rfl
theorem init_str_2 (obj a b : Value) : argsOk "object.__init__" ⟨[obj, a, b], []⟩ := by unfold argsOk; kernel_rfl

section
variable {prog : Program} {w : World} {A : Around} {E : Value → Shared → Prop} {s : Shared} {Q : Value → Shared → Prop}
theorem str_ascii {b : List UInt8} {t u : Tok} (hne : b ≠ []) (h : ∀ x ∈ b, x.toNat < 128) (hsz : b.length ≤ 1000) (hQ : ∀ t' k, Q (.str ⟨(b.map (·.toNat)).toArray⟩ t') { s with toks := k }) :
    wpAny (model prog w) A (call (.type "str") [.bytes b.toArray t, .str (PySem.Str.ofString "ascii") u]) Q E s := by
  cases b with
  | nil => exact absurd rfl hne
  | cons c cs =>
    exact callType_new F.called_str (by decide) (typeCall_str_2 _ _) (newCall_str_2 _ _) (fun obj => init_str_2 obj _ _) F.entry_str_new (meets_new_ascii h hsz) (fun t' k => ⟨typeIs_str _ _ _, hQ t' k⟩)

theorem encode_eq (x : PySem.Str) (t u : Tok) : «str.encode» ⟨[.str x t, .str (PySem.Str.ofString "ascii") u], []⟩ = ((_codecs.encodeNarrow "str.encode" _codecs.asciiCodec none (.str x t) x >>= fun b => mkBytes b) >>= fun v => ret v) := by kernel_rfl
theorem args_encode (a b : Value) : argsOk "str.encode" ⟨[a, b], []⟩ := by unfold argsOk; kernel_rfl
theorem encode_ascii {x : PySem.Str} {t u : Tok} (h : ∀ c ∈ x.cps, c < 128) (hne : x.cps.size ≠ 0) (hsz : x.cps.size ≤ 1000) (hQ : ∀ t' k, Q (.bytes (x.cps.map (·.toUInt8)) t') { s with toks := k }) :
    wpAny (model prog w) A (call (.builtin "str.encode") [.str x t, .str (PySem.Str.ofString "ascii") u]) Q E s := by
  refine wpAny_call_entry F.slot_str_encode (typeIs_str _ _ _) F.entry_str_encode ?_ (args_encode _ _)
  rw [encode_eq, enc_narrow _ _ x h hne hsz]
  exact wpAny_bind (wpAny_bind (wpAny_pure (wpAny_mkBytes (wpAny_pure ⟨_, rfl, hQ _ _⟩) (small_le (by simpa using hsz)))))
theorem getm_encode {M : Model} {x : PySem.Str} {t : Tok} {pl : Sem Bool} {Q : Value × List Value → Shared → Prop} (h : Q (.builtin "str.encode", [.str x t]) s) : wpAny M A (getMethod (.str x t) (PySem.Str.ofString "encode") pl) Q E s := by
  with_reducible exact getMethod_builtin (typeIs_str _ _ _) F.plainAttrs_str F.slot_str_encode F.type_str_encode (fun _ e => nomatch e) h

def hexCps (b : Array UInt8) : Array Nat := b.toList.zipIdx.foldl (fun (out : Array Nat) (c, _i) => (out.push (Bytes.hexDigit (c.toNat / 16))).push (Bytes.hexDigit (c.toNat % 16))) #[]
theorem hex_eq (b : Array UInt8) (t : Tok) : «bytes.hex» ⟨[.bytes b t], []⟩ = (mkStr ⟨hexCps b⟩ >>= fun v => ret v) := by kernel_rfl
theorem hex_call {b : Array UInt8} {t : Tok} (hsz : (hexCps b).size ≤ 1000) (hQ : ∀ t' k, Q (.str ⟨hexCps b⟩ t') { s with toks := k }) :
    wpAny (model prog w) A (call (.builtin "bytes.hex") [.bytes b t]) Q E s := by
  refine wpAny_call_entry FB.slot_bytes_hex (typeIs_bytes _ _ _) FB.entry_bytes_hex ?_ (FB.args_bytes_hex_1 _)
  rw [hex_eq]
  exact wpAny_bind (wpAny_mkStr (wpAny_pure ⟨_, rfl, hQ _ _⟩) (small_le hsz))
theorem getm_hex {M : Model} {b : Array UInt8} {t : Tok} {pl : Sem Bool} {Q : Value × List Value → Shared → Prop} (h : Q (.builtin "bytes.hex", [.bytes b t]) s) : wpAny M A (getMethod (.bytes b t) (PySem.Str.ofString "hex") pl) Q E s := by
  with_reducible exact KBd.method_of (.bytes b t) (typeIs_bytes _ _ _) FB.slot_bytes_hex FB.type_bytes_hex KBd.noRef h

theorem slot_upper : Slot "bytes" "upper" "bytes.upper" :=
  .of (owner := "bytes") (n := "upper") (by rw [typeLookup_type, builtinLookup_eq_fast]; kernel_rfl) (by decide +kernel) (by decide +kernel) (by decide +kernel)
    (by first | exact .inl (by decide +kernel) | exact .inr (by decide +kernel)) (by rw [isSubtype_type]; kernel_rfl)
theorem type_upper : typeOf (.builtin "bytes.upper") = pure (.type "method_descriptor") := by show builtinType _ = _; rw [builtinType_eq_fast]; kernel_rfl
theorem entry_upper : entryFor table "bytes.upper" = some Builtin.«bytes.upper» := entryFor_of_tree (by kernel_rfl)
theorem args_upper (a : Value) : argsOk "bytes.upper" ⟨[a], []⟩ := by unfold argsOk; kernel_rfl
theorem upper_eq (b : Array UInt8) (t : Tok) : «bytes.upper» ⟨[.bytes b t], []⟩ = (mkBytes (b.toList.map Bytes.toUpper).toArray >>= fun v => ret v) := by kernel_rfl
theorem upper_call {b : Array UInt8} {t : Tok} (hsz : b.size ≤ 1000) (hQ : ∀ t' k, Q (.bytes (b.toList.map Bytes.toUpper).toArray t') { s with toks := k }) :
    wpAny (model prog w) A (call (.builtin "bytes.upper") [.bytes b t]) Q E s := by
  refine wpAny_call_entry slot_upper (typeIs_bytes _ _ _) entry_upper ?_ (args_upper _)
  rw [upper_eq]
  exact wpAny_bind (wpAny_mkBytes (wpAny_pure ⟨_, rfl, hQ _ _⟩) (small_le (by simpa using hsz)))
theorem getm_upper {M : Model} {b : Array UInt8} {t : Tok} {pl : Sem Bool} {Q : Value × List Value → Shared → Prop} (h : Q (.builtin "bytes.upper", [.bytes b t]) s) : wpAny M A (getMethod (.bytes b t) (PySem.Str.ofString "upper") pl) Q E s := by
  with_reducible exact KBd.method_of (.bytes b t) (typeIs_bytes _ _ _) slot_upper type_upper KBd.noRef h
theorem type_bytes {b : Array UInt8} {t : Tok} (h : Q (.type "bytes") s) : wpAny (model prog w) A (call (.type "type") [.bytes b t]) Q E s := call_type_of (typeIs_bytes _ _ _) (by decide +kernel) h
end
end R
end
section
theorem ctr_use {w : World} {f : Addr} {pos : List Value} {kw : List (Str × Value)} {d : Nat} {pre : Heap → Prop} {post : Heap → Value → Heap → Prop} (c : Ctr w f pos kw d pre post)
    {p : Program} {loose : List Str} {mean : ExcName → Option Value} {mg mb : Str → Option Value} {base h₀ : Heap} {outer : List Env} {dp un : Nat} {gd : Option (List Code)} {s : Shared} {L : Addr} {m : Str → Option Value} {news : List (Addr × Obj)} {env : Env} {Q E : Value → Shared → Prop}
    (B : Below (Ar dp un gd outer) base outer h₀) (F : Fr h₀ L s.heap m) (X : (hd.heap_39 w.params).In h₀) (N : News h₀ L s.heap news) (T : Top p loose mean mg mb h₀)
    (hf : env.frame = some L) (hk : env.scope.kind = .function) (hdp : dp + 1 + d < recursionLimit) (hun : un + 3 + 8 * d < cLine) (hp : pre s.heap)
    (h : ∀ v h' tk, Kept s.heap h' → post s.heap v h' → Fr h₀ L h' m → News h₀ L h' news → Q v { s with heap := h', toks := tk }) :
    wpAny (model PySem.Challenge.rw_qh0002_01.row.prog w) (Ar (dp + 1) (un + 3) gd (env :: outer)) (call (.ref f) pos kw) Q E s :=
  c p loose mean mg mb base (env :: outer) (dp + 1) (un + 3) gd s Q E (X.keeps F.keep) (T.keeps F.keep) (pushX B F hf hk) hdp hun hp
    fun v h' tk hk ho => h v h' tk hk ho (F.keeps hk) (N.grown hk)
theorem ctr_useA {w : World} {f : Addr} {pos : List Value} {kw : List (Str × Value)} {d : Nat} {pre : Heap → Prop} {post : Heap → Value → Heap → Prop} (c : Ctr w f pos kw d pre post)
    {p : Program} {loose : List Str} {mean : ExcName → Option Value} {mg mb : Str → Option Value} {base h₀ : Heap} {outer : List Env} {dp un : Nat} {gd : Option (List Code)} {s : Shared} {L : Addr} {m : Str → Option Value} {news : List (Addr × Obj)} {env : Env} {Q E : Value → Shared → Prop}
    (h : ∀ v h' tk, Kept s.heap h' → post s.heap v h' → Fr h₀ L h' m → News h₀ L h' news → Q v { s with heap := h', toks := tk }) (hp : pre s.heap)
    (B : Below (Ar dp un gd outer) base outer h₀ := by k_asm) (F : Fr h₀ L s.heap m := by k_asm) (X : (hd.heap_39 w.params).In h₀ := by k_asm) (N : News h₀ L s.heap news := by k_asm) (T : Top p loose mean mg mb h₀ := by k_asm)
    (hf : env.frame = some L := by exact rfl) (hk : env.scope.kind = .function := by exact rfl) (hdp : dp + 1 + d < recursionLimit := by walk_at "room") (hun : un + 3 + 8 * d < cLine := by walk_at "room") :
    wpAny (model PySem.Challenge.rw_qh0002_01.row.prog w) (Ar (dp + 1) (un + 3) gd (env :: outer)) (call (.ref f) pos kw) Q E s :=
  ctr_use c B F X N T hf hk hdp hun hp h
end
section
def marks : List Int := [0, 62, 251, 255, 105, 183, 29, 7]
def allRows : List (List Int) := marks.map (fun a => [a]) ++ marks.flatMap (fun a => marks.map fun b => [a, b]) ++ marks.flatMap (fun a => marks.flatMap fun b => marks.map fun c => [a, b, c])
theorem row_cases {ns : List Int} (h : ns ∈ allRows) : (∃ a, a ∈ marks ∧ ns = [a]) ∨ (∃ a b, a ∈ marks ∧ b ∈ marks ∧ ns = [a, b]) ∨ (∃ a b c, a ∈ marks ∧ b ∈ marks ∧ c ∈ marks ∧ ns = [a, b, c]) := by
  unfold allRows at h
  simp only [List.mem_append, List.mem_map, List.mem_flatMap] at h
  rcases h with (⟨a, ha, rfl⟩ | ⟨a, ha, b, hb, rfl⟩) | ⟨a, ha, b, hb, c, hc, rfl⟩
  · exact .inl ⟨a, ha, rfl⟩
  · exact .inr (.inl ⟨a, b, ha, hb, rfl⟩)
  · exact .inr (.inr ⟨a, b, c, ha, hb, hc, rfl⟩)
theorem row1 {a : Int} (ha : a ∈ marks) : [a] ∈ allRows := by
  unfold allRows; simp only [List.mem_append, List.mem_map, List.mem_flatMap]; exact .inl (.inl ⟨a, ha, rfl⟩)
theorem row2 {a b : Int} (ha : a ∈ marks) (hb : b ∈ marks) : [a, b] ∈ allRows := by
  unfold allRows; simp only [List.mem_append, List.mem_map, List.mem_flatMap]; exact .inl (.inr ⟨a, ha, b, hb, rfl⟩)
theorem row3 {a b c : Int} (ha : a ∈ marks) (hb : b ∈ marks) (hc : c ∈ marks) : [a, b, c] ∈ allRows := by
  unfold allRows; simp only [List.mem_append, List.mem_map, List.mem_flatMap]; exact .inr ⟨a, ha, b, hb, c, hc, rfl⟩
theorem mark_in {a : Int} (h : a ∈ marks) : 0 ≤ a ∧ a < 256 := by
  have : marks.all (fun a => decide (0 ≤ a) && decide (a < 256)) = true := by decide +kernel
  have := List.all_eq_true.mp this a h
  simpa using this
theorem all_rows {p : List Int → Bool} (h : allRows.all p = true) {ns : List Int} (hn : ns ∈ allRows) : p ns = true := List.all_eq_true.mp h ns hn

/-- the signs of the writing to the base 16, small letters, as the bytes' hex gives them -/
def hexLow (ns : List Int) : Array UInt8 := (R.hexCps (byteArr ns)).map (·.toUInt8)
def hexUp (ns : List Int) : List UInt8 := (hexLow ns).toList.map Builtin.Bytes.toUpper
theorem hex_facts {ns : List Int} (hn : ns ∈ allRows) : (∀ c ∈ R.hexCps (byteArr ns), c < 128) ∧ (R.hexCps (byteArr ns)).size ≠ 0 ∧ (R.hexCps (byteArr ns)).size ≤ 1000 ∧ (hexLow ns).size ≤ 1000 ∧ (∀ c ∈ hexUp ns, c.toNat < 128) ∧ hexUp ns ≠ [] ∧ (hexUp ns).length ≤ 1000 := by
  have h := all_rows (p := fun ns => (R.hexCps (byteArr ns)).all (fun c => decide (c < 128)) && decide ((R.hexCps (byteArr ns)).size ≠ 0) && decide ((R.hexCps (byteArr ns)).size ≤ 1000) && decide ((hexLow ns).size ≤ 1000) && (hexUp ns).all (fun c => decide (c.toNat < 128)) && !(hexUp ns).isEmpty && decide ((hexUp ns).length ≤ 1000)) (by decide +kernel) hn
  simp only [Bool.and_eq_true, decide_eq_true_eq, List.all_eq_true] at h
  obtain ⟨⟨⟨⟨⟨⟨h1, h2⟩, h3⟩, h4⟩, h5⟩, h6⟩, h7⟩ := h
  refine ⟨fun c hc => ?_, h2, h3, h4, h5, ?_, h7⟩
  · have := Array.all_eq_true_iff_forall_mem.mp h1 c hc; simpa using this
  · intro e; rw [e] at h6; cases h6
end
section
namespace R
section
variable {prog : Program} {w : World} {A : Around} {E : Value → Shared → Prop} {s : Shared} {Q : Value → Shared → Prop} {x y n : Int} {t u : Tok}
theorem bitOr_nat (a b : Nat) : Builtin.bitOr (a : Int) (b : Int) = ((a ||| b : Nat) : Int) := by
  unfold Builtin.bitOr Builtin.bitAnd
  have h1 : decide (0 ≤ Builtin.bitNot (a : Int)) = false := by simp [Builtin.bitNot]; omega
  have h2 : decide (0 ≤ Builtin.bitNot (b : Int)) = false := by simp [Builtin.bitNot]; omega
  rw [h1, h2]
  have e1 : ∀ z : Int, Builtin.bitNot (Builtin.bitNot z) = z := by intro z; simp only [Builtin.bitNot]; omega
  simp only [e1, Int.toNat_natCast]
theorem bor_nat (k x y : Nat) (h : y < 2 ^ k) : Builtin.bitOr ((x * 2 ^ k : Nat) : Int) (y : Int) = ((x * 2 ^ k + y : Nat) : Int) := by
  rw [bitOr_nat, Nat.mul_comm x, Nat.two_pow_add_eq_or_of_lt h]
theorem bor_eq (k : Nat) (m : Int) (hm : ((2 ^ k : Nat) : Int) = m) (hx : 0 ≤ x) (hy : 0 ≤ y) (hy2 : y < m) : Builtin.bitOr (x * m) y = x * m + y := by
  obtain ⟨X, rfl⟩ := Int.eq_ofNat_of_zero_le hx
  obtain ⟨Y, rfl⟩ := Int.eq_ofNat_of_zero_le hy
  subst hm
  have := bor_nat k X Y (by omega)
  push_cast at this ⊢
  exact this
theorem bor (k : Nat) (m : Int) (hm : ((2 ^ k : Nat) : Int) = m) (hx : 0 ≤ x) (hy : 0 ≤ y) (hy2 : y < m) (h : ∀ t k, Q (.int (x * m + y) t) { s with toks := k }) :
    wpAny (model prog w) A (binaryOp .BitOr (.int (x * m) t) (.int y u)) Q E s := or_int (by rw [bor_eq k m hm hx hy hy2]; exact h _ _)
theorem shl (k : Nat) (m : Int) (hn : n = k) (hk : k ≤ 1000) (hm : (2 : Int) ^ k = m) (hx : 0 ≤ x) (hx2 : x < 4294967296) (h : ∀ t k, Q (.int (x * m) t) { s with toks := k }) :
    wpAny (model prog w) A (binaryOp .LShift (.int x t) (.int n u)) Q E s := by
  subst hn
  refine lshift_int_small (by omega) (by omega) ?_ ?_
  · have : (2 : Nat) ^ 64 = 18446744073709551616 := by decide
    omega
  · rw [Int.toNat_natCast, hm]; exact h _ _
theorem shr (k : Nat) (m : Int) (hn : n = k) (hm : (2 : Int) ^ k = m) (hm0 : 0 < m) (h : ∀ t k, Q (.int (x / m) t) { s with toks := k }) :
    wpAny (model prog w) A (binaryOp .RShift (.int x t) (.int n u)) Q E s := by
  subst hn
  refine rshift_int (by omega) ?_
  rw [Int.toNat_natCast, hm, Int.fdiv_eq_ediv_of_nonneg _ (by omega)]; exact h _ _
theorem band3 (h : ∀ t k, Q (.int (x % 4) t) { s with toks := k }) : wpAny (model prog w) A (binaryOp .BitAnd (.int x t) (.int 3 u)) Q E s := and_int (by rw [bitAnd_m2]; exact h _ _)
theorem band15 (h : ∀ t k, Q (.int (x % 16) t) { s with toks := k }) : wpAny (model prog w) A (binaryOp .BitAnd (.int x t) (.int 15 u)) Q E s := and_int (by rw [bitAnd_m4]; exact h _ _)
theorem band63 (h : ∀ t k, Q (.int (x % 64) t) { s with toks := k }) : wpAny (model prog w) A (binaryOp .BitAnd (.int x t) (.int 63 u)) Q E s := and_int (by rw [bitAnd_m6]; exact h _ _)
theorem band65535 (h : ∀ t k, Q (.int (x % 65536) t) { s with toks := k }) : wpAny (model prog w) A (binaryOp .BitAnd (.int x t) (.int 65535 u)) Q E s := and_int (by rw [bitAnd_m16]; exact h _ _)
end
end R
end
section
namespace R
def InB (ns : List Int) : Prop := ∀ n ∈ ns, 0 ≤ n ∧ n < 256
theorem inb_nil : InB [] := fun _ h => nomatch h
theorem inb_int {n : Int} {r : List Int} (h0 : 0 ≤ n) (h1 : n < 256) (h : InB r) : InB (n :: r) := fun x hx => by
  rcases List.mem_cons.mp hx with rfl | hx
  · exact ⟨h0, h1⟩
  · exact h x hx
theorem inb_u8 (c : UInt8) {r : List Int} (h : InB r) : InB (((c.toNat : Nat) : Int) :: r) := inb_int (Int.natCast_nonneg _) (by have := c.toNat_lt; omega) h
theorem inb_snoc {n : Int} {r : List Int} (h : InB r) (h0 : 0 ≤ n) (h1 : n < 256) : InB (r ++ [n]) := fun x hx => by
  rcases List.mem_append.mp hx with hx | hx
  · exact h x hx
  · rw [List.mem_singleton.mp hx]; exact ⟨h0, h1⟩
theorem inb_snoc8 (c : UInt8) {r : List Int} (h : InB r) : InB (r ++ [((c.toNat : Nat) : Int)]) := inb_snoc h (Int.natCast_nonneg _) (by have := c.toNat_lt; omega)
theorem ints_nil : IntsAre (#[] : Array Value).toList [] := .nil
theorem ints_app : ∀ {vs : List Value} {ns : List Int} (_ : IntsAre vs ns) (n : Int) (t : Tok), IntsAre (vs ++ [.int n t]) (ns ++ [n])
  | _, _, .nil, n, t => .cons n t .nil
  | _, _, .cons a u r, n, t => .cons a u (ints_app r n t)
theorem ints_push {its : Array Value} {ns : List Int} (h : IntsAre its.toList ns) (n : Int) (t : Tok) : IntsAre (its.push (.int n t)).toList (ns ++ [n]) := by
  rw [Array.toList_push]; exact ints_app h n t
section
variable {prog : Program} {w : World} {A : Around} {E : Value → Shared → Prop} {s : Shared} {Q : Value → Shared → Prop} {h₀ : Heap} {L D : Addr} {m : Str → Option Value} {news : List (Addr × Obj)} {its : Array Value} {n : Nat} {ns : List Int}
theorem news_list (N : News h₀ L s.heap news) (hm : (D, W.listOf its n) ∈ news) : s.heap.IsList D its.toList.toArray := by
  rw [Array.toArray_toList]
  exact ⟨_, (N _ hm).1, rfl, _, rfl⟩
theorem bytes_news (F : Fr h₀ L s.heap m) (N : News h₀ L s.heap news) (hh : A.handled = none) (hm : (D, W.listOf its n) ∈ news) (hi : IntsAre its.toList ns) (hr : InB ns) (hn : ns.length ≤ 1000)
    (h : ∀ h' t' k, Fr h₀ L h' m → News h₀ L h' news → Q (.bytes (byteArr ns) t') { s with heap := h', toks := k }) : wpAny (model prog w) A (call (.type "bytes") [.ref D]) Q E s :=
  KBa.make_K F N hh (news_list N hm) hi hr (by omega) fun h' t' k F' N' _ => h h' t' k F' N'
end
end R
end
section
namespace R
open Builtin Builtin.Re
def reCode : Array Nat := #[14, 12, 4, 1, 1, 21, 22, 48, 57, 22, 65, 70, 0, 13, 9, 21, 22, 48, 57, 22, 65, 70, 0, 1]
def reM (b : Array UInt8) : Sre.M := (Sre.forSearch reCode (b.map (·.toNat)) 0 0 b.size false).runFor 4
def failedB (m : Sre.M) : Bool := match m.outcome with | some .failed => true | _ => false
def matchedB (m : Sre.M) : Bool := match m.outcome with | some .matched => true | _ => false

section
variable {M : Model} {prog : Program} {w : World} {A : Around} {E : Value → Shared → Prop} {s : Shared}
theorem wp_rules (seen : Nat → Bool) (nm : Nat → String) : ∀ (l : List Nat) {Q : PUnit → Shared → Prop} (_ : Q ⟨⟩ s), wpAny M A (forIn l PUnit.unit fun i _ => if seen i = true then rule (nm i) >>= fun _ => pure (ForInStep.yield PUnit.unit) else pure (ForInStep.yield PUnit.unit)) Q E s
  | [], Q, h => wpAny_pure h
  | i :: r, Q, h => by
    rw [List.forIn_cons]
    refine wpAny_bind ?_
    by_cases hs : seen i = true
    · rw [if_pos hs]
      exact wpAny_bind (wpAny_rule (wpAny_pure (wp_rules seen nm r h)))
    · rw [if_neg hs]
      exact wpAny_pure (wp_rules seen nm r h)

theorem wp_drive {m : Sre.M} {n : Nat} (ho : (m.runFor 4).outcome.isSome = true) {Q : Sre.M → Shared → Prop} (h : Q (m.runFor 4) s) : wpAny M A (reDrive (n + 1) m) Q E s := by
  unfold reDrive
  show wpAny M A (if (m.runFor 4).outcome.isSome = true then pure (m.runFor 4) else _) Q E s
  rw [if_pos ho]
  exact wpAny_pure h
theorem wp_runFail {m : Sre.M} (ho : failedB (m.runFor 4) = true) {Q : Option Sre.M → Shared → Prop} (h : Q none s) : wpAny M A (reRunToEnd m) Q E s := by
  have hs : (m.runFor 4).outcome = some .failed := by
    unfold failedB at ho
    split at ho
    · assumption
    · cases ho
  unfold reRunToEnd
  refine wpAny_bind ?_
  have e : (2 : Nat) ^ 64 = 18446744073709551615 + 1 := by decide
  rw [e]
  refine wp_drive (by rw [hs]; rfl) ?_
  refine wpAny_bind (wp_rules (fun i => (m.runFor 4).seen.has i) (fun i => Sre.names.getD i "") _ ?_)
  rw [hs]
  exact wpAny_pure h
theorem wp_runMatch {m : Sre.M} (ho : matchedB (m.runFor 4) = true) {Q : Option Sre.M → Shared → Prop} (h : Q (some (m.runFor 4)) s) : wpAny M A (reRunToEnd m) Q E s := by
  have hs : (m.runFor 4).outcome = some .matched := by
    unfold matchedB at ho
    split at ho
    · assumption
    · cases ho
  unfold reRunToEnd
  refine wpAny_bind ?_
  have e : (2 : Nat) ^ 64 = 18446744073709551615 + 1 := by decide
  rw [e]
  refine wp_drive (by rw [hs]; rfl) ?_
  refine wpAny_bind (wp_rules (fun i => (m.runFor 4).seen.has i) (fun i => Sre.names.getD i "") _ ?_)
  rw [hs]
  exact wpAny_pure h

def patObj : Obj := { cls := .type "re.Pattern", data := .fields #[.bytes #[91, 94, 48, 45, 57, 65, 45, 70, 93] 302, .int 0 329, .int 0 0, .none, .none, .ref 50, .int 1 0] }
theorem named_eq (v : Value) : reNamed "re.Pattern.search" "search" ["string", "pos", "endpos"] 1 [v] [] = pure [some v, none, none] := by kernel_rfl
theorem textOf_eq (b : Array UInt8) (t : Tok) : reTextOf (.bytes b t) = pure (b.map (·.toNat), 1) := by
  unfold reTextOf
  show (Bytes.bufferQuiet? "_sre" (.bytes b t) >>= _) = _
  rw [KBy.quiet_eq]
  rfl
theorem wp_target {b : Array UInt8} {t : Tok} {o : Obj} {its : Array Value} {n : Nat} (h51 : s.heap.get? 51 = some patObj) (h50 : s.heap.get? 50 = some o) (hd : o.data = .seq its n) (hc : (its.map reRawOf).map (·.toNat) = reCode) (hb : b.size < 2 ^ 60) {Q : ReTarget → Shared → Prop}
    (h : Q { pattern := .ref 51, string := .bytes b t, code := reCode, text := b.map (·.toNat), kind := 1, groups := 0, pos := 0, lim := b.size } s) : wpAny M A (reTarget "re.Pattern.search" "search" ⟨[.ref 51, .bytes b t], []⟩) Q E s := by
  unfold reTarget
  dsimp only
  rw [named_eq]
  refine wpAny_bind (wpAny_pure ?_)
  dsimp only
  refine wpAny_bind (wpAny_pure ?_)
  refine wpAny_bind (wpAny_pure ?_)
  refine wpAny_bind (wpAny_fieldsOf h51 rfl ?_)
  rw [textOf_eq]
  refine wpAny_bind (wpAny_pure ?_)
  refine bm_if_false rfl ?_
  refine bm_if_false rfl ?_
  refine wpAny_bind ?_
  have hno : reNoCollectionInside (.bytes b t) 1 = pure () := by
    unfold reNoCollectionInside
    rw [KBy.isInstance_eq]
    rfl
  refine wpAny_of_eq hno ?_
  refine wpAny_bind ?_
  show wpAny M A (reRawItems (.ref 50)) _ E s
  unfold reRawItems
  refine wpAny_bind (wpAny_seqItems h50 hd ?_)
  refine wpAny_pure ?_
  refine wpAny_pure ?_
  dsimp only
  have e1 : ((some its).getD #[]).map reRawOf = its.map reRawOf := rfl
  rw [e1, hc]
  have e2 : min ((2 ^ 63 - 1 : Int)).toNat (b.map (·.toNat)).size = b.size := by
    rw [Array.size_map]
    have : ((2 ^ 63 - 1 : Int)).toNat = 9223372036854775807 := by decide
    rw [this]
    have : (2 : Nat) ^ 60 = 1152921504606846976 := by decide
    omega
  have e3 : min (Int.toNat 0) (b.map (·.toNat)).size = 0 := by simp
  rw [e2, e3]
  exact h
end
section
variable {prog : Program} {w : World} {A : Around} {E : Value → Shared → Prop} {s : Shared}
theorem plainAttrs_pat : PlainAttrs "re.Pattern" :=
  ⟨⟨"object.__getattribute__", by rw [typeLookup_type, builtinLookup_eq_fast]; kernel_rfl, by decide +kernel⟩, by rw [typeLookup_type, builtinLookup_eq_fast]; kernel_rfl⟩
theorem slot_search : Slot "re.Pattern" "search" "re.Pattern.search" :=
  .of (owner := "re.Pattern") (n := "search") (by rw [typeLookup_type, builtinLookup_eq_fast]; kernel_rfl) (by decide +kernel) (by decide +kernel) (by decide +kernel)
    (by first | exact .inl (by decide +kernel) | exact .inr (by decide +kernel)) (by rw [isSubtype_type]; kernel_rfl)
theorem type_search : typeOf (.builtin "re.Pattern.search") = pure (.type "method_descriptor") := by show builtinType _ = _; rw [builtinType_eq_fast]; kernel_rfl
theorem entry_search : entryFor table "re.Pattern.search" = some Builtin.«re.Pattern.search» := entryFor_of_tree (by kernel_rfl)
theorem args_search (a b : Value) : argsOk "re.Pattern.search" ⟨[a, b], []⟩ := by unfold argsOk; kernel_rfl
theorem search_none {b : Array UInt8} {t : Tok} {o : Obj} {its : Array Value} {n : Nat} (h51 : s.heap.get? 51 = some patObj) (h50 : s.heap.get? 50 = some o) (hd : o.data = .seq its n) (hc : (its.map reRawOf).map (·.toNat) = reCode) (hb : b.size < 2 ^ 60)
    (hm : failedB (reM b) = true) {Q : Value → Shared → Prop} (hQ : Q .none s) : wpAny (model prog w) A (call (.builtin "re.Pattern.search") [.ref 51, .bytes b t]) Q E s := by
  refine wpAny_call_entry slot_search ?_ entry_search ?_ (args_search _ _)
  · exact ⟨_, h51, rfl⟩
  · unfold Builtin.«re.Pattern.search»
    refine wpAny_bind (wp_target h51 h50 hd hc hb ?_)
    unfold reAnswer
    refine wpAny_bind (wp_runFail hm ?_)
    exact wpAny_pure ⟨_, rfl, hQ⟩
theorem search_some {b : Array UInt8} {t : Tok} {o : Obj} {its : Array Value} {n : Nat} (h51 : s.heap.get? 51 = some patObj) (h50 : s.heap.get? 50 = some o) (hd : o.data = .seq its n) (hc : (its.map reRawOf).map (·.toNat) = reCode) (hb : b.size < 2 ^ 60)
    (hm : matchedB (reM b) = true) {Q : Value → Shared → Prop} (hQ : ∀ a o h', Kept s.heap h' → s.heap.objs.size ≤ a → h'.get? a = some o → o.cls = .type "re.Match" → Q (.ref a) { s with heap := h' }) : wpAny (model prog w) A (call (.builtin "re.Pattern.search") [.ref 51, .bytes b t]) Q E s := by
  refine wpAny_call_entry slot_search ?_ entry_search ?_ (args_search _ _)
  · exact ⟨_, h51, rfl⟩
  · unfold Builtin.«re.Pattern.search»
    refine wpAny_bind (wp_target h51 h50 hd hc hb ?_)
    unfold reAnswer
    refine wpAny_bind (wp_runMatch hm ?_)
    refine wpAny_bind ?_
    unfold reNewMatch
    refine bm_if_false rfl ?_
    refine wpAny_bind (wpAny_newObj_type ?_ (by exact Nat.le_of_ble_eq_true rfl))
    refine wpAny_newObj_type ?_ (by exact Nat.le_of_ble_eq_true rfl)
    refine wpAny_pure ⟨_, rfl, ?_⟩
    refine hQ _ _ _ (fun b o e => Heap.get?_push_of_some _ (Heap.get?_push_of_some _ e)) ?_ (Heap.get?_push_size _ rfl) rfl
    rw [Heap.size_push]; exact Nat.le_succ _
theorem truthy_match {a : Addr} {o : Obj} (ho : s.heap.get? a = some o) (hc : o.cls = .type "re.Match") {Q : Bool → Shared → Prop} (hQ : Q true s) : wpAny (model prog w) A (truthy (.ref a)) Q E s := by
  have hT : s.TypeIs (.ref a) "re.Match" := ⟨o, ho, hc⟩
  unfold truthy
  refine wpAny_bind ?_
  unfold callSpecial?
  refine wpAny_bind (wpAny_specialOf hT (r := none) (by rw [typeLookup_type, builtinLookup_eq_fast]; kernel_rfl) ?_)
  refine wpAny_pure ?_
  refine wpAny_bind (wpAny_specialOf hT (r := none) (by rw [typeLookup_type, builtinLookup_eq_fast]; kernel_rfl) ?_)
  exact wpAny_pure hQ
theorem getm_search {M : Model} {pl : Sem Bool} {Q : Value × List Value → Shared → Prop} (h51 : s.heap.get? 51 = some patObj) (h : Q (.builtin "re.Pattern.search", [.ref 51]) s) : wpAny M A (getMethod (.ref 51) (PySem.Str.ofString "search") pl) Q E s :=
  getMethod_builtin ⟨_, h51, rfl⟩ plainAttrs_pat slot_search type_search (fun a e => by cases e; exact ⟨_, h51, rfl⟩) h
end
end R
end
section
theorem enterC {prog : Program} {w : World} {A : Around} {s : Shared} {K : Frag} {p : Program} {loose : List Str} {mean : ExcName → Option Value} {mg mb : Str → Option Value} {R : Result → Shared → Prop} {name qual : Str} {params : Arguments} {body : List Stmt} {scope : Scope} {dV kV doc pm cdv ct oc : Value} {an od : Option Addr} {osl : Array (Option Value)} {f : Addr} {args : Args} {binds : List (Str × Value)}
    (X : K.In s.heap) (T : Top p loose mean mg mb s.heap)
    (ho : K.lookup f = some ⟨oc, od, .func (fnOf name qual params body scope dV kV doc pm an cdv ct), osl⟩) (hcd : codeIn K cdv qual = true) (hroom : A.depth < recursionLimit)
    (hbind : BindsTo s (fnOf name qual params body scope dV kV doc pm an cdv ct) args binds) (hkind : (binds.all fun y => scope.names.lookup y.1 == some .local || scope.names.lookup y.1 == some .cell) = true)
    (hnd : ((cellsFrom 0 scope.names []).map (·.1)).Nodup)
    (h : ∀ L h₁ tk cells, L = s.heap.objs.size → Fr s.heap L h₁ (bindL (envOfC qual scope L f cdv).kindOf binds fun _ => none) → News s.heap L h₁ cells →
      CellsAre (bindC (envOfC qual scope L f cdv).kindOf binds fun _ => none) (cellsFrom (L + 1) scope.names []) cells →
      wpAny (model prog w) (A.deeper (envOfC qual scope L f cdv)) (execs body (envOfC qual scope L f cdv))
        (fun fl s' => R (.ok (.ret (match fl with | .ret v => v | _ => .none))) s')
        (fun e s' => wpAny (model prog w) (A.deeper (envOfC qual scope L f cdv)) (leaving (envOfC qual scope L f cdv) e) (fun _ s'' => R (.error e) s'') (fun e' s'' => R (.error e') s'') s')
        { s with heap := h₁, toks := tk })
    (hco : scope.isCoroutine = false) (hgen : scope.isGenerator = false) (hk : scope.kind = .function) : codeAny (model prog w) A (.call (.ref f) args) R s := by
  have hkind' := kindsX hkind
  refine codeAny_call_function hroom (X _ _ ho) rfl hco hgen rfl (codeRec_of X hcd) (hbind _ _ _ _ ?_)
  refine wpAny_newFunctionEnv_cells hk (hkind' _) fun env' he s' x => ?_
  subst he
  refine ⟨T.nolimit.keeps x.toInCall.keep, codeAny_func ?_⟩
  obtain ⟨h₁, tk, rfl, _⟩ := x.done
  have hk₁ := x.toInCall.keep
  obtain ⟨cells, NC, Y⟩ := Cl.news (h₀ := s.heap) (Nat.le_refl _) fun n c hm => ⟨x.cell n c (lookup_of_mem_nodup (cellsFrom_names scope.names 0 (s.heap.objs.size + 1) [] [] rfl ▸ hnd) hm), x.above n c hm⟩
  exact h _ h₁ tk cells rfl ⟨x.toInCall.ns, hk₁, Nat.le_refl _⟩ NC Y
end
section
theorem kept_refl (h : Heap) : Kept h h := fun _ _ e => e
theorem Kept.trans {a b c : Heap} (x : Kept a b) (y : Kept b c) : Kept a c := fun b o e => y b o (x b o e)
theorem kept_push (h : Heap) (o : Obj) : Kept h (h.push o) := fun _ _ e => Heap.get?_push_of_some _ e

/-- the tests of a comprehension's one for -/
abbrev compTests (ifs : List PySem.Expr) (env : Env) : Sem Bool := forIn ifs true fun c r => if r = true then do let ok ← isTrue c env (eval c env); pure (ForInStep.yield ok) else pure (ForInStep.yield r)

/-- what is asked behind an element or its test -/
def EltIs (P : Prop) (s₃ s₄ : Shared) : Prop := P ∧ Keeps s₃ s₄
/-- the source stands: a list; what is asked of the tests, the element, the rest -/
def LcL (prog : Program) (w : World) (A : Around) (env : Env) (elt : PySem.Expr) (x : Str) (ifs : List PySem.Expr) (scope : Scope) (cl : List (Str × Addr)) (Q : Value → Shared → Prop) (p : Value → Bool) (G : Value → Value → Prop) (xv : Value) (s₁ : Shared) : Prop :=
  ∃ a items, xv = .ref a ∧ s₁.heap.IsList a items ∧ items.size ≤ 1000 ∧
      (∀ C v s₃ m₃ E', v ∈ items.toList → Kept s₁.heap s₃.heap → s₃.heap.Ns C m₃ → m₃ x = some v → wpAny (model prog w) A (compTests ifs (compEnvC scope cl C env)) (fun ok s₄ => EltIs (ok = p v) s₃ s₄) E' s₃) ∧
      (∀ C v s₃ m₃ E', v ∈ items.toList → p v = true → Kept s₁.heap s₃.heap → s₃.heap.Ns C m₃ → m₃ x = some v → wpAny (model prog w) A (eval elt (compEnvC scope cl C env)) (fun y s₄ => EltIs (G v y) s₃ s₄) E' s₃) ∧
      (∀ D h' tk ys, s₁.heap.get? D = none → h'.PlainList D ys → Paired G (items.toList.filter p) ys.toList → Kept s₁.heap h' → Q (.ref D) { s₁ with heap := h', toks := tk })
/-- the source stands: a range by ones -/
def LcR (prog : Program) (w : World) (A : Around) (env : Env) (elt : PySem.Expr) (x : Str) (scope : Scope) (cl : List (Str × Addr)) (Q : Value → Shared → Prop) (n : Nat) (a c : Int) (G : Nat → Value → Prop) (xv : Value) (s₁ : Shared) : Prop :=
  ∃ r b t u v, xv = .ref r ∧ IsRange s₁.heap r a b c t u v ∧ Builtin.Range.small a b c = true ∧ Builtin.Range.rangeSize a b c = (n : Int) ∧
      (∀ C i tk s₃ m₃ E', i < n → Kept s₁.heap s₃.heap → s₃.heap.Ns C m₃ → m₃ x = some (.int (a + (i : Int) * c) tk) → wpAny (model prog w) A (eval elt (compEnvC scope cl C env)) (fun y s₄ => EltIs (G i y) s₃ s₄) E' s₃) ∧
      (∀ D h' tk ys, s₁.heap.get? D = none → h'.PlainList D ys → Paired G (List.range n) ys.toList → Kept s₁.heap h' → Q (.ref D) { s₁ with heap := h', toks := tk })
section
variable {prog : Program} {w : World} {A : Around} {E : Value → Shared → Prop} {s : Shared} {env : Env} {elt iter : PySem.Expr} {x : Str} {px : Pos} {ifs : List PySem.Expr} {scope : Scope} {cl : List (Str × Addr)} {pos : Pos} {Q : Value → Shared → Prop}

theorem lc_list (p : Value → Bool) (G : Value → Value → Prop) (hA : A.handled = none)
    (hclos : closureFor scope env = pure cl) (hcell : ∀ y ∈ scope.names, y.2 ≠ .cell) (hkind : scope.kind = .function)
    (hnames : ∀ y ∈ scope.names, y.2 = .local → scope.names.lookup y.1 = some .local) (hx : scope.names.lookup x = some .local) (hs : ∀ x, foldedSetIterable iter env x = pure x)
    (h : wpAny (model prog w) A (eval iter env) (LcL prog w A env elt x ifs scope cl Q p G) E s) :
    wpAny (model prog w) A (eval (.ListComp elt [⟨.Name x px, iter, ifs, 0⟩] scope pos) env) Q E s := by
  refine wpAny_ListComp_free p G hclos hcell hkind hnames hx (wpAny_mono h (fun xv s₁ h₁ => ?_) fun _ _ e => e) hs
  obtain ⟨a, items, rfl, hl, hsz, ht, he, hQ⟩ := h₁
  refine wpAny_pyIter_list hl ?_
  have hlt : a < s₁.heap.objs.size := by obtain ⟨o, ho, _⟩ := hl; exact Heap.lt_size ho
  have hne : a ≠ s₁.heap.objs.size := Nat.ne_of_lt hlt
  have old : ∀ {s₃ : Shared}, (∀ b o, b ∉ [s₁.heap.objs.size] → (s₁.heap.push { cls := .type "list_iterator", data := .fields #[.ref a, .int 0 0] }).get? b = some o → s₃.heap.get? b = some o) → Kept s₁.heap s₃.heap :=
    fun hk b o e => hk b o (fun hm => absurd (Heap.lt_size e) (by rw [List.mem_singleton.mp hm]; exact Nat.lt_irrefl _)) (Heap.get?_push_of_some _ e)
  refine ⟨_, _, _, _, _, _, rfl, Walks.list hA s₁.heap.objs.size a hne items, by rw [sizeLine_eq]; omega, ⟨⟨_, Heap.get?_push_size _ rfl, rfl, rfl⟩, ?_⟩, ?_, ⟨?_, ?_⟩, ?_⟩
  · obtain ⟨o, ho, r⟩ := hl
    exact ⟨o, Heap.get?_push_of_some _ ho, r⟩
  · intro b hb
    rw [Heap.size_push]
    rcases List.mem_cons.mp hb with rfl | hb
    · exact Nat.lt_succ_self _
    · rw [List.mem_singleton.mp hb]; exact Nat.lt_succ_of_lt hlt
  · intro C i v s₃ m₃ E' _ hP hn hm hk _
    exact ht C v s₃ m₃ E' (by obtain ⟨hi, e⟩ := Array.getElem?_eq_some_iff.mp hP; rw [← e]; exact Array.mem_toList_iff.mpr (Array.getElem_mem hi)) (old hk) hn hm
  · intro C i v s₃ m₃ E' _ hP hpv hn hm hk _
    exact he C v s₃ m₃ E' (by obtain ⟨hi, e⟩ := Array.getElem?_eq_some_iff.mp hP; rw [← e]; exact Array.mem_toList_iff.mpr (Array.getElem_mem hi)) hpv (old hk) hn hm
  · intro D h' tk ys vs hD _ hpl hlen hP hF hk
    have hv : vs = items.toList := by
      refine List.ext_getElem? fun i => ?_
      by_cases hi : i < vs.length
      · rw [List.getElem?_eq_getElem hi]
        have := hP i vs[i] (List.getElem?_eq_getElem hi)
        rw [← this, Array.getElem?_toList]
      · rw [List.getElem?_eq_none (by omega), List.getElem?_eq_none (by rw [Array.length_toList]; omega)]
    subst hv
    refine hQ D h' tk ys ?_ hpl hF (old (s₃ := { s₁ with heap := h' }) hk)
    cases e : s₁.heap.get? D with
    | none => rfl
    | some o => rw [Heap.get?_push_of_some _ e] at hD; cases hD

theorem lc_range (n : Nat) (a c : Int) (hc0 : c ≠ 0) (G : Nat → Value → Prop) (hA : A.handled = none) (hn : n ≤ 1000)
    (hclos : closureFor scope env = pure cl) (hcell : ∀ y ∈ scope.names, y.2 ≠ .cell) (hkind : scope.kind = .function)
    (hnames : ∀ y ∈ scope.names, y.2 = .local → scope.names.lookup y.1 = some .local) (hx : scope.names.lookup x = some .local) (hs : ∀ x, foldedSetIterable iter env x = pure x)
    (h : wpAny (model prog w) A (eval iter env) (LcR prog w A env elt x scope cl Q n a c G) E s) :
    wpAny (model prog w) A (eval (.ListComp elt [⟨.Name x px, iter, [], 0⟩] scope pos) env) Q E s := by
  refine wpAny_ListComp_free (fun _ => true) (fun v y => ∃ i tk, i < n ∧ v = .int (a + ((i : Nat) : Int) * c) tk ∧ G i y) hclos hcell hkind hnames hx (wpAny_mono h (fun xv s₁ h₁ => ?_) fun _ _ e => e) hs
  obtain ⟨r, b, t, u, v, rfl, hr, hsm, hrs, he, hQ⟩ := h₁
  refine wpAny_pyIter_range hr hsm ?_
  have old : ∀ {o : Obj} {s₃ : Shared}, (∀ b o', b ∉ [s₁.heap.objs.size] → (s₁.heap.push o).get? b = some o' → s₃.heap.get? b = some o') → Kept s₁.heap s₃.heap :=
    fun hk b o e => hk b o (fun hm => absurd (Heap.lt_size e) (by rw [List.mem_singleton.mp hm]; exact Nat.lt_irrefl _)) (Heap.get?_push_of_some _ e)
  have W : Walks prog w A s₁.heap.objs.size [s₁.heap.objs.size] [s₁.heap.objs.size] n (fun i v => i < n ∧ ∃ t, v = .int (a + i * c) t) (fun i h => IsRangeIter h s₁.heap.objs.size (a + (i : Nat) * c) ((n : Int) - (i : Nat)) c) := (Walks.range hA s₁.heap.objs.size a c n).bound
  refine ⟨_, _, _, _, _, _, rfl, W, by rw [sizeLine_eq]; omega, ?_, ?_, ⟨?_, ?_⟩, ?_⟩
  · show Heap.get? _ _ = _
    rw [Heap.get?_push_size _ rfl, hrs]
    simp
  · intro b' hb
    rw [List.mem_singleton.mp hb, Heap.size_push]
    exact Nat.lt_succ_self _
  · intro C i v s₃ m₃ E' _ hP hn hm hk _
    exact wpAny_pure ⟨rfl, s₃.heap, s₃.toks, rfl, fun _ _ e => e⟩
  · intro C i v s₃ m₃ E' _ hP _ hn hm hk _
    obtain ⟨hi, tk, rfl⟩ := hP
    exact wpAny_mono (he C i tk s₃ m₃ E' hi (old hk) hn hm) (fun y s₄ hy => ⟨⟨i, tk, hi, rfl, hy.1⟩, hy.2⟩) fun _ _ e => e
  · intro D h' tk ys vs hD _ hpl hlen hP hF hk
    refine hQ D h' tk ys ?_ hpl ?_ (old (s₃ := { s₁ with heap := h' }) hk)
    · cases e : s₁.heap.get? D with
      | none => rfl
      | some o => rw [Heap.get?_push_of_some _ e] at hD; cases hD
    · rw [List.filter_eq_self.mpr (fun _ _ => rfl)] at hF
      have key : ∀ (vs : List Value) (ys : List Value) (k : Nat), Paired (fun v y => ∃ i tk, i < n ∧ v = Value.int (a + ((i : Nat) : Int) * c) tk ∧ G i y) vs ys → (∀ j v, vs[j]? = some v → ∃ t, v = Value.int (a + ((k + j : Nat) : Int) * c) t) → Paired G (List.range' k vs.length) ys := by
        intro vs
        induction vs with
        | nil => intro ys k hp _; cases hp; exact .nil
        | cons v r ih =>
          intro ys k hp hv
          cases hp with
          | cons h1 h2 =>
            obtain ⟨i, tk, _, e, hG⟩ := h1
            obtain ⟨t', e'⟩ := hv 0 v rfl
            have hik : i = k := by
              rw [e] at e'
              injection e' with e1 _
              have e2 : (i : Int) * c = (k : Int) * c := by
                have : ((k + 0 : Nat) : Int) = (k : Int) := by simp
                rw [this] at e1
                omega
              have := Int.eq_of_mul_eq_mul_right hc0 e2
              omega
            subst hik
            rw [List.length_cons, List.range'_succ]
            exact .cons hG (ih _ (i + 1) h2 fun j u hj => by
              obtain ⟨t2, e2⟩ := hv (j + 1) u (by simpa using hj)
              exact ⟨t2, by rw [e2]; congr 3; omega⟩)
      have := key vs ys.toList 0 hF fun j v hj => by
        obtain ⟨_, t', e⟩ := hP j v hj
        exact ⟨t', by rw [e, Nat.zero_add]⟩
      rw [hlen] at this
      rw [List.range_eq_range']
      exact this
end
end
section
theorem below_keeps {A : Around} {base h h' : Heap} {outer : List Env} (B : Below A base outer h) (k : Kept h h') : Below A base outer h' :=
  ⟨B.stack, fun b o e => k _ _ (B.stays b o e), B.frames.of_keeps fun b o e _ => ⟨o, k b o e, rfl⟩⟩

/-- what is known while a comprehension's block runs: g the heap as the source stood, s₃ the turn's first heap, h the heap now -/
structure El (w : World) (p : Program) (loose : List Str) (mean : ExcName → Option Value) (mg mb : Str → Option Value) (base : Heap) (outer : List Env) (dp un : Nat) (gd : Option (List Code)) (g : Heap) (C : Addr) (m : Str → Option Value) (s₃ h : Heap) : Prop where
  X : (hd.heap_39 w.params).In g
  T : Top p loose mean mg mb g
  B : Below (Ar dp un gd outer) base outer g
  k1 : Kept g s₃
  k2 : Kept s₃ h
  ns : h.Ns C m

section
variable {w : World} {p : Program} {loose : List Str} {mean : ExcName → Option Value} {mg mb : Str → Option Value} {base : Heap} {outer : List Env} {dp un : Nat} {gd : Option (List Code)} {g : Heap} {C : Addr} {m : Str → Option Value} {s₃ h h' : Heap}
theorem El.k (e : El w p loose mean mg mb base outer dp un gd g C m s₃ h) : Kept g h := e.k1.trans e.k2
theorem El.next (e : El w p loose mean mg mb base outer dp un gd g C m s₃ h) (k : Kept h h') : El w p loose mean mg mb base outer dp un gd g C m s₃ h' :=
  ⟨e.X, e.T, e.B, e.k1, e.k2.trans k, e.ns.keeps k⟩
end
section
variable {w : World} {p : Program} {loose : List Str} {mean : ExcName → Option Value} {mg mb : Str → Option Value} {base : Heap} {outer : List Env} {dp un : Nat} {gd : Option (List Code)} {g : Heap} {C : Addr} {m : Str → Option Value} {s₃ : Heap} {s : Shared} {prog : Program} {A : Around} {E : Value → Shared → Prop} {Q : Value → Shared → Prop} {env : Env} {x : Str} {pos : Pos} {v : Value}

theorem El.call {f : Addr} {vs : List Value} {kw : List (Str × Value)} {d : Nat} {pre : Heap → Prop} {post : Heap → Value → Heap → Prop} (e : El w p loose mean mg mb base outer dp un gd g C m s₃ s.heap) (c : Ctr w f vs kw d pre post)
    (hdp : dp + d < recursionLimit) (hun : un + 8 * d < cLine) (hp : pre s.heap)
    (h : ∀ v h' tk, Kept s.heap h' → post s.heap v h' → El w p loose mean mg mb base outer dp un gd g C m s₃ h' → Q v { s with heap := h', toks := tk }) :
    wpAny (model PySem.Challenge.rw_qh0002_01.row.prog w) (Ar dp un gd outer) (PySem.call (.ref f) vs kw) Q E s :=
  c p loose mean mg mb base outer dp un gd s Q E (e.X.keeps e.k) (e.T.keeps e.k) (below_keeps e.B e.k) hdp hun hp fun v h' tk k ho => h v h' tk k ho (e.next k)
theorem El.own (e : El w p loose mean mg mb base outer dp un gd g C m s₃ s.heap) (hv : m x = some v) (h : Q v s)
    (hC : env.locals = C) (hk : env.scope.kind = .function) (hx : env.kindOf x = some .local) (hd : (x == ("__debug__" : Str)) = false) : wpAny (model prog w) A (eval (.Name x pos) env) Q E s :=
  wpAny_Name (wpAny_loadName_local hk hx (hC ▸ e.ns) hv h) hd
theorem El.glob (e : El w p loose mean mg mb base outer dp un gd g C m s₃ s.heap) (hn : nsIn (hd.heap_39 w.params) mainGlobals x = some (some v)) (h : Q v s)
    (hg : env.globals = mainGlobals) (hk : env.scope.kind = .function) (hx : env.kindOf x = some .globalImplicit) (hdb : (x == ("__debug__" : Str)) = false) : wpAny (model prog w) A (eval (.Name x pos) env) Q E s :=
  Name_function_global hk hx (loadGlobal_global (env := env) (by rw [hg]; exact e.T.g.keeps e.k) (mg_of e.X e.T.g hn) h) hdb
theorem El.blt (e : El w p loose mean mg mb base outer dp un gd g C m s₃ s.heap) (hn : nsIn (hd.heap_39 w.params) mainGlobals x = some none) (hv : bootBuiltins x = some v) (hne : x ≠ "__name__") (h : Q v s)
    (hg : env.globals = mainGlobals) (hb : env.builtins = builtinsNs) (hk : env.scope.kind = .function) (hx : env.kindOf x = some .globalImplicit) (hdb : (x == ("__debug__" : Str)) = false) : wpAny (model prog w) A (eval (.Name x pos) env) Q E s :=
  Name_function_global hk hx (loadGlobal_builtin (env := env) (by rw [hg]; exact e.T.g.keeps e.k) (mg_none_of e.X e.T.g hn) (by rw [hb]; exact e.T.b.keeps e.k) ((e.T.builtins x hne).trans hv) h) hdb
theorem El.cell {c : Addr} {o : Obj} (e : El w p loose mean mg mb base outer dp un gd g C m s₃ s.heap) (hc : env.cells.lookup x = some c) (ho : g.get? c = some o) (hd : o.data = .cell (some v)) (h : Q v s)
    (hk : env.scope.kind = .function) (hx : env.kindOf x = some .cell) (hdb : (x == ("__debug__" : Str)) = false) : wpAny (model prog w) A (eval (.Name x pos) env) Q E s :=
  wpAny_Name (wpAny_loadName_cell hk hx hc ⟨o, e.k _ _ ho, hd⟩ h) hdb
theorem El.callA {f : Addr} {vs : List Value} {kw : List (Str × Value)} {d : Nat} {pre : Heap → Prop} {post : Heap → Value → Heap → Prop} (c : Ctr w f vs kw d pre post)
    (h : ∀ v h' tk, Kept s.heap h' → post s.heap v h' → El w p loose mean mg mb base outer dp un gd g C m s₃ h' → Q v { s with heap := h', toks := tk }) (hp : pre s.heap)
    (e : El w p loose mean mg mb base outer dp un gd g C m s₃ s.heap := by assumption) (hdp : dp + d < recursionLimit := by omega) (hun : un + 8 * d < cLine := by omega) :
    wpAny (model PySem.Challenge.rw_qh0002_01.row.prog w) (Ar dp un gd outer) (PySem.call (.ref f) vs kw) Q E s := El.call e c hdp hun hp h
theorem El.ownA (h : Q v s) (e : El w p loose mean mg mb base outer dp un gd g C m s₃ s.heap := by assumption)
    (hC : env.locals = C := by exact rfl) (hk : env.scope.kind = .function := by exact rfl) (hx : env.kindOf x = some .local := by exact rfl) (hd : (x == ("__debug__" : Str)) = false := by decide) (hv : m x = some v := by assumption) :
    wpAny (model prog w) A (eval (.Name x pos) env) Q E s := El.own e hv h hC hk hx hd
theorem El.globA (h : Q v s) (e : El w p loose mean mg mb base outer dp un gd g C m s₃ s.heap := by assumption)
    (hg : env.globals = mainGlobals := by exact rfl) (hk : env.scope.kind = .function := by exact rfl) (hx : env.kindOf x = some .globalImplicit := by exact rfl) (hdb : (x == ("__debug__" : Str)) = false := by decide) (hn : nsIn (hd.heap_39 w.params) mainGlobals x = some (some v) := by k_is) :
    wpAny (model prog w) A (eval (.Name x pos) env) Q E s := El.glob e hn h hg hk hx hdb
theorem El.bltA (h : Q v s) (e : El w p loose mean mg mb base outer dp un gd g C m s₃ s.heap := by assumption)
    (hg : env.globals = mainGlobals := by exact rfl) (hb : env.builtins = builtinsNs := by exact rfl) (hk : env.scope.kind = .function := by exact rfl) (hx : env.kindOf x = some .globalImplicit := by exact rfl) (hdb : (x == ("__debug__" : Str)) = false := by decide) (hne : x ≠ "__name__" := by decide) (hn : nsIn (hd.heap_39 w.params) mainGlobals x = some none := by k_is) (hv : bootBuiltins x = some v := by boot_fast) :
    wpAny (model prog w) A (eval (.Name x pos) env) Q E s := El.blt e hn hv hne h hg hb hk hx hdb
theorem El.cellA {c : Addr} {o : Obj} (h : Q v s) (e : El w p loose mean mg mb base outer dp un gd g C m s₃ s.heap := by assumption)
    (hk : env.scope.kind = .function := by exact rfl) (hx : env.kindOf x = some .cell := by exact rfl) (hdb : (x == ("__debug__" : Str)) = false := by decide) (hc : env.cells.lookup x = some c := by exact rfl) (ho : g.get? c = some o := by first | exact News.get (by assumption) (by k_mem) | assumption) (hd : o.data = .cell (some v) := by assumption) :
    wpAny (model prog w) A (eval (.Name x pos) env) Q E s := El.cell e hc ho hd h hk hx hdb
theorem el_start {α : Type} {t : Sem α} {QA : α → Shared → Prop} {L : Addr} {h₀ : Heap} {m' : Str → Option Value} (X : (hd.heap_39 w.params).In h₀) (T : Top p loose mean mg mb h₀) (B : Below (Ar dp un gd outer) base outer h₀) (F : Fr h₀ L g m')
    (hk : Kept g s.heap) (hn : s.heap.Ns C m) (hf : env.frame = some L) (hke : env.scope.kind = .function)
    (h : El w p loose mean mg mb base (env :: outer) (dp + 1) (un + 3) gd g C m s.heap s.heap → wpAny (model prog w) (Ar (dp + 1) (un + 3) gd (env :: outer)) t QA E s) : wpAny (model prog w) ((Ar dp un gd outer).deeper env) t QA E s :=
  h ⟨X.keeps F.keep, T.keeps F.keep, pushX B F hf hke, hk, kept_refl _, hn⟩
theorem El.newList {vs : List Value} (e : El w p loose mean mg mb base outer dp un gd g C m s₃ s.heap) (hz : vs.length ≤ 1000)
    (h : ∀ D h', Kept s.heap h' → h'.IsList D vs.toArray → El w p loose mean mg mb base outer dp un gd g C m s₃ h' → Q (.ref D) { s with heap := h' }) : wpAny (model prog w) A (PySem.newList vs) Q E s := by
  refine wpAny_newObj_type ?_ (by show vs.toArray.size ≤ sizeLine; rw [List.size_toArray, sizeLine_eq]; omega)
  exact h _ _ (kept_push _ _) ⟨_, Heap.get?_push_size _ rfl, rfl, _, rfl⟩ (e.next (kept_push _ _))
theorem item_any {value slice : PySem.Expr} {l : Addr} {its : Array Value} {i : Int} {u : Tok} (hl : s.heap.IsList l its) (h0 : 0 ≤ i) (h1 : i < its.size) (hz : its.size ≤ 1000) (h : ∀ v, its[i.toNat]? = some v → Q v s)
    (hs : subscripted slice false (.ref l) (.int i u) = operate [.ref l, .int i u] (getItem (.ref l) (.int i u)) := by with_unfolding_all rfl) :
    wpAny (model prog w) A (subscriptTail value slice (.ref l) (.int i u)) Q E s := by
  have hlt : i.toNat < its.size := by omega
  have e63 : (2 : Int) ^ 63 = 9223372036854775808 := by decide
  have h63 : i < 2 ^ 63 := by rw [e63]; omega
  exact tail_any hl.typeIs slot_list_getitem.lookup (wpAny_getItem_list hl h0 h63 (Array.getElem?_eq_getElem hlt) (h _ (Array.getElem?_eq_getElem hlt))) hs
end
end
section
theorem strs_at : ∀ {vs : List Value} {ws : List Str} (_ : StrsAre vs ws) {i : Nat} {v : Value}, vs[i]? = some v → ∃ u, v = .str (ws.getD i ⟨#[]⟩) u := by
  intro vs ws p
  induction p with
  | nil => intro i v h; cases i <;> cases h
  | cons y t r ih =>
    intro i v h
    cases i with
    | zero => cases h; exact ⟨t, rfl⟩
    | succ i => exact ih h
theorem strs_len : ∀ {vs : List Value} {ws : List Str} (_ : StrsAre vs ws), vs.length = ws.length
  | _, _, .nil => rfl
  | _, _, .cons _ _ r => congrArg (· + 1) (strs_len r)
section
variable {w : World} {prog : Program} {A : Around} {s : Shared} {E : Value → Shared → Prop} {Q : Value → Shared → Prop}
theorem item_strs {value slice : PySem.Expr} {l : Addr} {its : Array Value} {ws : List Str} {i : Int} {u : Tok} (hl : s.heap.IsList l its) (hst : StrsAre its.toList ws) (h0 : 0 ≤ i) (h1 : i < ws.length) (hz : ws.length ≤ 1000) (h : ∀ t, Q (.str (ws.getD i.toNat ⟨#[]⟩) t) s)
    (hs : subscripted slice false (.ref l) (.int i u) = operate [.ref l, .int i u] (getItem (.ref l) (.int i u)) := by with_unfolding_all rfl) :
    wpAny (model prog w) A (subscriptTail value slice (.ref l) (.int i u)) Q E s := by
  have hsz : its.size = ws.length := by rw [← strs_len hst, Array.length_toList]
  refine item_any hl h0 (by omega) (by omega) (fun v hv => ?_) hs
  obtain ⟨u', rfl⟩ := strs_at hst (by rw [Array.getElem?_toList]; exact hv)
  exact h u'
end
end
section
namespace R
open Builtin
section
variable {prog : Program} {w : World} {A : Around} {E : Value → Shared → Prop} {s : Shared} {J l I T : Addr} {i : Nat} {items : Array Value}
theorem nextOf_item {x : Value} {Q : Value → Shared → Prop} (hit : s.heap.IsListIter J l i) (hl : s.heap.IsList l items) (hx : items[i]? = some x)
    (hQ : ∀ h', h'.IsListIter J l (i + 1) → Heap.SameBut J s.heap h' → Q x { s with heap := h' }) : wpAny (model prog w) A (SmallTypes.nextOf (.ref J)) Q E s := by
  obtain ⟨o, ho, hc, hd⟩ := id hit
  obtain ⟨ol, hol, _, nl, hdl⟩ := hl
  unfold SmallTypes.nextOf
  refine wpAny_bind (wpAny_callSpecial?_slot (name := Str.ofString "__next__") hit.typeIs slot_listiter_next
    (wpAny_call_entry slot_listiter_next hit.typeIs entry_listiter_next ?_ (args_listiter_next _)))
  show wpAny _ _ (field (.ref J) 0 >>= _) _ _ s
  refine wpAny_bind (wpAny_field ho hd (x := .ref l) rfl ?_)
  show wpAny _ _ (if (Value.ref l == Value.none) = true then _ else _) _ _ s
  rw [if_neg (show ¬ ((Value.ref l == Value.none) = true) from Bool.false_ne_true)]
  show wpAny _ _ (field (.ref J) 1 >>= _) _ _ s
  refine wpAny_bind (wpAny_field ho hd (x := .int i 0) rfl ?_)
  show wpAny _ _ (seqItems? (.ref l) >>= _) _ _ s
  refine wpAny_bind (wpAny_seqItems hol hdl ?_)
  simp only [Int.toNat_natCast, hx]
  refine wpAny_bind (wpAny_setField ho hd (by simp) (wpAny_pure ⟨x, rfl, wpAny_pure (hQ _ ?_ (Heap.SameBut.update ..))⟩))
  exact ⟨_, Heap.get?_update_self _ ho (Obj.isFreed_of_fields (Obj.data_mapFields hd _)), (Obj.cls_mapFields ..).trans hc, by
    rw [Obj.data_mapFields hd]; simp [rawInt]⟩
theorem nextOf_end {Q : Value → Shared → Prop} (hh : A.handled = none) (hit : s.heap.IsListIter J l i) (hl : s.heap.IsList l items) (hx : items[i]? = none)
    (hE : ∀ h' e o, Heap.ExtBut J s.heap h' → h'.get? e = some o → o.cls = .type "StopIteration" → E (.ref e) { s with heap := h' }) : wpAny (model prog w) A (SmallTypes.nextOf (.ref J)) Q E s := by
  obtain ⟨o, ho, hc, hd⟩ := id hit
  obtain ⟨ol, hol, _, nl, hdl⟩ := hl
  unfold SmallTypes.nextOf
  refine wpAny_bind (wpAny_callSpecial?_slot (name := Str.ofString "__next__") hit.typeIs slot_listiter_next
    (wpAny_call_entry slot_listiter_next hit.typeIs entry_listiter_next ?_ (args_listiter_next _)))
  show wpAny _ _ (field (.ref J) 0 >>= _) _ _ s
  refine wpAny_bind (wpAny_field ho hd (x := .ref l) rfl ?_)
  show wpAny _ _ (if (Value.ref l == Value.none) = true then _ else _) _ _ s
  rw [if_neg (show ¬ ((Value.ref l == Value.none) = true) from Bool.false_ne_true)]
  show wpAny _ _ (field (.ref J) 1 >>= _) _ _ s
  refine wpAny_bind (wpAny_field ho hd (x := .int i 0) rfl ?_)
  show wpAny _ _ (seqItems? (.ref l) >>= _) _ _ s
  refine wpAny_bind (wpAny_seqItems hol hdl ?_)
  simp only [Int.toNat_natCast, hx]
  refine wpAny_bind (wpAny_rule (wpAny_bind (wpAny_setField ho hd (by simp) ?_)))
  show wpAny _ _ (newExc (.type "StopIteration") [] >>= _) _ _ _
  refine wpAny_bind ?_
  simp only [newExc, newTuple]
  refine wpAny_bind (wpAny_newObj_type ?_ (by size_fits))
  refine wpAny_bind (m := firstArgMember _ _) (wpAny_of_eq (a := Value.none) (by first | rfl | (simp only [firstArgMember]; rfl)) ?_)
  refine wpAny_newObj_type ?_ (by size_fits)
  simp only [raiseNew]
  refine wpAny_bind (wpAny_handled ?_)
  rw [show A.in1.handled = none from hh]
  refine wpAny_bind (wpAny_pure (wpAny_throw ?_))
  exact hE _ _ _ (((Heap.SameBut.update ..).extBut.push _).push _) (Heap.get?_push_size _ rfl) rfl
end
end R
end
section
namespace R
open Builtin
theorem slot_map_next : Slot "map" "__next__" "map.__next__" :=
  .of (owner := "map") (n := "__next__") (by rw [typeLookup_type, builtinLookup_eq_fast]; kernel_rfl) (by decide +kernel) (by decide +kernel) (by decide +kernel)
    (by first | exact .inl (by decide +kernel) | exact .inr (by decide +kernel)) (by rw [isSubtype_type]; kernel_rfl)
theorem slot_map_iter : Slot "map" "__iter__" "map.__iter__" :=
  .of (owner := "map") (n := "__iter__") (by rw [typeLookup_type, builtinLookup_eq_fast]; kernel_rfl) (by decide +kernel) (by decide +kernel) (by decide +kernel)
    (by first | exact .inl (by decide +kernel) | exact .inr (by decide +kernel)) (by rw [isSubtype_type]; kernel_rfl)
theorem entry_map_next : entryFor table "map.__next__" = some Builtin.«map.__next__» := entryFor_of_tree (by kernel_rfl)
theorem entry_map_iter : entryFor table "map.__iter__" = some Builtin.«dict_keyiterator.__iter__» := entryFor_alias (id' := "dict_keyiterator.__iter__") (by kernel_rfl) rfl (by decide +kernel) (by kernel_rfl)
theorem args_map_next (a : Value) : argsOk "map.__next__" ⟨[a], []⟩ := by unfold argsOk; kernel_rfl
theorem args_map_iter (a : Value) : argsOk "map.__iter__" ⟨[a], []⟩ := by unfold argsOk; kernel_rfl
theorem map_no_len : typeLookup (.type "map") "__len__" = pure none := by rw [typeLookup_type, builtinLookup_eq_fast]; kernel_rfl
theorem map_no_hint : typeLookup (.type "map") "__length_hint__" = pure none := by rw [typeLookup_type, builtinLookup_eq_fast]; kernel_rfl
def mapObj (T : Addr) : Obj := { cls := .type "map", data := .fields #[.ref T, .builtin "str.capitalize"] }
def tupObj (J : Addr) : Obj := { cls := .type "tuple", data := .seq #[.ref J] }
section
variable {prog : Program} {w : World} {A : Around} {E : Value → Shared → Prop} {s : Shared} {J l I T : Addr} {i : Nat} {items : Array Value}
theorem map_step {Q : Value → Shared → Prop} {x : Str} {u : Tok} (hI : s.heap.get? I = some (mapObj T)) (hT : s.heap.get? T = some (tupObj J)) (hit : s.heap.IsListIter J l i) (hl : s.heap.IsList l items) (hx : items[i]? = some (.str x u)) (hlen : x.length ≤ 1000) (hIJ : I ≠ J)
    (hQ : ∀ h' t' k, h'.IsListIter J l (i + 1) → Heap.SameBut J s.heap h' → Q (.str (Txt.capitalize x) t') { s with heap := h', toks := k }) :
    wpAny (model prog w) A («map.__next__» ⟨[.ref I], []⟩) (fun fin s' => ∃ v, fin = .done (.ret v) ∧ Q v s') E s := by
  show wpAny _ _ (field (.ref I) 0 >>= _) _ _ s
  refine wpAny_bind (wpAny_field hI rfl (x := .ref T) rfl ?_)
  show wpAny _ _ (seqItems? (.ref T) >>= _) _ _ s
  refine wpAny_bind (wpAny_seqItems hT rfl ?_)
  dsimp only
  rw [← Array.forIn_toList]
  refine wpAny_bind ?_
  show wpAny _ _ (forIn [Value.ref J] #[] _) _ _ s
  rw [List.forIn_cons]
  refine wpAny_bind (wpAny_bind (wpAny_holding (nextOf_item hit hl hx fun h' hit' hsb => ?_)))
  refine wpAny_pure (wpAny_pure ?_)
  have hI' : h'.get? I = some (mapObj T) := (hsb.2 I hIJ).trans hI
  refine wpAny_bind (wpAny_field hI' rfl (x := .builtin "str.capitalize") rfl ?_)
  refine wpAny_bind (wpAny_holding ?_)
  refine SCL.capitalize (by omega) fun t' k _ => ?_
  refine wpAny_bind ?_
  show wpAny _ _ (holding ([] ++ [_]) point >>= fun _ => letGo [] [_]) _ _ _
  refine wpAny_bind (wpAny_holding (wpAny_point ?_))
  exact wpAny_pure (wpAny_pure ⟨_, rfl, hQ _ _ _ hit' hsb⟩)
theorem map_stop {Q : Fin → Shared → Prop} (hh : A.handled = none) (hI : s.heap.get? I = some (mapObj T)) (hT : s.heap.get? T = some (tupObj J)) (hit : s.heap.IsListIter J l i) (hl : s.heap.IsList l items) (hx : items[i]? = none)
    (hE : ∀ h' e o, Heap.ExtBut J s.heap h' → h'.get? e = some o → o.cls = .type "StopIteration" → E (.ref e) { s with heap := h' }) :
    wpAny (model prog w) A («map.__next__» ⟨[.ref I], []⟩) Q E s := by
  show wpAny _ _ (field (.ref I) 0 >>= _) _ _ s
  refine wpAny_bind (wpAny_field hI rfl (x := .ref T) rfl ?_)
  show wpAny _ _ (seqItems? (.ref T) >>= _) _ _ s
  refine wpAny_bind (wpAny_seqItems hT rfl ?_)
  dsimp only
  rw [← Array.forIn_toList]
  refine wpAny_bind ?_
  show wpAny _ _ (forIn [Value.ref J] #[] _) _ _ s
  rw [List.forIn_cons]
  exact wpAny_bind (wpAny_bind (wpAny_holding (nextOf_end hh hit hl hx hE)))

def mapSt (I T J l : Addr) (items : Array Value) (i : Nat) (h : Heap) : Prop := h.get? I = some (mapObj T) ∧ h.get? T = some (tupObj J) ∧ h.IsListIter J l i ∧ h.IsList l items
theorem map_walks (hh : A.handled = none) {ws : List Str} (hst : StrsAre items.toList ws) (hlen : ∀ x ∈ ws, x.length ≤ 1000) (hIJ : I ≠ J) (hTJ : T ≠ J) (hlJ : l ≠ J) :
    Walks prog w A I [I, T, J, l] [J] items.size (fun i v => ∃ u, v = .str (Txt.capitalize (ws.getD i Str.empty)) u) (mapSt I T J l items) where
  sub := fun b hb => by rw [List.mem_singleton.mp hb]; simp
  frame := fun i h h' st hk => ⟨hk I (by simp) _ st.1, hk T (by simp) _ st.2.1, st.2.2.1.at fun o e => hk J (by simp) o e, st.2.2.2.at fun o e => hk l (by simp) o e⟩
  item := fun i s Q E hi st hQ => by
    obtain ⟨h1, h2, h3, h4⟩ := st
    have hx : items[i]? = some items[i] := Array.getElem?_eq_getElem hi
    obtain ⟨u, hu⟩ := strs_at hst (i := i) (v := items[i]) (by rw [Array.getElem?_toList]; exact hx)
    rw [hu] at hx
    have hl : (ws.getD i ⟨#[]⟩).length ≤ 1000 := by
      rw [List.getD_eq_getElem?_getD]
      cases e : ws[i]? with
      | none => exact Nat.zero_le _
      | some x => exact hlen x (List.mem_of_getElem? e)
    have hTy : s.TypeIs (.ref I) "map" := ⟨_, h1, rfl⟩
    unfold pyNext
    refine wpAny_bind (wpAny_attempt (wpAny_callSpecial?_slot (name := Str.ofString "__next__") hTy slot_map_next
      (wpAny_call_entry slot_map_next hTy entry_map_next ?_ (args_map_next _))))
    refine map_step h1 h2 h3 h4 hx hl hIJ fun h' t' k hit' hsb => ?_
    refine wpAny_pure (hQ _ h' k ⟨t', rfl⟩ ⟨(hsb.2 I hIJ).trans h1, (hsb.2 T hTJ).trans h2, hit', h4.extBut hsb.extBut hlJ⟩ fun b o hb e => hsb.extBut b o (fun q => hb (by rw [q]; simp)) e)
  done := fun s Q E st hQ => by
    obtain ⟨h1, h2, h3, h4⟩ := st
    have hTy : s.TypeIs (.ref I) "map" := ⟨_, h1, rfl⟩
    unfold pyNext
    refine wpAny_bind (wpAny_attempt (wpAny_callSpecial?_slot (name := Str.ofString "__next__") hTy slot_map_next
      (wpAny_call_entry slot_map_next hTy entry_map_next ?_ (args_map_next _))))
    refine map_stop hh h1 h2 h3 h4 (Array.getElem?_eq_none (Nat.le_refl _)) fun h' e o hx he hc => ?_
    refine wpAny_bind (wpAny_isInstance (T := "StopIteration") (b := true) ⟨o, he, hc⟩ isSubtype_stop ?_)
    exact wpAny_pure (hQ h' s.toks fun b o hb e => hx b o (fun q => hb (by rw [q]; simp)) e)
  self := fun i s Q E st hQ => by
    have hTy : s.TypeIs (.ref I) "map" := ⟨_, st.1, rfl⟩
    refine wpAny_pyIter_slot hTy slot_map_iter (wpAny_call_entry slot_map_iter hTy entry_map_iter ?_ (args_map_iter _))
    show wpAny _ _ (ret (.ref I)) _ _ s
    exact wpAny_pure ⟨_, rfl, "map", _, hTy, slot_map_next.lookup, hQ⟩
end
end R
end
section
namespace R
open Builtin Builtin.Str
section
variable {prog : Program} {w : World} {A : Around} {E : Value → Shared → Prop} {s : Shared} {I : Addr} {fp wr : List Addr} {G : Array GenState → Array GenState → Prop} {n : Nat} {P : Nat → Value → Prop} {St : Nat → Shared → Prop}
theorem collect_map {Q : List Value → Shared → Prop} (W : WalksS prog w A.in1 I fp wr G n P St) (hT : ∀ i s, St i s → s.TypeIs (.ref I) "map") (hst : St 0 s) (hfp : ∀ b ∈ fp, b < s.heap.objs.size) (hI : I ∈ fp)
    (hQ : ∀ s' acc, Moved wr G s s' → ItemsOf P acc n → Q acc.toList s') (hn : n ≤ sizeLine) : wpAny (model prog w) A (collect (.ref I)) Q E s := by
  have hSf : s.heap.objs.size ∉ fp := fun hm => Nat.lt_irrefl _ (hfp _ hm)
  have hSI : s.heap.objs.size ≠ I := fun e => hSf (e ▸ hI)
  unfold collect
  refine wpAny_bind (wpAny_runValue (codeAny_builtin F.entry_proto_collect ?_))
  rw [Around.under_plainId F.plain_proto_collect _]
  show wpAny _ A.in1 (newList [] >>= fun l => again (.builtin "list.__iadd__" ⟨[l, .ref I], []⟩)) _ _ s
  refine wpAny_bind (wpAny_newObj_type ?_)
  refine wpAny_pure ⟨plainId_quiet F.plain_list_iadd _, codeAny_builtin F.entry_list_iadd ?_⟩
  rw [Around.under_plainId F.plain_list_iadd _]
  have hst₁ := W.frame 0 s (s.heap.push { cls := .type "list", data := .seq ([] : List Value).toArray }) s.toks hst (Nat.le_refl _) fun b _ o e => Heap.get?_push_of_some _ e
  show wpAny _ A.in1 (Builtin.List.listExtendWith (.ref s.heap.objs.size) (.ref I) (.ref s.heap.objs.size)) _ _ _
  unfold Builtin.List.listExtendWith
  refine wpAny_bind (wpAny_typeOf (hT 0 _ hst₁) ?_)
  have h1 : Builtin.List.listSameRef (.ref s.heap.objs.size) (.ref I) = false := by simp [Builtin.List.listSameRef, hSI]
  have h2 : (Value.type "map" == Value.type "list") = false := by decide
  have h3 : (Value.type "map" == Value.type "tuple") = false := by decide
  simp only [h1, h2, h3, Bool.or_false, Bool.false_eq_true, if_false]
  refine wpAny_bind (W.self 0 _ _ _ hst₁ ?_)
  refine wpAny_bind (wpAny_holding ?_)
  unfold Builtin.List.listLengthHint
  refine wpAny_bind (wpAny_specialOf (hT 0 _ hst₁) map_no_len ?_)
  show wpAny _ A.in1 (specialOf (Value.ref I) (Str.ofString "__length_hint__") >>= _) _ _ _
  refine wpAny_bind (wpAny_specialOf (hT 0 _ hst₁) map_no_hint ?_)
  refine wpAny_pure ?_
  show wpAny _ A.in1 (rule "list.extend.makes-room" >>= fun _ => Builtin.List.listTouch (.ref s.heap.objs.size) >>= fun _ =>
    again (.builtin "list.extend.loop" ⟨[.ref s.heap.objs.size, .ref I, .ref s.heap.objs.size], []⟩)) _ _ _
  refine wpAny_bind (wpAny_rule ?_)
  have hS₁ : (s.heap.push { cls := .type "list", data := .seq ([] : List Value).toArray }).get? s.heap.objs.size = some { cls := .type "list", data := .seq ([] : List Value).toArray } := Heap.get?_push_size _ rfl
  refine wpAny_bind ?_
  show wpAny _ A.in1 (updateSeq s.heap.objs.size (·.push .none) >>= fun _ => updateSeq s.heap.objs.size (·.pop)) _ _ _
  refine wpAny_bind (wpAny_updateSeq hS₁ rfl ?_)
  have hS₂ := Heap.get?_update_self (Obj.mapSeq (·.push Value.none)) hS₁ rfl
  refine wpAny_updateSeq hS₂ rfl ?_
  have hS₃ := Heap.get?_update_self (Obj.mapSeq (·.pop)) hS₂ rfl
  have oth : ∀ b o, b ≠ s.heap.objs.size → (s.heap.push { cls := .type "list", data := .seq ([] : List Value).toArray }).get? b = some o →
      (((s.heap.push { cls := .type "list", data := .seq ([] : List Value).toArray }).update s.heap.objs.size (Obj.mapSeq (·.push Value.none))).update s.heap.objs.size (Obj.mapSeq (·.pop))).get? b = some o :=
    fun b o hb e => (Heap.get?_update_other _ _ (Ne.symm hb)).trans ((Heap.get?_update_other _ _ (Ne.symm hb)).trans e)
  refine wpAny_pure ⟨plainId_quiet F.plain_extend_loop _, codeAny_extend_loopS W hn _ hSf _ n 0 _ _ _ rfl (Nat.zero_le _)
    (W.frame 0 ({ s with heap := s.heap.push { cls := .type "list", data := .seq ([] : List Value).toArray } } : Shared) _ s.toks hst₁ (Nat.le_refl _) fun b hb o e => oth b o (fun h => hSf (h ▸ hb)) e) hS₃ (ItemsOf.nil P) fun s' acc' c' hm hS' hacc => ?_⟩
  show wpAny _ A (load s.heap.objs.size >>= _) _ _ s'
  refine wpAny_bind (wpAny_load hS' ?_)
  refine wpAny_pure (hQ s' acc' (Moved.drop_new (o := { cls := .type "list", data := .seq ([] : List Value).toArray }) (tk := s.toks) (Moved.trans W.gtrans ((Moved.refl W.grefl).then_heap (by first | exact Nat.le_refl _ | exact Nat.le_succ _ | omega) fun b o hb e => ?_) hm) (Nat.le_refl _)) hacc)
  exact oth b o (fun h => hb (h ▸ List.mem_cons_self)) e
end
section
variable {prog : Program} {w : World} {A : Around} {E : Value → Shared → Prop} {s : Shared} {x : Str} {t : Tok} {Q : Value → Shared → Prop} {I T J l : Addr} {items : Array Value} {ws : List Str}
theorem strs_pack (f : Str → Str) : ∀ (ws : List Str) (vs : List Value), vs.length = ws.length → (∀ j v, vs[j]? = some v → ∃ u, v = Value.str (f (ws.getD j Str.empty)) u) → ∃ lp : List (Str × Tok), strValues lp = vs ∧ lp.map (·.1) = ws.map f
  | [], [], _, _ => ⟨[], rfl, rfl⟩
  | [], _ :: _, h, _ => by cases h
  | _ :: _, [], h, _ => by cases h
  | y :: ws, v :: vs, h, hv => by
    obtain ⟨u, rfl⟩ := hv 0 v rfl
    obtain ⟨lp, h1, h2⟩ := strs_pack f ws vs (Nat.succ.inj h) fun j v hj => hv (j + 1) v (by simpa using hj)
    exact ⟨(f y, u) :: lp, by subst h1; rfl, by rw [List.map_cons, List.map_cons, h2]⟩
theorem join_map (hh : A.handled = none) (hst : StrsAre items.toList ws) (hlen : ∀ x ∈ ws, x.length ≤ 1000) (hn : ws.length ≤ 1000) (hIJ : I ≠ J) (hTJ : T ≠ J) (hlJ : l ≠ J) (hs : mapSt I T J l items 0 s.heap)
    (hfp : ∀ b ∈ [I, T, J, l], b < s.heap.objs.size) (hok : JoinOk x (ws.map Txt.capitalize) = true)
    (hQ : ∀ h' t' k, (∀ b o, b ≠ J → s.heap.get? b = some o → h'.get? b = some o) → Q (.str (Txt.join x (ws.map Txt.capitalize)) t') { s with heap := h', toks := k }) :
    wpAny (model prog w) A (call (.builtin "str.join") [.str x t, .ref I]) Q E s := by
  have hsz : items.size = ws.length := by rw [← strs_len hst, Array.length_toList]
  have W := (map_walks (prog := prog) (w := w) (A := A.in1.in1) (I := I) (T := T) hh hst hlen hIJ hTJ hlJ).toS
  refine wpAny_call (codeAny_call_builtin F.slot_str_join.plain F.entry_str_join (F.slot_str_join.check _ _ _ _ _ _ _ _ (typeIs_str _ _ _) (F.args_str_join_2 _ _) ?_))
  rw [join_tree_other]
  refine wpAny_bind (wpAny_typeOf (T := "map") ⟨_, hs.1, rfl⟩ ?_)
  show wpAny _ A.in1 ((pyIter (.ref I)).tryCatch _ >>= fun it => collect it >>= fun items => joinTail x items) _ _ s
  refine wpAny_bind (wpAny_tryCatch (W.of_in1.self 0 s _ _ hs ?_))
  refine wpAny_bind (collect_map W (fun i s st => ⟨_, st.1, rfl⟩) hs hfp (by simp) (fun s' acc hm hacc => ?_) (by rw [sizeLine_eq]; omega))
  obtain ⟨lp, h1, h2⟩ := strs_pack Txt.capitalize ws acc.toList (by rw [Array.length_toList, hacc.1, hsz]) fun j v hj => hacc.2 j v (by rw [← hj, Array.getElem?_toList])
  rw [← h1]
  rw [← h2] at hok
  unfold JoinOk at hok
  rw [Bool.not_eq_true'] at hok
  have g : Gives (joinTail x (strValues lp)) (joinMade x lp) := by
    have g0 := gives_joinTail x lp hok
    cases lp with
    | nil => exact g0
    | cons p r => cases r with
      | nil => exact g0
      | cons q r' => exact g0
  refine g prog w A (wants Q E) s' (post_join lp ⟨joinFit_length hok, fun t' k => ?_⟩)
  rw [h2]
  obtain ⟨m1, m2, m3, m4, m5⟩ := hm
  obtain ⟨h', g', d', k', o'⟩ := s'
  dsimp only at m1 m2 m3 m4
  subst m2 m3 m4
  exact hQ h' t' k fun b o hb e => m1 b o (by simpa using hb) e
end
end R
end
section
namespace R
open Builtin Builtin.Str
theorem mro_map : mroOf (.type "map") = pure [.type "map", .type "object"] := by rw [mroOf_type]; kernel_rfl
theorem lookup_map_new : typeLookup (.type "map") "__new__" = pure (some (.builtin "map.__new__")) := by rw [typeLookup_type, builtinLookup_eq_fast]; kernel_rfl
theorem slot_map_init : Slot "map" "__init__" "object.__init__" :=
  .of (owner := "object") (n := "__init__") (by rw [typeLookup_type, builtinLookup_eq_fast]; kernel_rfl) (by decide +kernel) (by decide +kernel) (by decide +kernel)
    (by first | exact .inl (by decide +kernel) | exact .inr (by decide +kernel)) (by rw [isSubtype_type]; kernel_rfl)
theorem called_map : TypeCalled "map" "map.__new__" "object.__init__" :=
  ⟨by decide +kernel, by decide +kernel, ⟨_, _, mro_map⟩, madeBy_type mro_map lookup_map_new (by decide +kernel), by decide +kernel, by rw [isSubtype_type]; kernel_rfl, slot_map_init⟩
theorem typeCall_map (a b : Value) : checkTypeCall "map" ⟨[a, b], []⟩ = pure () := by kernel_rfl
theorem newCall_map (a b : Value) : checkBuiltinCall "map.__new__" ⟨[.type "map", a, b], []⟩ = pure () := by kernel_rfl
theorem init_map (obj a b : Value) : argsOk "object.__init__" ⟨[obj, a, b], []⟩ := by unfold argsOk; kernel_rfl
theorem entry_map_new : entryFor table "map.__new__" = some Builtin.«map.__new__» := entryFor_of_tree (by kernel_rfl)
theorem sub_map : isSubtype (.type "map") (.type "map") = pure true := by rw [isSubtype_type]; kernel_rfl
theorem meets_map_new {l : Addr} {items : Array Value} :
    Meets («map.__new__» ⟨[.type "map", .builtin "str.capitalize", .ref l], []⟩) (fun _ R s => s.heap.IsList l items ∧ R (.ok (.ret (.ref (s.heap.objs.size + 2))))
      { s with heap := ((s.heap.push { cls := .type "list_iterator", data := .fields #[.ref l, .int 0 0] }).push (tupObj s.heap.objs.size)).push (mapObj (s.heap.objs.size + 1)) }) := by
  refine .of_wp fun prog w A R s hS => ?_
  obtain ⟨hl, hR⟩ := hS
  unfold Builtin.«map.__new__»
  refine wpAny_bind ?_
  unfold SmallTypes.newClass
  dsimp only
  refine wpAny_bind (wpAny_pure ?_)
  refine wpAny_bind (wpAny_of_eq sub_map ?_)
  refine wpAny_pure ?_
  dsimp only
  refine wpAny_bind (wpAny_pure ?_)
  rw [if_neg (show ¬ ([Value.builtin "str.capitalize", Value.ref l].length < 2) from by simp)]
  refine wpAny_bind ?_
  show wpAny _ _ (SmallTypes.iterAll [.ref l]) _ _ s
  unfold SmallTypes.iterAll
  dsimp only
  refine wpAny_bind ?_
  rw [List.forIn_cons]
  refine wpAny_bind (wpAny_bind (wpAny_holding (wpAny_pyIter_list hl ?_)))
  refine wpAny_pure (wpAny_pure (wpAny_pure ?_))
  refine wpAny_bind (wpAny_newObj_type ?_ (by exact Nat.le_of_ble_eq_true rfl))
  refine wpAny_bind ?_
  show wpAny _ _ (newObj (.type "map") (.fields #[.ref _, .builtin "str.capitalize"])) _ _ _
  refine wpAny_newObj_type ?_ (by show Array.size _ ≤ sizeLine + 2; exact Nat.le_of_ble_eq_true rfl)
  refine wpAny_pure ⟨_, rfl, ?_⟩
  simp only [Heap.size_push]
  exact hR
section
variable {prog : Program} {w : World} {A : Around} {E : Value → Shared → Prop} {s : Shared} {Q : Value → Shared → Prop} {l : Addr} {items : Array Value}
theorem mk_map (hl : s.heap.IsList l items) (h : Q (.ref (s.heap.objs.size + 2)) { s with heap := ((s.heap.push { cls := .type "list_iterator", data := .fields #[.ref l, .int 0 0] }).push (tupObj s.heap.objs.size)).push (mapObj (s.heap.objs.size + 1)) }) :
    wpAny (model prog w) A (call (.type "map") [.builtin "str.capitalize", .ref l]) Q E s :=
  callType_new called_map (by decide) (typeCall_map _ _) (newCall_map _ _) (fun obj => init_map obj _ _) entry_map_new (meets_map_new (items := items)) ⟨hl, ⟨⟨_, by
    have e : s.heap.objs.size + 2 = ((s.heap.push { cls := .type "list_iterator", data := .fields #[.ref l, .int 0 0] }).push (tupObj s.heap.objs.size)).objs.size := by simp only [Heap.size_push]
    rw [e]; exact Heap.get?_push_size _ rfl, rfl⟩, h⟩⟩
theorem mk_map_st (hl : s.heap.IsList l items) : mapSt (s.heap.objs.size + 2) (s.heap.objs.size + 1) s.heap.objs.size l items 0 (((s.heap.push { cls := .type "list_iterator", data := .fields #[.ref l, .int 0 0] }).push (tupObj s.heap.objs.size)).push (mapObj (s.heap.objs.size + 1))) := by
  refine ⟨?_, ?_, ⟨_, Heap.get?_push_of_some _ (Heap.get?_push_of_some _ (Heap.get?_push_size _ rfl)), rfl, rfl⟩, ?_⟩
  · have e : s.heap.objs.size + 2 = ((s.heap.push { cls := .type "list_iterator", data := .fields #[.ref l, .int 0 0] }).push (tupObj s.heap.objs.size)).objs.size := by simp only [Heap.size_push]
    rw [e]; exact Heap.get?_push_size _ rfl
  · have e : s.heap.objs.size + 1 = (s.heap.push { cls := .type "list_iterator", data := .fields #[.ref l, .int 0 0] }).objs.size := by simp only [Heap.size_push]
    have := Heap.get?_push_size (s.heap.push { cls := .type "list_iterator", data := .fields #[.ref l, .int 0 0] }) (o := tupObj s.heap.objs.size) rfl
    rw [← e] at this
    exact Heap.get?_push_of_some _ this
  · obtain ⟨o, ho, r⟩ := hl
    exact ⟨o, Heap.get?_push_of_some _ (Heap.get?_push_of_some _ (Heap.get?_push_of_some _ ho)), r⟩
end
end R
end
section
namespace R
open Builtin Builtin.Str
section
variable {prog : Program} {w : World} {A : Around} {E : Value → Shared → Prop} {s : Shared} {K : Frag}
theorem attr_type {T : String} {name : Str} {v : Value} {expr : Bool} {Q : Value → Shared → Prop} (X : K.In s.heap) (ht : typeOf (.type T) = pure (.type "type")) (hs : Manifest.isStub T = false)
    (e : findCls K (.type T) (.type "type") name = some (.val v)) (hh : handedIn v = true) (h : ∀ k, Q v { s with toks := k }) : wpAny (model prog w) A (getAttr (.type T) name expr) Q E s := by
  have hstub : opaqueClassAbove (.type T) = pure none := by unfold opaqueClassAbove; dsimp only; rw [hs]; rfl
  have L0 : Looks (model prog w) s.heap (typeOf (.type T)) (.type "type") := Looks.of_pure ht
  have hg : findIn K (.type "type") "__getattribute__" = some (some (.builtin "type.__getattribute__")) := type_tga
  have LO : Looks (model prog w) s.heap (opaqueClassAbove (.type T)) none := Looks.of_pure hstub
  exact cls_open X LO L0 hg (looks_hook X (r := none) (by rfl)) (by show subIn K _ _ = _; rfl) e
    (wpAny_pure (by show wpAny _ _ (handedOut v) _ _ _; rw [handedOut_of hh]; exact wpAny_pure (h _)))
theorem split_ws {x : Str} {t : Tok} {Q : Value → Shared → Prop} (hx : x.length ≤ 100000) (h : ∀ D lp h' k, lp.map (·.1) = Txt.words x → Kept s.heap h' → s.heap.objs.size ≤ D → h'.IsList D (strValues lp).toArray → Q (.ref D) { s with heap := h', toks := k }) :
    wpAny (model prog w) A (call (.builtin "str.split") [.str x t, .none]) Q E s := by
  have hsz : x.length ≤ sizeLine := by rw [sizeLine_eq]; omega
  have hsz2 : (spaceWords x (x.length + 1)).length ≤ sizeLine := by
    have e1 := (StrLaws.sw_weight x).1
    have e2 := StrLaws.len_le_wsum (spaceWords x (x.length + 1))
    rw [sizeLine_eq]; omega
  refine call_meets F.slot_str_split (typeIs_str _ _ _) F.entry_str_split (F.args_str_split_2 _ _) (by rw [split_none_eq]; exact meets_str_split_space x t hsz hsz2) ?_
  cases hw : spaceWords x (x.length + 1) == [(0, x.length)]
  · simp only [Bool.false_eq_true, if_false]
    rw [strsFrom_eq]
    exact h _ (numbered s.toks (PySem.wordsOf x)) _ _ ((numbered_texts _ _).trans (if_neg (ne_true_of_eq_false hw)).symm) (kept_push _ _) (Nat.le_refl _) ⟨_, Heap.get?_push_size _ rfl, rfl, _, rfl⟩
  · simp only [if_true]
    exact h _ [(x, t)] _ s.toks (if_pos hw).symm (kept_push _ _) (Nat.le_refl _) ⟨_, Heap.get?_push_size _ rfl, rfl, _, rfl⟩
theorem split_on {x y : Str} {t u : Tok} {Q : Value → Shared → Prop} (hx : x.length ≤ 100000) (hy : (y.length == 0) = false) (h : ∀ D lp h' k, lp.map (·.1) = Txt.split x y → Kept s.heap h' → h'.IsList D (strValues lp).toArray → Q (.ref D) { s with heap := h', toks := k }) :
    wpAny (model prog w) A (call (.builtin "str.split") [.str x t, .str y u]) Q E s := by
  have hsz : x.length ≤ sizeLine := by rw [sizeLine_eq]; omega
  have hsz2 : (partsBetween x (occurrences x y 0 x.length (x.length + 1)) y.length).length ≤ sizeLine := by
    have e1 := StrLaws.occ_length_le x y 0 x.length (x.length + 1)
    rw [length_partsBetween, sizeLine_eq]; omega
  exact SCH.split1 (P := Kept s.heap) (fun h o k => fun b q e => Heap.get?_push_of_some _ (k b q e)) (kept_refl _) hy (fun D lp h' k ht kp hl => h D lp h' k ht kp hl) hsz hsz2
theorem strs_values : ∀ lp : List (Str × Tok), StrsAre (strValues lp) (lp.map (·.1))
  | [] => .nil
  | (y, t) :: r => .cons y t (strs_values r)
theorem meta_str : typeOf (.type "str") = pure (.type "type") := by first | rfl | kernel_rfl
end
end R
end
section
local macro_rules | `(tactic| walk_at "ite") => `(tactic| first | (refine PySem.W.ite_pos (by omega) ?_) | (refine PySem.W.ite_neg (by omega) ?_) | (refine PySem.W.ite_neg (by simp only [beq_iff_eq, bne_iff_ne, decide_eq_true_eq]; omega) ?_) | (refine PySem.W.ite_pos (by simp only [beq_iff_eq, bne_iff_ne, decide_eq_true_eq]; omega) ?_))
local macro_rules | `(tactic| walk_at "exec Assign") => `(tactic| k_dflt (refine wpAny_Assign_Name ?_))
section
local macro_rules | `(tactic| walk_at "call type:type") => `(tactic| ((with_reducible show wpAny _ _ (call (Value.type "type") [Value.bytes _ _]) _ _ _); refine R.type_bytes ?_))
local macro_rules | `(tactic| walk_at "getMethod str") => `(tactic| (with_reducible refine R.getm_encode ?_))
local macro_rules | `(tactic| walk_at "getMethod bytes") => `(tactic| first | (with_reducible refine R.getm_hex ?_) | (with_reducible refine R.getm_upper ?_))
local macro_rules | `(tactic| walk_at "call builtin:str.encode") => `(tactic| (refine R.encode_ascii (by assumption) (by assumption) (by assumption) ?_; intro _ _))
local macro_rules | `(tactic| walk_at "call builtin:bytes.hex") => `(tactic| (refine R.hex_call (by assumption) ?_; intro _ _))
local macro_rules | `(tactic| walk_at "call builtin:bytes.upper") => `(tactic| (refine R.upper_call (by assumption) ?_; intro _ _))
section
set_option maxHeartbeats 4000000 in
theorem buffer_ctr (w : World) (b : Array UInt8) (t : Tok) : Ctr w 86 [.bytes b t] [] 1 (fun _ => True) (fun _ v _ => v = .bytes b t) := by
  unfold Ctr; k_fill
  intro p loose mean mg mb base outer dp un gd s Q E X T B hdp hun hp hQ
  refine wpAny_call ?_
  refine' enterK (binds := [(Str.ofString "data", .bytes b t)]) X T ?k6 ?k7 ?k8 ?k9 ?kB ?_ ?c2 ?c3 ?c4 ?c5
  case k6 => k_dflt k_is
  case k7 => k_dflt k_is
  case k8 => show dp < recursionLimit; omega
  case k9 => exact BindsTo.of_eq rfl
  case c5 => decide
  case kB => exact locs rfl
  case c2 => exact rfl
  case c3 => exact rfl
  case c4 => exact rfl
  intro L h₁ hL F N
  dsimp only
  try k_fold
  w_on
  k_steps
  all_goals (refine hQ _ _ _ ?a ?b; (case a => exact Fr.keep (by k_asm)); (case b => rfl))
set_option maxHeartbeats 4000000 in
theorem truth_ctr (w : World)  : Ctr w 93 [.bool false] [] 1 (fun _ => True) (fun _ v _ => v = .bool false) := by
  unfold Ctr; k_fill
  intro p loose mean mg mb base outer dp un gd s Q E X T B hdp hun hp hQ
  refine wpAny_call ?_
  refine' enterK (binds := [(Str.ofString "x", .bool false)]) X T ?k6 ?k7 ?k8 ?k9 ?kB ?_ ?c2 ?c3 ?c4 ?c5
  case k6 => k_dflt k_is
  case k7 => k_dflt k_is
  case k8 => show dp < recursionLimit; omega
  case k9 => exact BindsTo.of_eq rfl
  case c5 => decide
  case kB => exact locs rfl
  case c2 => exact rfl
  case c3 => exact rfl
  case c4 => exact rfl
  intro L h₁ hL F N
  dsimp only
  try k_fold
  w_on
  k_steps
  all_goals (refine hQ _ _ _ ?a ?b; (case a => exact Fr.keep (by k_asm)); (case b => rfl))
set_option maxHeartbeats 4000000 in
theorem asciibuf_ctr (w : World) (b : Array UInt8) (t : Tok) : Ctr w 79 [.bytes b t] [] 1 (fun _ => True) (fun _ v _ => v = .bytes b t) := by
  unfold Ctr; k_fill
  intro p loose mean mg mb base outer dp un gd s Q E X T B hdp hun hp hQ
  refine wpAny_call ?_
  refine' enterK (binds := [(Str.ofString "data", .bytes b t)]) X T ?k6 ?k7 ?k8 ?k9 ?kB ?_ ?c2 ?c3 ?c4 ?c5
  case k6 => k_dflt k_is
  case k7 => k_dflt k_is
  case k8 => show dp < recursionLimit; omega
  case k9 => exact BindsTo.of_eq rfl
  case c5 => decide
  case kB => exact locs rfl
  case c2 => exact rfl
  case c3 => exact rfl
  case c4 => exact rfl
  intro L h₁ hL F N
  dsimp only
  try k_fold
  w_on
  k_steps
  all_goals (refine hQ _ _ _ ?a ?b; (case a => exact Fr.keep (by k_asm)); (case b => rfl))
section
variable {prog : Program} {w : World} {A : Around} {E : Value → Shared → Prop} {s : Shared}
theorem chain_le {env : Env} {a b c : Int} {t : Tok} {x : Str} {k1 k2 : Nat} {p1 pn p2 p3 : Pos} {whole : _} {Q : Bool → Shared → Prop}
    (hn : ∀ (Q : Value → Shared → Prop) (tk : Nat), Q (.int c t) { s with toks := tk } → wpAny (model prog w) A (eval (.Name x pn) env) Q E { s with toks := tk })
    (h : ∀ tk, Q (decide (a ≤ c ∧ c ≤ b)) { s with toks := tk }) :
    wpAny (model prog w) A (PySem.isTrue (.Compare (.Constant (.int a) k1 p1) [.LtE, .LtE] [.Name x pn, .Constant (.int b) k2 p2] p3) env whole) Q E s := by
  refine isTrue_chain ?_
  refine wpAny_Constant_int ?_
  refine test_link ?_
  refine hn _ _ ?_
  refine le_int ?_
  refine wpAny_truthy_bool ?_
  by_cases h1 : a ≤ c
  · rw [if_pos (decide_eq_true h1)]
    refine test_last ?_
    refine wpAny_Constant_int ?_
    refine le_int ?_
    refine wpAny_truthy_bool ?_
    have e : decide (a ≤ c ∧ c ≤ b) = decide (c ≤ b) := by simp [h1]
    rw [← e]; exact h _
  · rw [if_neg (by simp [h1])]
    have e : decide (a ≤ c ∧ c ≤ b) = false := by simp [h1]
    have := h (s.toks + 1)
    rw [e] at this; exact this
theorem ite_dec {p : Prop} [Decidable p] {a b : Prop} (h1 : p → a) (h2 : ¬p → b) : if decide p = true then a else b := by
  by_cases h : p
  · rw [if_pos (decide_eq_true h)]; exact h1 h
  · rw [if_neg (by simp [h])]; exact h2 h
end
local macro_rules | `(tactic| walk_at "isTrue Compare") => `(tactic| (k_here; k_dflt (refine' chain_le ?n ?_; (case n => (intro Q' tk' hq'; refine' nameX_L ?F ?v hq' ?a ?b; (case F => k_asm); (case a => rfl); (case b => rfl); (case v => rfl))); k_whole); intro _))
local macro_rules | `(tactic| walk_at "ite") => `(tactic| ((try dsimp only); (with_reducible refine ite_dec ?_ ?_) <;> intro _))
def hexV (c : Int) : Int := if 48 ≤ c ∧ c ≤ 57 then c - 48 else if 65 ≤ c ∧ c ≤ 70 then c - 55 else if 97 ≤ c ∧ c ≤ 102 then c - 87 else 16
def b64V (c : Int) : Int := if 65 ≤ c ∧ c ≤ 90 then c - 65 else if 97 ≤ c ∧ c ≤ 122 then c - 71 else if 48 ≤ c ∧ c ≤ 57 then c + 4 else if c = 43 then 62 else if c = 47 then 63 else 64
set_option maxHeartbeats 4000000 in
theorem hexv_ctr (w : World) (c : Int) (t : Tok) : Ctr w 132 [.int c t] [] 1 (fun _ => True) (fun _ v _ => ∃ u, v = .int (hexV c) u) := by
  unfold Ctr; k_fill
  intro p loose mean mg mb base outer dp un gd s Q E X T B hdp hun hp hQ
  refine wpAny_call ?_
  refine' enterK (binds := [(Str.ofString "c", .int c t)]) X T ?k6 ?k7 ?k8 ?k9 ?kB ?_ ?c2 ?c3 ?c4 ?c5
  case k6 => k_dflt k_is
  case k7 => k_dflt k_is
  case k8 => show dp < recursionLimit; omega
  case k9 => exact BindsTo.of_eq rfl
  case c5 => decide
  case kB => exact locs rfl
  case c2 => exact rfl
  case c3 => exact rfl
  case c4 => exact rfl
  intro L h₁ hL F N
  dsimp only
  try k_fold
  w_on
  k_steps
  all_goals (refine hQ _ _ _ ?a ?b; (case a => exact Fr.keep (by k_asm)); (case b => exact ⟨_, congrArg (fun z => Value.int z _) (by unfold hexV; (repeat' split) <;> omega)⟩))
set_option maxHeartbeats 4000000 in
theorem b64v_ctr (w : World) (c : Int) (t : Tok) : Ctr w 100 [.int c t] [] 1 (fun _ => True) (fun _ v _ => ∃ u, v = .int (b64V c) u) := by
  unfold Ctr; k_fill
  intro p loose mean mg mb base outer dp un gd s Q E X T B hdp hun hp hQ
  refine wpAny_call ?_
  refine' enterK (binds := [(Str.ofString "c", .int c t)]) X T ?k6 ?k7 ?k8 ?k9 ?kB ?_ ?c2 ?c3 ?c4 ?c5
  case k6 => k_dflt k_is
  case k7 => k_dflt k_is
  case k8 => show dp < recursionLimit; omega
  case k9 => exact BindsTo.of_eq rfl
  case c5 => decide
  case kB => exact locs rfl
  case c2 => exact rfl
  case c3 => exact rfl
  case c4 => exact rfl
  intro L h₁ hL F N
  dsimp only
  try k_fold
  w_on
  k_steps
  all_goals (refine hQ _ _ _ ?a ?b; (case a => exact Fr.keep (by k_asm)); (case b => exact ⟨_, congrArg (fun z => Value.int z _) (by unfold b64V; (repeat' split) <;> omega)⟩))
end
section
local macro_rules | `(tactic| walk_at "call ref") => `(tactic| (k_dflt (refine ctr_useA (buffer_ctr _ _ _) ?_ (by trivial)); walk_at "got"))
set_option maxHeartbeats 4000000 in
theorem b2ahex_ctr (w : World) (ns : List Int) (hn : ns ∈ allRows) (t : Tok) : Ctr w 125 [.bytes (byteArr ns) t] [] 3 (fun _ => True) (fun _ v _ => ∃ u, v = .bytes (hexLow ns) u) := by
  obtain ⟨hf1, hf2, hf3, hf4, hf5, hf6, hf7⟩ := hex_facts hn
  unfold Ctr; k_fill
  intro p loose mean mg mb base outer dp un gd s Q E X T B hdp hun hp hQ
  refine wpAny_call ?_
  refine' enterK (binds := [(Str.ofString "data", .bytes (byteArr ns) t), (Str.ofString "sep", .ref 117), (Str.ofString "bytes_per_sep", .int 1 423)]) X T ?k6 ?k7 ?k8 ?k9 ?kB ?_ ?c2 ?c3 ?c4 ?c5
  case k6 => k_dflt k_is
  case k7 => k_dflt k_is
  case k8 => show dp < recursionLimit; omega
  case k9 => exact binds_K X rfl (by k_dflt k_is) rfl rfl rfl
  case c5 => decide
  case kB => exact locs rfl
  case c2 => exact rfl
  case c3 => exact rfl
  case c4 => exact rfl
  intro L h₁ hL F N
  dsimp only
  try k_fold
  w_on
  k_steps
  all_goals (refine hQ _ _ _ ?a ?b; (case a => exact Fr.keep (by k_asm)); (case b => exact ⟨_, rfl⟩))
local macro_rules | `(tactic| walk_at "call ref") => `(tactic| (k_dflt (refine ctr_useA (b2ahex_ctr _ _ (by assumption) _) ?_ (by trivial)); walk_at "got"))
set_option maxHeartbeats 4000000 in
theorem b16encode_ctr (w : World) (ns : List Int) (hn : ns ∈ allRows) (t : Tok) : Ctr w 162 [.bytes (byteArr ns) t] [] 5 (fun _ => True) (fun _ v _ => ∃ u, v = .bytes (hexUp ns).toArray u) := by
  obtain ⟨hf1, hf2, hf3, hf4, hf5, hf6, hf7⟩ := hex_facts hn
  unfold Ctr; k_fill
  intro p loose mean mg mb base outer dp un gd s Q E X T B hdp hun hp hQ
  refine wpAny_call ?_
  refine' enterK (binds := [(Str.ofString "s", .bytes (byteArr ns) t)]) X T ?k6 ?k7 ?k8 ?k9 ?kB ?_ ?c2 ?c3 ?c4 ?c5
  case k6 => k_dflt k_is
  case k7 => k_dflt k_is
  case k8 => show dp < recursionLimit; omega
  case k9 => exact BindsTo.of_eq rfl
  case c5 => decide
  case kB => exact locs rfl
  case c2 => exact rfl
  case c3 => exact rfl
  case c4 => exact rfl
  intro L h₁ hL F N
  dsimp only
  try k_fold
  w_on
  k_steps
  all_goals (refine hQ _ _ _ ?a ?b; (case a => exact Fr.keep (by k_asm)); (case b => exact ⟨_, rfl⟩))
end
section
namespace R
section
variable {prog : Program} {w : World} {A : Around} {E : Value → Shared → Prop} {s : Shared} {b : Array UInt8} {t ui : Tok} {i k : Int} {ks : List Int} {value slice : PySem.Expr} {Q : Value → Shared → Prop}
theorem item_at (hk : KBw.bInts b = ks) (hfit : ks.length ≤ 1000) (h0 : 0 ≤ i) (hx : ks[i.toNat]? = some k) (h : ∀ t' k', Q (.int k t') { s with toks := k' })
    (hs : subscripted slice false (.bytes b t) (.int i ui) = operate [.bytes b t, .int i ui] (getItem (.bytes b t) (.int i ui)) := by with_unfolding_all rfl)
    (ht : ∀ r, letTemporaryGo value (.bytes b t) r = pure () := by intro _; with_unfolding_all rfl) : wpAny (model prog w) A (subscriptTail value slice (.bytes b t) (.int i ui)) Q E s := by
  have hlt : i.toNat < ks.length := by
    rcases Nat.lt_or_ge i.toNat ks.length with h | h
    · exact h
    · rw [List.getElem?_eq_none h] at hx; cases hx
  refine KBw.item_K hk (by omega) h0 (by omega) (fun t' k' _ _ => ?_) hs ht
  rw [List.getD_eq_getElem?_getD, hx]
  exact h _ _
theorem len_at {n : Int} (hk : KBw.bInts b = ks) (hn : (ks.length : Int) = n) (hfit : ks.length ≤ 1000) (h : ∀ t' k', Q (.int n t') { s with toks := k' }) : wpAny (model prog w) A (call (.builtin "len") [.bytes b t]) Q E s :=
  KBw.len_K hk (by omega) (by rw [hn]; exact h _ _)
end
end R
theorem hexv_to (w : World) {c z : Int} (t : Tok) (h : hexV c = z) : Ctr w 132 [.int c t] [] 1 (fun _ => True) (fun _ v _ => ∃ u, v = .int z u) := by rw [← h]; exact hexv_ctr w c t
theorem b64v_to (w : World) {c z : Int} (t : Tok) (h : b64V c = z) : Ctr w 100 [.int c t] [] 1 (fun _ => True) (fun _ v _ => ∃ u, v = .int z u) := by rw [← h]; exact b64v_ctr w c t
end
section
local macro_rules | `(tactic| walk_at "execs cons") => `(tactic| (k_here; (try dsimp only); (try k_gentoks); (try k_fold); (with_reducible refine wpAny_execs_cons ?_); (try dsimp only)))
local macro_rules | `(tactic| walk_at "storeName") => `(tactic| (k_here; (try dsimp only); (try (with_reducible refine stv ?_; intro u9)); k_dflt (first | (refine' storeX_L ?F ?N ?_ ?a ?b; (case F => k_asm); (case N => k_asm); (case a => rfl); (case b => rfl); k_whole; intro h' F' N'; (try k_sweep); refine name_let F' ?_; clear F'; intro m9 F9) | (refine' storeX_C ?F ?N ?c ?U ?d ?_ ?a ?b; (case a => rfl); (case b => rfl); (case F => k_asm); (case N => k_asm); (case c => rfl); (case U => k_updF); (case d => k_asm); k_whole; intro h' o' F' N' d'; (try dsimp only at N'); (try k_sweep)))))
section
local macro_rules | `(tactic| walk_at "binaryOp LShift int int") => `(tactic| first | (refine R.shl 8 256 (by omega) (by decide) (by decide) (by omega) (by omega) ?_; intro _ _) | (refine R.shl 6 64 (by omega) (by decide) (by decide) (by omega) (by omega) ?_; intro _ _) | (refine R.shl 4 16 (by omega) (by decide) (by decide) (by omega) (by omega) ?_; intro _ _) | (refine R.shl 2 4 (by omega) (by decide) (by decide) (by omega) (by omega) ?_; intro _ _))
local macro_rules | `(tactic| walk_at "binaryOp RShift int int") => `(tactic| first | (refine R.shr 2 4 (by omega) (by decide) (by decide) ?_; intro _ _) | (refine R.shr 4 16 (by omega) (by decide) (by decide) ?_; intro _ _) | (refine R.shr 6 64 (by omega) (by decide) (by decide) ?_; intro _ _) | (refine R.shr 0 1 (by omega) (by decide) (by decide) ?_; intro _ _))
local macro_rules | `(tactic| walk_at "binaryOp BitAnd int int") => `(tactic| first | (with_reducible refine R.band3 ?_; intro _ _) | (with_reducible refine R.band15 ?_; intro _ _) | (with_reducible refine R.band63 ?_; intro _ _) | (with_reducible refine R.band65535 ?_; intro _ _))
local macro_rules | `(tactic| walk_at "binaryOp BitOr int int") => `(tactic| first | (with_reducible refine R.bor 8 256 (by decide) (by omega) (by omega) (by omega) ?_; intro _ _) | (with_reducible refine R.bor 6 64 (by decide) (by omega) (by omega) (by omega) ?_; intro _ _) | (with_reducible refine R.bor 4 16 (by decide) (by omega) (by omega) (by omega) ?_; intro _ _) | (with_reducible refine R.bor 2 4 (by decide) (by omega) (by omega) (by omega) ?_; intro _ _))
local macro_rules | `(tactic| walk_at "pyIter bytes") => `(tactic| ((with_reducible show wpAny _ _ (pyIter (Value.bytes _ _)) (fun it s₂ => LoopAtV _ _ _ _ _ _ _ _ _ it s₂) _ _); k_bytesUnr))
local macro_rules | `(tactic| walk_at "BytesRest") => `(tactic| ((with_unfolding_all first | (refine BytesRest.succ (fun _ _ u' it' h' tk' F' N' => ?_)) | (refine BytesRest.zero (fun h' tk' F' N' => ?_))); (try dsimp only [envOf] at F' N')))
local macro_rules | `(tactic| walk_at "call builtin:list.append") => `(tactic| ((try dsimp only); k_dflt (show wpAny _ _ (call (Value.builtin "list.append") [Value.ref _, _]) _ _ _); k_dflt (refine' append_K ?k1 ?k2 ?k3 ?_ ?z; (case k1 => k_asm); (case k2 => k_asm); (case k3 => k_upd); (case z => size_fits); k_whole); intro h' F' N'; (try k_sweep)))
local macro_rules | `(tactic| walk_at "call type:bytes") => `(tactic| ((try dsimp only); (with_reducible show wpAny _ _ (call (Value.type "bytes") [Value.ref _]) _ _ _); k_dflt (refine' R.bytes_news ?kF ?kN ?kh ?km ?ki ?kr ?kn ?_; (case kF => k_asm); (case kN => k_asm); (case kh => exact rfl); (case km => k_mem); (case ki => (repeat' (first | exact R.ints_nil | refine' R.ints_push ?_ _ _))); (case kr => (repeat' first | exact R.inb_nil | refine R.inb_snoc8 _ ?_ | refine R.inb_snoc ?_ (by omega) (by omega))); (case kn => exact Nat.le_of_ble_eq_true rfl); intro h' t' k' F' N'; (try k_sweep))))
section
def b64u : List UInt8 := [65, 66, 67, 68, 69, 70, 71, 72, 73, 74, 75, 76, 77, 78, 79, 80, 81, 82, 83, 84, 85, 86, 87, 88, 89, 90, 97, 98, 99, 100, 101, 102, 103, 104, 105, 106, 107, 108, 109, 110, 111, 112, 113, 114, 115, 116, 117, 118, 119, 120, 121, 122, 48, 49, 50, 51, 52, 53, 54, 55, 56, 57, 43, 47]
def b64T (i : Int) : Int := (((b64u.getD i.toNat 0).toNat : Nat) : Int)
/-- the signs of the writing to the base 64 -/
def enc64 : List Int → List Int
  | [a] => [b64T (a / 4), b64T (a % 4 * 16), 61, 61]
  | [a, b] => [b64T (a / 4), b64T (a % 4 * 16 + b / 16), b64T (b % 16 * 4), 61]
  | [a, b, c] => [b64T (a / 4), b64T (a % 4 * 16 + b / 16), b64T (b % 16 * 4 + c / 64), b64T (c % 64)]
  | _ => []
theorem list4 {a b c d a' b' c' d' : Int} (h1 : a = a') (h2 : b = b') (h3 : c = c') (h4 : d = d') : [a, b, c, d] = [a', b', c', d'] := by rw [h1, h2, h3, h4]
local macro_rules | `(tactic| walk_at "call ref") => `(tactic| (k_dflt (refine ctr_useA (buffer_ctr _ _ _) ?_ (by trivial)); walk_at "got"))
local macro_rules | `(tactic| walk_at "call ref") => `(tactic| (k_dflt (refine ctr_useA (truth_ctr _) ?_ (by trivial)); walk_at "got"))
theorem e64_1 {a : Int} (h0 : 0 ≤ a) (h1 : a < 256) : (0 * 256 + a) % 65536 / 4 % 64 = a / 4 := by omega
theorem e64_2 {a : Int} (h0 : 0 ≤ a) (h1 : a < 256) : (0 * 256 + a) % 65536 % 4 * 16 = a % 4 * 16 := by omega
theorem e64_3 {a b : Int} (h0 : 0 ≤ a) (h1 : a < 256) (k0 : 0 ≤ b) (k1 : b < 256) : ((0 * 256 + a) % 65536 * 256 + b) % 65536 / 16 % 64 = a % 4 * 16 + b / 16 := by omega
theorem e64_4 {y b : Int} (k0 : 0 ≤ b) (k1 : b < 256) : (y * 256 + b) % 65536 % 16 * 4 = b % 16 * 4 := by omega
theorem e64_5 {y b c : Int} (k0 : 0 ≤ b) (k1 : b < 256) (l0 : 0 ≤ c) (l1 : c < 256) : ((y * 256 + b) % 65536 * 256 + c) % 65536 / 64 % 64 = b % 16 * 4 + c / 64 := by omega
theorem e64_6 {y c : Int} (l0 : 0 ≤ c) (l1 : c < 256) : (y * 256 + c) % 65536 / 1 % 64 = c % 64 := by omega
local macro_rules | `(tactic| walk_at "pyIter bytes") => `(tactic| ((with_reducible show wpAny _ _ (pyIter (Value.bytes _ _)) (fun it s₂ => LoopAtV _ _ _ _ _ _ _ _ _ it s₂) _ _); (rename Fr _ _ _ _ => lF'); (rename News _ _ _ _ => lN'); (with_unfolding_all refine' iter_bytesUnr (l := ?l) (by rfl) lF' lN' ?hb ?_; (case hb => assumption)); clear lF' lN'; intro i' l1; (try k_lt l1)))
theorem row_tree {ns : List Int} (hn : ns ∈ allRows) : ∃ a r, ns = a :: r ∧ a ∈ marks ∧ (r = [] ∨ ∃ b r2, r = b :: r2 ∧ b ∈ marks ∧ (r2 = [] ∨ ∃ c, r2 = [c] ∧ c ∈ marks)) := by
  rcases row_cases hn with ⟨a, ha, rfl⟩ | ⟨a, b, ha, hb, rfl⟩ | ⟨a, b, c, ha, hb, hc, rfl⟩
  · exact ⟨a, _, rfl, ha, .inl rfl⟩
  · exact ⟨a, _, rfl, ha, .inr ⟨b, _, rfl, hb, .inl rfl⟩⟩
  · exact ⟨a, _, rfl, ha, .inr ⟨b, _, rfl, hb, .inr ⟨c, rfl, hc⟩⟩⟩
theorem row_ints {ns : List Int} (hn : ns ∈ allRows) : KBw.bInts (byteArr ns) = ns := by
  rcases row_cases hn with ⟨a, ha, rfl⟩ | ⟨a, b, ha, hb, rfl⟩ | ⟨a, b, c, ha, hb, hc, rfl⟩
  · exact KBa.ints_make (R.inb_int (mark_in ha).1 (mark_in ha).2 R.inb_nil)
  · exact KBa.ints_make (R.inb_int (mark_in ha).1 (mark_in ha).2 (R.inb_int (mark_in hb).1 (mark_in hb).2 R.inb_nil))
  · exact KBa.ints_make (R.inb_int (mark_in ha).1 (mark_in ha).2 (R.inb_int (mark_in hb).1 (mark_in hb).2 (R.inb_int (mark_in hc).1 (mark_in hc).2 R.inb_nil)))
set_option maxHeartbeats 8000000 in
theorem b2ab64_ctr (w : World) (ns : List Int) (hn : ns ∈ allRows) (t : Tok) : Ctr w 116 [.bytes (byteArr ns) t] [(Str.ofString "newline", .bool false)] 2 (fun _ => True) (fun _ v _ => ∃ u, v = .bytes (byteArr (enc64 ns)) u) := by
  have hbi := row_ints hn
  obtain ⟨a, r, rfl, ha, hr⟩ := row_tree hn
  clear hn
  obtain ⟨ha0, ha1⟩ := mark_in ha
  unfold Ctr; k_fill
  intro p loose mean mg mb base outer dp un gd s Q E X T B hdp hun hp hQ
  obtain ⟨hp0, ge0, dr0, tk0, os0⟩ := s
  dsimp only at X T B hp hQ
  refine wpAny_call ?_
  refine' enterK (binds := [(Str.ofString "data", .bytes (byteArr (a :: r)) t), (Str.ofString "newline", .bool false)]) X T ?k6 ?k7 ?k8 ?k9 ?kB ?_ ?c2 ?c3 ?c4 ?c5
  case k6 => k_dflt k_is
  case k7 => k_dflt k_is
  case k8 => show dp < recursionLimit; omega
  case k9 => exact BindsTo.of_eq rfl
  case c5 => decide
  case kB => exact locs rfl
  case c2 => exact rfl
  case c3 => exact rfl
  case c4 => exact rfl
  intro L h₁ hL F N
  dsimp only
  try k_fold
  refine ar_let ?_
  intro A9
  w_on
  k_steps
  rcases hr with rfl | ⟨b, r2, rfl, hb, hr⟩
  · k_steps
    all_goals (refine hQ _ _ _ ?a ?b; (case a => exact Fr.keep (by k_asm)); (case b => exact ⟨_, congrArg (fun z => Value.bytes (byteArr z) _) (list4 (by first | rfl | exact congrArg b64T (e64_1 ha0 ha1) | exact congrArg b64T (e64_2 ha0 ha1) | exact congrArg b64T (e64_3 ha0 ha1 hb0 hb1) | exact congrArg b64T (e64_4 hb0 hb1) | exact congrArg b64T (e64_5 hb0 hb1 hc0 hc1) | exact congrArg b64T (e64_6 hc0 hc1) | fail) (by first | rfl | exact congrArg b64T (e64_1 ha0 ha1) | exact congrArg b64T (e64_2 ha0 ha1) | exact congrArg b64T (e64_3 ha0 ha1 hb0 hb1) | exact congrArg b64T (e64_4 hb0 hb1) | exact congrArg b64T (e64_5 hb0 hb1 hc0 hc1) | exact congrArg b64T (e64_6 hc0 hc1) | fail) (by first | rfl | exact congrArg b64T (e64_1 ha0 ha1) | exact congrArg b64T (e64_2 ha0 ha1) | exact congrArg b64T (e64_3 ha0 ha1 hb0 hb1) | exact congrArg b64T (e64_4 hb0 hb1) | exact congrArg b64T (e64_5 hb0 hb1 hc0 hc1) | exact congrArg b64T (e64_6 hc0 hc1) | fail) (by first | rfl | exact congrArg b64T (e64_1 ha0 ha1) | exact congrArg b64T (e64_2 ha0 ha1) | exact congrArg b64T (e64_3 ha0 ha1 hb0 hb1) | exact congrArg b64T (e64_4 hb0 hb1) | exact congrArg b64T (e64_5 hb0 hb1 hc0 hc1) | exact congrArg b64T (e64_6 hc0 hc1) | fail))⟩))
  · obtain ⟨hb0, hb1⟩ := mark_in hb
    k_steps
    rcases hr with rfl | ⟨c, rfl, hc⟩
    · k_steps
      all_goals (refine hQ _ _ _ ?a ?b; (case a => exact Fr.keep (by k_asm)); (case b => exact ⟨_, congrArg (fun z => Value.bytes (byteArr z) _) (list4 (by first | rfl | exact congrArg b64T (e64_1 ha0 ha1) | exact congrArg b64T (e64_2 ha0 ha1) | exact congrArg b64T (e64_3 ha0 ha1 hb0 hb1) | exact congrArg b64T (e64_4 hb0 hb1) | exact congrArg b64T (e64_5 hb0 hb1 hc0 hc1) | exact congrArg b64T (e64_6 hc0 hc1) | fail) (by first | rfl | exact congrArg b64T (e64_1 ha0 ha1) | exact congrArg b64T (e64_2 ha0 ha1) | exact congrArg b64T (e64_3 ha0 ha1 hb0 hb1) | exact congrArg b64T (e64_4 hb0 hb1) | exact congrArg b64T (e64_5 hb0 hb1 hc0 hc1) | exact congrArg b64T (e64_6 hc0 hc1) | fail) (by first | rfl | exact congrArg b64T (e64_1 ha0 ha1) | exact congrArg b64T (e64_2 ha0 ha1) | exact congrArg b64T (e64_3 ha0 ha1 hb0 hb1) | exact congrArg b64T (e64_4 hb0 hb1) | exact congrArg b64T (e64_5 hb0 hb1 hc0 hc1) | exact congrArg b64T (e64_6 hc0 hc1) | fail) (by first | rfl | exact congrArg b64T (e64_1 ha0 ha1) | exact congrArg b64T (e64_2 ha0 ha1) | exact congrArg b64T (e64_3 ha0 ha1 hb0 hb1) | exact congrArg b64T (e64_4 hb0 hb1) | exact congrArg b64T (e64_5 hb0 hb1 hc0 hc1) | exact congrArg b64T (e64_6 hc0 hc1) | fail))⟩))
    · obtain ⟨hc0, hc1⟩ := mark_in hc
      k_steps
      all_goals (refine hQ _ _ _ ?a ?b; (case a => exact Fr.keep (by k_asm)); (case b => exact ⟨_, congrArg (fun z => Value.bytes (byteArr z) _) (list4 (by first | rfl | exact congrArg b64T (e64_1 ha0 ha1) | exact congrArg b64T (e64_2 ha0 ha1) | exact congrArg b64T (e64_3 ha0 ha1 hb0 hb1) | exact congrArg b64T (e64_4 hb0 hb1) | exact congrArg b64T (e64_5 hb0 hb1 hc0 hc1) | exact congrArg b64T (e64_6 hc0 hc1) | fail) (by first | rfl | exact congrArg b64T (e64_1 ha0 ha1) | exact congrArg b64T (e64_2 ha0 ha1) | exact congrArg b64T (e64_3 ha0 ha1 hb0 hb1) | exact congrArg b64T (e64_4 hb0 hb1) | exact congrArg b64T (e64_5 hb0 hb1 hc0 hc1) | exact congrArg b64T (e64_6 hc0 hc1) | fail) (by first | rfl | exact congrArg b64T (e64_1 ha0 ha1) | exact congrArg b64T (e64_2 ha0 ha1) | exact congrArg b64T (e64_3 ha0 ha1 hb0 hb1) | exact congrArg b64T (e64_4 hb0 hb1) | exact congrArg b64T (e64_5 hb0 hb1 hc0 hc1) | exact congrArg b64T (e64_6 hc0 hc1) | fail) (by first | rfl | exact congrArg b64T (e64_1 ha0 ha1) | exact congrArg b64T (e64_2 ha0 ha1) | exact congrArg b64T (e64_3 ha0 ha1 hb0 hb1) | exact congrArg b64T (e64_4 hb0 hb1) | exact congrArg b64T (e64_5 hb0 hb1 hc0 hc1) | exact congrArg b64T (e64_6 hc0 hc1) | fail))⟩))
end
section
local macro_rules | `(tactic| walk_at "subscriptTail") => `(tactic| ((try dsimp only); (with_reducible show wpAny _ _ (subscriptTail _ _ (Value.bytes _ _) (Value.int _ _)) _ _ _); (k_dflt (refine R.item_at (by assumption) (by exact Nat.le_of_ble_eq_true rfl) (by omega) rfl ?_)); intro _ _))
local macro_rules | `(tactic| walk_at "call builtin:len") => `(tactic| ((with_reducible show wpAny _ _ (call (Value.builtin "len") [Value.bytes _ _]) _ _ _); (k_dflt (first | refine R.len_at (n := 2) (by assumption) (by exact rfl) (by exact Nat.le_of_ble_eq_true rfl) ?_ | refine R.len_at (n := 4) (by assumption) (by exact rfl) (by exact Nat.le_of_ble_eq_true rfl) ?_ | refine R.len_at (n := 6) (by assumption) (by exact rfl) (by exact Nat.le_of_ble_eq_true rfl) ?_)); intro _ _))
local macro_rules | `(tactic| walk_at "call ref") => `(tactic| (k_dflt (refine ctr_useA (asciibuf_ctr _ _ _) ?_ (by trivial)); walk_at "got"))
local macro_rules | `(tactic| walk_at "call ref") => `(tactic| (k_dflt (refine ctr_useA (truth_ctr _) ?_ (by trivial)); walk_at "got"))
local macro_rules | `(tactic| walk_at "call ref") => `(tactic| (k_dflt (refine ctr_useA (hexv_to _ _ (by assumption)) ?_ (by trivial)); walk_at "got"))
local macro_rules | `(tactic| walk_at "call ref") => `(tactic| (k_dflt (refine ctr_useA (b64v_to _ _ (by assumption)) ?_ (by trivial)); walk_at "got"))
section
set_option maxHeartbeats 4000000 in
theorem a2bhex_1 (w : World) (c0 c1 t0 t1 : Int) (hv0 : hexV c0 = t0) (hl0 : 0 ≤ t0) (hg0 : t0 < 16) (hv1 : hexV c1 = t1) (hl1 : 0 ≤ t1) (hg1 : t1 < 16) (b : Array UInt8) (hb : KBw.bInts b = [c0, c1]) (t : Tok) : Ctr w 139 [.bytes b t] [] 3 (fun _ => True) (fun _ v _ => ∃ u, v = .bytes (byteArr [t0 * 16 + t1]) u) := by
  unfold Ctr; k_fill
  intro p loose mean mg mb base outer dp un gd s Q E X T B hdp hun hp hQ
  obtain ⟨hp0, ge0, dr0, tk0, os0⟩ := s
  dsimp only at X T B hp hQ
  refine wpAny_call ?_
  refine' enterK (binds := [(Str.ofString "hexstr", .bytes b t)]) X T ?k6 ?k7 ?k8 ?k9 ?kB ?_ ?c2 ?c3 ?c4 ?c5
  case k6 => k_dflt k_is
  case k7 => k_dflt k_is
  case k8 => show dp < recursionLimit; omega
  case k9 => exact BindsTo.of_eq rfl
  case c5 => decide
  case kB => exact locs rfl
  case c2 => exact rfl
  case c3 => exact rfl
  case c4 => exact rfl
  intro L h₁ hL F N
  dsimp only
  try k_fold
  refine ar_let ?_
  intro A9
  w_on
  k_steps
  all_goals first | (refine hQ _ _ _ ?a ?b; (case a => exact Fr.keep (by k_asm)); (case b => exact ⟨_, rfl⟩)) | w_report
set_option maxHeartbeats 4000000 in
theorem a2bhex_2 (w : World) (c0 c1 c2 c3 t0 t1 t2 t3 : Int) (hv0 : hexV c0 = t0) (hl0 : 0 ≤ t0) (hg0 : t0 < 16) (hv1 : hexV c1 = t1) (hl1 : 0 ≤ t1) (hg1 : t1 < 16) (hv2 : hexV c2 = t2) (hl2 : 0 ≤ t2) (hg2 : t2 < 16) (hv3 : hexV c3 = t3) (hl3 : 0 ≤ t3) (hg3 : t3 < 16) (b : Array UInt8) (hb : KBw.bInts b = [c0, c1, c2, c3]) (t : Tok) : Ctr w 139 [.bytes b t] [] 3 (fun _ => True) (fun _ v _ => ∃ u, v = .bytes (byteArr [t0 * 16 + t1, t2 * 16 + t3]) u) := by
  unfold Ctr; k_fill
  intro p loose mean mg mb base outer dp un gd s Q E X T B hdp hun hp hQ
  obtain ⟨hp0, ge0, dr0, tk0, os0⟩ := s
  dsimp only at X T B hp hQ
  refine wpAny_call ?_
  refine' enterK (binds := [(Str.ofString "hexstr", .bytes b t)]) X T ?k6 ?k7 ?k8 ?k9 ?kB ?_ ?c2 ?c3 ?c4 ?c5
  case k6 => k_dflt k_is
  case k7 => k_dflt k_is
  case k8 => show dp < recursionLimit; omega
  case k9 => exact BindsTo.of_eq rfl
  case c5 => decide
  case kB => exact locs rfl
  case c2 => exact rfl
  case c3 => exact rfl
  case c4 => exact rfl
  intro L h₁ hL F N
  dsimp only
  try k_fold
  refine ar_let ?_
  intro A9
  w_on
  k_steps
  all_goals first | (refine hQ _ _ _ ?a ?b; (case a => exact Fr.keep (by k_asm)); (case b => exact ⟨_, rfl⟩)) | w_report
set_option maxHeartbeats 4000000 in
theorem a2bhex_3 (w : World) (c0 c1 c2 c3 c4 c5 t0 t1 t2 t3 t4 t5 : Int) (hv0 : hexV c0 = t0) (hl0 : 0 ≤ t0) (hg0 : t0 < 16) (hv1 : hexV c1 = t1) (hl1 : 0 ≤ t1) (hg1 : t1 < 16) (hv2 : hexV c2 = t2) (hl2 : 0 ≤ t2) (hg2 : t2 < 16) (hv3 : hexV c3 = t3) (hl3 : 0 ≤ t3) (hg3 : t3 < 16) (hv4 : hexV c4 = t4) (hl4 : 0 ≤ t4) (hg4 : t4 < 16) (hv5 : hexV c5 = t5) (hl5 : 0 ≤ t5) (hg5 : t5 < 16) (b : Array UInt8) (hb : KBw.bInts b = [c0, c1, c2, c3, c4, c5]) (t : Tok) : Ctr w 139 [.bytes b t] [] 3 (fun _ => True) (fun _ v _ => ∃ u, v = .bytes (byteArr [t0 * 16 + t1, t2 * 16 + t3, t4 * 16 + t5]) u) := by
  unfold Ctr; k_fill
  intro p loose mean mg mb base outer dp un gd s Q E X T B hdp hun hp hQ
  obtain ⟨hp0, ge0, dr0, tk0, os0⟩ := s
  dsimp only at X T B hp hQ
  refine wpAny_call ?_
  refine' enterK (binds := [(Str.ofString "hexstr", .bytes b t)]) X T ?k6 ?k7 ?k8 ?k9 ?kB ?_ ?c2 ?c3 ?c4 ?c5
  case k6 => k_dflt k_is
  case k7 => k_dflt k_is
  case k8 => show dp < recursionLimit; omega
  case k9 => exact BindsTo.of_eq rfl
  case c5 => decide
  case kB => exact locs rfl
  case c2 => exact rfl
  case c3 => exact rfl
  case c4 => exact rfl
  intro L h₁ hL F N
  dsimp only
  try k_fold
  refine ar_let ?_
  intro A9
  w_on
  k_steps
  all_goals first | (refine hQ _ _ _ ?a ?b; (case a => exact Fr.keep (by k_asm)); (case b => exact ⟨_, rfl⟩)) | w_report
end
section
set_option maxHeartbeats 8000000 in
theorem a2bb64_t (w : World) (c0 c1 c2 c3 m0 m1 m2 m3 : Int) (hv0 : b64V c0 = m0) (hl0 : 0 ≤ m0) (hv1 : b64V c1 = m1) (hl1 : 0 ≤ m1) (hv2 : b64V c2 = m2) (hl2 : 0 ≤ m2) (hv3 : b64V c3 = m3) (hl3 : 0 ≤ m3) (hn0 : c0 ≠ 61) (hg0 : m0 < 64) (hn1 : c1 ≠ 61) (hg1 : m1 < 64) (hc : (c2 = 61 ∧ c3 = 61) ∨ (c2 ≠ 61 ∧ m2 < 64 ∧ c3 = 61) ∨ (c2 ≠ 61 ∧ m2 < 64 ∧ c3 ≠ 61 ∧ m3 < 64)) (b : Array UInt8) (hb : KBw.bInts b = [c0, c1, c2, c3]) (t : Tok) : Ctr w 108 [.bytes b t] [(Str.ofString "strict_mode", .bool false)] 3 (fun _ => True) (fun _ v _ => ∃ u, v = .bytes (byteArr (if c2 = 61 then [m0 * 4 + m1 / 16] else if c3 = 61 then [m0 * 4 + m1 / 16, m1 % 16 * 16 + m2 / 4] else [m0 * 4 + m1 / 16, m1 % 16 * 16 + m2 / 4, m2 % 4 * 64 + m3])) u) := by
  unfold Ctr; k_fill
  intro p loose mean mg mb base outer dp un gd s Q E X T B hdp hun hp hQ
  obtain ⟨hp0, ge0, dr0, tk0, os0⟩ := s
  dsimp only at X T B hp hQ
  refine wpAny_call ?_
  refine' enterK (binds := [(Str.ofString "data", .bytes b t), (Str.ofString "strict_mode", .bool false)]) X T ?k6 ?k7 ?k8 ?k9 ?kB ?_ ?c2 ?c3 ?c4 ?c5
  case k6 => k_dflt k_is
  case k7 => k_dflt k_is
  case k8 => show dp < recursionLimit; omega
  case k9 => exact BindsTo.of_eq rfl
  case c5 => decide
  case kB => exact locs rfl
  case c2 => exact rfl
  case c3 => exact rfl
  case c4 => exact rfl
  intro L h₁ hL F N
  dsimp only
  try k_fold
  refine ar_let ?_
  intro A9
  w_on
  k_steps
  all_goals first | (refine hQ _ _ _ ?a ?b; (case a => exact Fr.keep (by k_asm)); (case b => exact ⟨_, congrArg (fun z => Value.bytes (byteArr z) _) (by first | exact (if_pos (by omega)).symm | exact ((if_neg (by omega)).trans (if_pos (by omega))).symm | exact ((if_neg (by omega)).trans (if_neg (by omega))).symm)⟩)) | w_report
theorem a2bb64_1 (w : World) (c0 c1 m0 m1 : Int) (hv0 : b64V c0 = m0) (hn0 : c0 ≠ 61) (hl0 : 0 ≤ m0) (hg0 : m0 < 64) (hv1 : b64V c1 = m1) (hn1 : c1 ≠ 61) (hl1 : 0 ≤ m1) (hg1 : m1 < 64) (b : Array UInt8) (hb : KBw.bInts b = [c0, c1, 61, 61]) (t : Tok) : Ctr w 108 [.bytes b t] [(Str.ofString "strict_mode", .bool false)] 3 (fun _ => True) (fun _ v _ => ∃ u, v = .bytes (byteArr [m0 * 4 + m1 / 16]) u) := by
  have h := a2bb64_t w c0 c1 61 61 m0 m1 64 64 hv0 hl0 hv1 hl1 rfl (by decide) rfl (by decide) hn0 hg0 hn1 hg1 (Or.inl ⟨rfl, rfl⟩) b hb t
  rw [if_pos rfl] at h
  exact h
theorem a2bb64_2 (w : World) (c0 c1 c2 m0 m1 m2 : Int) (hv0 : b64V c0 = m0) (hn0 : c0 ≠ 61) (hl0 : 0 ≤ m0) (hg0 : m0 < 64) (hv1 : b64V c1 = m1) (hn1 : c1 ≠ 61) (hl1 : 0 ≤ m1) (hg1 : m1 < 64) (hv2 : b64V c2 = m2) (hn2 : c2 ≠ 61) (hl2 : 0 ≤ m2) (hg2 : m2 < 64) (b : Array UInt8) (hb : KBw.bInts b = [c0, c1, c2, 61]) (t : Tok) : Ctr w 108 [.bytes b t] [(Str.ofString "strict_mode", .bool false)] 3 (fun _ => True) (fun _ v _ => ∃ u, v = .bytes (byteArr [m0 * 4 + m1 / 16, m1 % 16 * 16 + m2 / 4]) u) := by
  have h := a2bb64_t w c0 c1 c2 61 m0 m1 m2 64 hv0 hl0 hv1 hl1 hv2 hl2 rfl (by decide) hn0 hg0 hn1 hg1 (Or.inr (Or.inl ⟨hn2, hg2, rfl⟩)) b hb t
  rw [if_neg hn2, if_pos rfl] at h
  exact h
theorem a2bb64_3 (w : World) (c0 c1 c2 c3 m0 m1 m2 m3 : Int) (hv0 : b64V c0 = m0) (hn0 : c0 ≠ 61) (hl0 : 0 ≤ m0) (hg0 : m0 < 64) (hv1 : b64V c1 = m1) (hn1 : c1 ≠ 61) (hl1 : 0 ≤ m1) (hg1 : m1 < 64) (hv2 : b64V c2 = m2) (hn2 : c2 ≠ 61) (hl2 : 0 ≤ m2) (hg2 : m2 < 64) (hv3 : b64V c3 = m3) (hn3 : c3 ≠ 61) (hl3 : 0 ≤ m3) (hg3 : m3 < 64) (b : Array UInt8) (hb : KBw.bInts b = [c0, c1, c2, c3]) (t : Tok) : Ctr w 108 [.bytes b t] [(Str.ofString "strict_mode", .bool false)] 3 (fun _ => True) (fun _ v _ => ∃ u, v = .bytes (byteArr [m0 * 4 + m1 / 16, m1 % 16 * 16 + m2 / 4, m2 % 4 * 64 + m3]) u) := by
  have h := a2bb64_t w c0 c1 c2 c3 m0 m1 m2 m3 hv0 hl0 hv1 hl1 hv2 hl2 hv3 hl3 hn0 hg0 hn1 hg1 (Or.inr (Or.inr ⟨hn2, hg2, hn3, hg3⟩)) b hb t
  rw [if_neg hn2, if_neg hn3] at h
  exact h
end
end
end
section
local macro_rules | `(tactic| walk_at "call ref") => `(tactic| (k_dflt (refine ctr_useA (b2ab64_ctr _ _ (by assumption) _) ?_ (by trivial)); walk_at "got"))
set_option maxHeartbeats 4000000 in
theorem b64encode_ctr (w : World) (ns : List Int) (hn : ns ∈ allRows) (t : Tok) : Ctr w 147 [.bytes (byteArr ns) t] [] 5 (fun _ => True) (fun _ v _ => ∃ u, v = .bytes (byteArr (enc64 ns)) u) := by
  unfold Ctr; k_fill
  intro p loose mean mg mb base outer dp un gd s Q E X T B hdp hun hp hQ
  refine wpAny_call ?_
  refine' enterK (binds := [(Str.ofString "s", .bytes (byteArr ns) t), (Str.ofString "altchars", .none)]) X T ?k6 ?k7 ?k8 ?k9 ?kB ?_ ?c2 ?c3 ?c4 ?c5
  case k6 => k_dflt k_is
  case k7 => k_dflt k_is
  case k8 => show dp < recursionLimit; omega
  case k9 => exact binds_K X rfl (by k_dflt k_is) rfl rfl rfl
  case c5 => decide
  case kB => exact locs rfl
  case c2 => exact rfl
  case c3 => exact rfl
  case c4 => exact rfl
  intro L h₁ hL F N
  dsimp only
  try k_fold
  w_on
  k_steps
  all_goals (refine hQ _ _ _ ?a ?b; (case a => exact Fr.keep (by k_asm)); (case b => exact ⟨_, rfl⟩))
end
section
theorem R.upper_to {prog : Program} {w : World} {A : Around} {E : Value → Shared → Prop} {s : Shared} {Q : Value → Shared → Prop} {b : Array UInt8} {l : List UInt8} {t : Tok} (hl : b.toList.map Builtin.Bytes.toUpper = l) (hsz : b.size ≤ 1000) (hQ : ∀ t' k, Q (.bytes l.toArray t') { s with toks := k }) :
    wpAny (model prog w) A (call (.builtin "bytes.upper") [.bytes b t]) Q E s := by subst hl; exact R.upper_call hsz hQ
local macro_rules | `(tactic| walk_at "call builtin:bytes.upper") => `(tactic| (refine R.upper_to (by assumption) (by assumption) ?_; intro _ _))
local macro_rules | `(tactic| walk_at "getMethod ref") => `(tactic| ((with_reducible show wpAny _ _ (getMethod (Value.ref 51) _ _) _ _ _); k_dflt (refine R.getm_search ?ka ?_; (case ka => exact Frag.In.keeps (by k_asm) (Fr.keep (by k_asm)) _ _ (by k_is)))))
local macro_rules | `(tactic| walk_at "call builtin:re.Pattern.search") => `(tactic| ((try dsimp only); k_dflt (show wpAny _ _ (call (Value.builtin "re.Pattern.search") [Value.ref 51, Value.bytes _ _]) _ _ _); k_dflt (refine' R.search_none ?ka ?kb ?kc ?kd ?ke ?kf ?_; (case ka => exact Frag.In.keeps (by k_asm) (Fr.keep (by k_asm)) _ _ (by k_is)); (case kb => exact Frag.In.keeps (by k_asm) (Fr.keep (by k_asm)) _ _ (by k_is)); (case kc => exact rfl); (case kd => decide +kernel); (case ke => assumption); (case kf => assumption))))
set_option maxHeartbeats 4000000 in
theorem bfdd_ctr (w : World) (x : Str) (h1 : ∀ c ∈ x.cps, c < 128) (h2 : x.cps.size ≠ 0) (h3 : x.cps.size ≤ 1000) (t : Tok) : Ctr w 59 [.str x t] [] 1 (fun _ => True) (fun _ v _ => ∃ u, v = .bytes (x.cps.map (·.toUInt8)) u) := by
  unfold Ctr; k_fill
  intro p loose mean mg mb base outer dp un gd s Q E X T B hdp hun hp hQ
  refine wpAny_call ?_
  refine' enterK (binds := [(Str.ofString "s", .str x t)]) X T ?k6 ?k7 ?k8 ?k9 ?kB ?_ ?c2 ?c3 ?c4 ?c5
  case k6 => k_dflt k_is
  case k7 => k_dflt k_is
  case k8 => show dp < recursionLimit; omega
  case k9 => exact BindsTo.of_eq rfl
  case c5 => decide
  case kB => exact locs rfl
  case c2 => exact rfl
  case c3 => exact rfl
  case c4 => exact rfl
  intro L h₁ hL F N
  dsimp only
  try k_fold
  w_on
  k_steps
  all_goals first | (refine hQ _ _ _ ?a ?b; (case a => exact Fr.keep (by k_asm)); (case b => exact ⟨_, rfl⟩)) | w_report
local macro_rules | `(tactic| walk_at "call ref") => `(tactic| (k_dflt (refine ctr_useA (bfdd_ctr _ _ (by assumption) (by assumption) (by assumption) _) ?_ (by trivial)); walk_at "got"))
local macro_rules | `(tactic| walk_at "call ref") => `(tactic| (k_dflt (refine ctr_useA ((by assumption : ∀ t, Ctr _ 108 [Value.bytes _ t] _ _ _ _) _) ?_ (by trivial)); walk_at "got"))
local macro_rules | `(tactic| walk_at "call ref") => `(tactic| (k_dflt (refine ctr_useA ((by assumption : ∀ t, Ctr _ 139 [Value.bytes _ t] _ _ _ _) _) ?_ (by trivial)); walk_at "got"))
set_option maxHeartbeats 4000000 in
theorem b64dec (w : World) (x : Str) (h1 : ∀ c ∈ x.cps, c < 128) (h2 : x.cps.size ≠ 0) (h3 : x.cps.size ≤ 1000) (z : List Int) (hA : ∀ t, Ctr w 108 [.bytes (x.cps.map (·.toUInt8)) t] [(Str.ofString "strict_mode", .bool false)] 3 (fun _ => True) (fun _ v _ => ∃ u, v = .bytes (byteArr z) u)) (t : Tok) : Ctr w 155 [.str x t] [] 5 (fun _ => True) (fun _ v _ => ∃ u, v = .bytes (byteArr z) u) := by
  unfold Ctr; k_fill
  intro p loose mean mg mb base outer dp un gd s Q E X T B hdp hun hp hQ
  refine wpAny_call ?_
  refine' enterK (binds := [(Str.ofString "s", .str x t), (Str.ofString "altchars", .none), (Str.ofString "validate", .bool false)]) X T ?k6 ?k7 ?k8 ?k9 ?kB ?_ ?c2 ?c3 ?c4 ?c5
  case k6 => k_dflt k_is
  case k7 => k_dflt k_is
  case k8 => show dp < recursionLimit; omega
  case k9 => exact binds_K X rfl (by k_dflt k_is) rfl rfl rfl
  case c5 => decide
  case kB => exact locs rfl
  case c2 => exact rfl
  case c3 => exact rfl
  case c4 => exact rfl
  intro L h₁ hL F N
  dsimp only
  try k_fold
  w_on
  k_steps
  all_goals first | (refine hQ _ _ _ ?a ?b; (case a => exact Fr.keep (by k_asm)); (case b => exact ⟨_, rfl⟩)) | w_report
set_option maxHeartbeats 4000000 in
theorem b16dec_cf (w : World) (x : Str) (h1 : ∀ c ∈ x.cps, c < 128) (h2 : x.cps.size ≠ 0) (h3 : x.cps.size ≤ 1000) (l : List UInt8) (hup : (x.cps.map (·.toUInt8)).toList.map Builtin.Bytes.toUpper = l) (h4 : (x.cps.map (·.toUInt8)).size ≤ 1000) (h5 : l.toArray.size < 2 ^ 60) (hf : R.failedB (R.reM l.toArray) = true) (z : List Int) (hA : ∀ t, Ctr w 139 [.bytes l.toArray t] [] 3 (fun _ => True) (fun _ v _ => ∃ u, v = .bytes (byteArr z) u)) (t : Tok) : Ctr w 170 [.str x t] [(Str.ofString "casefold", .bool true)] 5 (fun _ => True) (fun _ v _ => ∃ u, v = .bytes (byteArr z) u) := by
  unfold Ctr; k_fill
  intro p loose mean mg mb base outer dp un gd s Q E X T B hdp hun hp hQ
  refine wpAny_call ?_
  refine' enterK (binds := [(Str.ofString "s", .str x t), (Str.ofString "casefold", .bool true)]) X T ?k6 ?k7 ?k8 ?k9 ?kB ?_ ?c2 ?c3 ?c4 ?c5
  case k6 => k_dflt k_is
  case k7 => k_dflt k_is
  case k8 => show dp < recursionLimit; omega
  case k9 => exact binds_K X rfl (by k_dflt k_is) rfl rfl rfl
  case c5 => decide
  case kB => exact locs rfl
  case c2 => exact rfl
  case c3 => exact rfl
  case c4 => exact rfl
  intro L h₁ hL F N
  dsimp only
  try k_fold
  w_on
  k_steps
  all_goals first | (refine hQ _ _ _ ?a ?b; (case a => exact Fr.keep (by k_asm)); (case b => exact ⟨_, rfl⟩)) | w_report
set_option maxHeartbeats 4000000 in
theorem b16dec (w : World) (x : Str) (h1 : ∀ c ∈ x.cps, c < 128) (h2 : x.cps.size ≠ 0) (h3 : x.cps.size ≤ 1000) (h5 : (x.cps.map (·.toUInt8)).size < 2 ^ 60) (hf : R.failedB (R.reM (x.cps.map (·.toUInt8))) = true) (z : List Int) (hA : ∀ t, Ctr w 139 [.bytes (x.cps.map (·.toUInt8)) t] [] 3 (fun _ => True) (fun _ v _ => ∃ u, v = .bytes (byteArr z) u)) (t : Tok) : Ctr w 170 [.str x t] [] 5 (fun _ => True) (fun _ v _ => ∃ u, v = .bytes (byteArr z) u) := by
  unfold Ctr; k_fill
  intro p loose mean mg mb base outer dp un gd s Q E X T B hdp hun hp hQ
  refine wpAny_call ?_
  refine' enterK (binds := [(Str.ofString "s", .str x t), (Str.ofString "casefold", .bool false)]) X T ?k6 ?k7 ?k8 ?k9 ?kB ?_ ?c2 ?c3 ?c4 ?c5
  case k6 => k_dflt k_is
  case k7 => k_dflt k_is
  case k8 => show dp < recursionLimit; omega
  case k9 => exact binds_K X rfl (by k_dflt k_is) rfl rfl rfl
  case c5 => decide
  case kB => exact locs rfl
  case c2 => exact rfl
  case c3 => exact rfl
  case c4 => exact rfl
  intro L h₁ hL F N
  dsimp only
  try k_fold
  w_on
  k_steps
  all_goals first | (refine hQ _ _ _ ?a ?b; (case a => exact Fr.keep (by k_asm)); (case b => exact ⟨_, rfl⟩)) | w_report
end
section
local macro_rules | `(tactic| walk_at "call ref") => `(tactic| (k_dflt (refine ctr_useA (b16dec _ _ (by assumption) (by assumption) (by assumption) (by assumption) (by assumption) _ (by assumption) _) ?_ (by trivial)); walk_at "got"))
set_option maxHeartbeats 4000000 in
theorem refused_no (w : World) (x : Str) (h1 : ∀ c ∈ x.cps, c < 128) (h2 : x.cps.size ≠ 0) (h3 : x.cps.size ≤ 1000) (h5 : (x.cps.map (·.toUInt8)).size < 2 ^ 60) (hf : R.failedB (R.reM (x.cps.map (·.toUInt8))) = true) (z : List Int) (hA : ∀ t, Ctr w 139 [.bytes (x.cps.map (·.toUInt8)) t] [] 3 (fun _ => True) (fun _ v _ => ∃ u, v = .bytes (byteArr z) u)) (t : Tok) : Ctr w 197 [.str x t] [] 7 (fun _ => True) (fun _ v _ => v = .bool false) := by
  unfold Ctr; k_fill
  intro p loose mean mg mb base outer dp un gd s Q E X T B hdp hun hp hQ
  refine wpAny_call ?_
  refine' enterK (binds := [(Str.ofString "word", .str x t)]) X T ?k6 ?k7 ?k8 ?k9 ?kB ?_ ?c2 ?c3 ?c4 ?c5
  case k6 => k_dflt k_is
  case k7 => k_dflt k_is
  case k8 => show dp < recursionLimit; omega
  case k9 => exact BindsTo.of_eq rfl
  case c5 => decide
  case kB => exact locs rfl
  case c2 => exact rfl
  case c3 => exact rfl
  case c4 => exact rfl
  intro L h₁ hL F N
  dsimp only
  try k_fold
  w_on
  k_steps
  all_goals first | (refine hQ _ _ _ ?a ?b; (case a => exact Fr.keep (by k_asm)); (case b => exact rfl)) | w_report
end
section
local macro_rules | `(tactic| walk_at "getMethod ref") => `(tactic| ((with_reducible show wpAny _ _ (getMethod (Value.ref 51) _ _) _ _ _); k_dflt (refine R.getm_search ?ka ?_; (case ka => exact Frag.In.keeps (by k_asm) (Fr.keep (by k_asm)) _ _ (by k_is)))))
local macro_rules | `(tactic| walk_at "call builtin:re.Pattern.search") => `(tactic| ((try dsimp only); k_dflt (show wpAny _ _ (call (Value.builtin "re.Pattern.search") [Value.ref 51, Value.bytes _ _]) _ _ _); k_dflt (refine' R.search_some ?ka ?kb ?kc ?kd ?ke ?kf ?_; (case ka => exact Frag.In.keeps (by k_asm) (Fr.keep (by k_asm)) _ _ (by k_is)); (case kb => exact Frag.In.keeps (by k_asm) (Fr.keep (by k_asm)) _ _ (by k_is)); (case kc => exact rfl); (case kd => decide +kernel); (case ke => assumption); (case kf => assumption); intro a' o' h' K' g' e' c'; (have F' := Fr.keeps (by k_asm) K'); (have N' := News.grown (by k_asm) K'))))
local macro_rules | `(tactic| walk_at "truthy ref") => `(tactic| k_dflt (refine R.truthy_match (by assumption) (by assumption) ?_))
local macro_rules | `(tactic| walk_at "call ref") => `(tactic| (k_dflt (refine ctr_useA (bfdd_ctr _ _ (by assumption) (by assumption) (by assumption) _) ?_ (by trivial)); walk_at "got"))
local macro_rules | `(tactic| walk_at "call ref") => `(tactic| ((with_reducible show wpAny _ _ (call (Value.ref 170) _ _) _ _ _); refine wpAny_call ?_; k_dflt (refine' code_def ?k1 ?k2 ?k3 ?k4 ?k5 ?kA ?kF ?kK ?k6 ?k7 ?k8 ?k9 ?kB ?_ ?c2 ?c3 ?c4 ?c5; (case kA => exact rfl); (case kF => exact rfl); (case kK => exact rfl); (case k1 => k_asm); (case k2 => k_asm); (case k3 => k_asm); (case k4 => k_asm); (case k5 => k_asm); (case k6 => k_is); (case k7 => k_is); (case k8 => ((try dsimp only [Ar, Around.deeper, Around.in1]); omega)); (case k9 => exact binds_K (by k_in) rfl (by k_is) rfl rfl rfl); (case c5 => decide); (case kB => exact locs rfl); (case c2 => exact rfl); (case c3 => exact rfl); (case c4 => exact rfl); k_whole; intro g' L' h' FG' F' N' B' X' T'; (try dsimp only); (try k_fold))))
set_option maxHeartbeats 4000000 in
theorem refused_yes (w : World) (x : Str) (h1 : ∀ c ∈ x.cps, c < 128) (h2 : x.cps.size ≠ 0) (h3 : x.cps.size ≤ 1000) (h5 : (x.cps.map (·.toUInt8)).size < 2 ^ 60) (hf : R.matchedB (R.reM (x.cps.map (·.toUInt8))) = true) (t : Tok) :
    ∀ (p : Program) (loose : List Str) (mean : ExcName → Option Value) (mg mb : Str → Option Value) (base : Heap) (outer : List Env) (dp un : Nat) (gd : Option (List Code)) (s : Shared) (Q E : Value → Shared → Prop),
    (hd.heap_39 w.params).In base → Top p loose mean mg mb base → (hd.heap_39 w.params).In s.heap → Top p loose mean mg mb s.heap → Below (Ar dp un gd outer) base outer s.heap → KtsDicts (outer.filterMap (·.frame)) s.heap → dp + 7 < recursionLimit → un + 8 * 7 < cLine →
    (∀ h' g' tk, KtsTurn (outer.filterMap (·.frame)) s.heap g' → Kept g' h' → Q (.bool true) { s with heap := h', toks := tk }) →
    wpAny (model PySem.Challenge.rw_qh0002_01.row.prog w) (Ar dp un gd outer) (call (.ref 197) [.str x t] []) Q E s := by
  k_fill
  intro p loose mean mg mb base outer dp un gd s Q E XB TB X T B D hdp hun hQ
  refine wpAny_call ?_
  refine' enterK (binds := [(Str.ofString "word", .str x t)]) X T ?k6 ?k7 ?k8 ?k9 ?kB ?_ ?c2 ?c3 ?c4 ?c5
  case k6 => k_dflt k_is
  case k7 => k_dflt k_is
  case k8 => show dp < recursionLimit; omega
  case k9 => exact BindsTo.of_eq rfl
  case c5 => decide
  case kB => exact locs rfl
  case c2 => exact rfl
  case c3 => exact rfl
  case c4 => exact rfl
  intro L h₁ hL F N
  dsimp only
  try k_fold
  w_on
  k_steps
  all_goals (try k_data)
  all_goals first | ((try dsimp only); refine' hQ _ _ _ ?a ?b; (case a => assumption); (case b => exact Fr.keep (by k_asm))) | w_report
end
section
local macro_rules | `(tactic| walk_at "getAttr") => `(tactic| ((with_reducible show wpAny _ _ (getAttr (Value.type "str") _ _) _ _ _); k_dflt (refine' R.attr_type ?kx ?kt ?ks ?ke ?kh ?_; (case kx => exact Frag.In.keeps (by k_asm) (Fr.keep (by k_asm))); (case kt => exact R.meta_str); (case ks => decide +kernel); (case ke => k_is); (case kh => k_handed); intro _)))
local macro_rules | `(tactic| walk_at "call builtin:str.split") => `(tactic| ((try dsimp only); k_dflt (show wpAny _ _ (call (Value.builtin "str.split") [Value.str _ _, Value.none]) _ _ _); k_dflt (refine R.split_ws (by assumption) ?_; intro D' lp' h' k' e' K' s' l'; (have F' := Fr.keeps (by k_asm) K'); (have N' := News.grown (by k_asm) K'))))
theorem isl_lt {h : Heap} {l : Addr} {its : Array Value} (x : h.IsList l its) : l < h.objs.size := let ⟨_, ho, _⟩ := x; Heap.lt_size ho
/-- what capwords gives of the words found -/
def capText (ws : List Str) : Str := Txt.join (Str.ofString " ") (ws.map Txt.capitalize)
set_option maxHeartbeats 1000000 in
theorem capwords_ctr (w : World) (x : Str) (hx : x.length ≤ 100000) (ws : List Str) (hw : Txt.words x = ws) (hn : ws.length ≤ 1000) (hlen : ∀ z ∈ ws, z.length ≤ 1000) (hok : JoinOk (Str.ofString " ") (ws.map Txt.capitalize) = true) (t : Tok) : Ctr w 46 [.str x t] [] 3 (fun _ => True) (fun _ v _ => ∃ u, v = .str (capText ws) u) := by
  unfold Ctr; k_fill
  intro p loose mean mg mb base outer dp un gd s Q E X T B hdp hun hp hQ
  refine wpAny_call ?_
  refine' enterK (binds := [(Str.ofString "s", .str x t), (Str.ofString "sep", .none)]) X T ?k6 ?k7 ?k8 ?k9 ?kB ?_ ?c2 ?c3 ?c4 ?c5
  case k6 => k_dflt k_is
  case k7 => k_dflt k_is
  case k8 => show dp < recursionLimit; omega
  case k9 => exact binds_K X rfl (by k_dflt k_is) rfl rfl rfl
  case c5 => decide
  case kB => exact locs rfl
  case c2 => exact rfl
  case c3 => exact rfl
  case c4 => exact rfl
  intro L h₁ hL F N
  dsimp only
  try k_fold
  w_on
  k_steps
  k_dflt (show wpAny _ _ (call (Value.type "map") [Value.builtin "str.capitalize", Value.ref _]) _ _ _)
  rename Heap.IsList _ _ _ => hlD
  rename _ = Txt.words _ => hlp
  rename Fr _ _ _ _ => F1
  refine R.mk_map hlD ?_
  k_steps
  k_dflt (show wpAny _ _ (call (Value.builtin "str.join") [Value.str _ _, Value.ref _]) _ _ _)
  have hst := R.strs_values ‹List (Str × Tok)›
  rw [hlp, hw] at hst
  have hlt := isl_lt hlD
  refine R.join_map (ws := ws) rfl ?hst hlen hn ?na ?nb ?nc (R.mk_map_st hlD) ?hf hok ?hq
  case hst => rw [List.toList_toArray]; exact hst
  case na => exact neN (by omega)
  case nb => exact neN (by omega)
  case nc => exact Nat.ne_of_lt hlt
  case hf =>
    intro b hb
    simp only [Heap.size_push]
    simp only [List.mem_cons, List.not_mem_nil, or_false] at hb
    rcases hb with e | e | e | e
    · rw [e]; exact Nat.lt_succ_self _
    · rw [e]; exact Nat.lt_succ_of_lt (Nat.lt_succ_self _)
    · rw [e]; exact Nat.lt_succ_of_lt (Nat.lt_succ_of_lt (Nat.lt_succ_self _))
    · rw [e]; exact Nat.lt_succ_of_lt (Nat.lt_succ_of_lt (Nat.lt_succ_of_lt hlt))
  case hq =>
    intro h' t' k hk
    refine hQ _ _ _ ?_ ⟨_, rfl⟩
    intro b o e
    refine hk b o ?_ ?_
    · intro q; subst q; exact absurd (Heap.lt_size (F1.keep _ _ e)) (Nat.lt_irrefl _)
    · exact Heap.get?_push_of_some _ (Heap.get?_push_of_some _ (Heap.get?_push_of_some _ (F1.keep _ _ e)))
end
section
local macro_rules | `(tactic| walk_at "eval Name") => `(tactic| k_dflt ((first | refine El.ownA ?_ | refine El.cellA ?_ | refine El.globA ?_ | refine El.bltA ?_); k_whole))
section
theorem fmod_pos (x : Int) (m : Int) (hm : 0 < m) : 0 ≤ x.fmod m ∧ x.fmod m < m := ⟨Int.fmod_nonneg_of_pos x hm, Int.fmod_lt_of_pos x hm⟩
theorem range_small {b : Int} (h0 : 0 ≤ b) (h1 : b ≤ 1000) : Builtin.Range.small 0 b 1 = true := by
  have e62 : (2 : Int) ^ 62 = 4611686018427387904 := by decide
  exact small_one (by omega) (by omega) (by omega) (by omega)
theorem range_size {b : Int} (h0 : 0 ≤ b) : Builtin.Range.rangeSize 0 b 1 = ((b.toNat : Nat) : Int) := by
  unfold Builtin.Range.rangeSize
  rw [if_pos (by decide)]
  split
  · rw [Int.ediv_one]; omega
  · omega
theorem mark_item {t0 t1 t2 t3 t4 t5 t6 t7 : Tok} {i : Nat} {v : Value} (h : ([Value.int 0 t0, .int 62 t1, .int 251 t2, .int 255 t3, .int 105 t4, .int 183 t5, .int 29 t6, .int 7 t7] : List Value).toArray[i]? = some v) : ∃ a u, a ∈ marks ∧ v = Value.int a u := by
  have hm := Array.mem_of_getElem? h
  simp only [List.mem_toArray, List.mem_cons, List.not_mem_nil, or_false] at hm
  rcases hm with rfl | rfl | rfl | rfl | rfl | rfl | rfl | rfl <;> exact ⟨_, _, by decide, rfl⟩
theorem paired_ints {ys : List Value} {n : Nat} (h : Paired (fun (_ : Nat) y => ∃ a u, a ∈ marks ∧ y = Value.int a u) (List.range n) ys) : ∃ ns, IntsAre ys ns ∧ ns.length = n ∧ ∀ a ∈ ns, a ∈ marks := by
  have key : ∀ (l : List Nat) (ys : List Value), Paired (fun (_ : Nat) y => ∃ a u, a ∈ marks ∧ y = Value.int a u) l ys → ∃ ns, IntsAre ys ns ∧ ns.length = l.length ∧ ∀ a ∈ ns, a ∈ marks := by
    intro l ys hp
    induction hp with
    | nil => exact ⟨[], .nil, rfl, fun _ h => nomatch h⟩
    | cons h _ ih =>
      obtain ⟨a, u, ha, rfl⟩ := h
      obtain ⟨ns, h1, h2, h3⟩ := ih
      exact ⟨a :: ns, .cons a u h1, by rw [List.length_cons, List.length_cons, h2], fun z hz => by
        rcases List.mem_cons.mp hz with rfl | hz
        · exact ha
        · exact h3 z hz⟩
  obtain ⟨ns, h1, h2, h3⟩ := key _ _ h
  exact ⟨ns, h1, by rw [h2, List.length_range], h3⟩
theorem row_of {ns : List Int} (h0 : 1 ≤ ns.length) (h1 : ns.length ≤ 3) (h : ∀ a ∈ ns, a ∈ marks) : ns ∈ allRows := by
  obtain _ | ⟨a, _ | ⟨b, _ | ⟨c, _ | ⟨d, r⟩⟩⟩⟩ := ns
  · exact absurd h0 (by decide)
  · exact row1 (h a (.head _))
  · exact row2 (h a (.head _)) (h b (.tail _ (.head _)))
  · exact row3 (h a (.head _)) (h b (.tail _ (.head _))) (h c (.tail _ (.tail _ (.head _))))
  · exact absurd h1 (by simp only [List.length_cons]; omega)
local macro_rules | `(tactic| walk_at "newList") => `(tactic| ((try dsimp only); k_dflt (refine' El.newList ?ke ?kz ?_; (case ke => assumption); (case kz => exact Nat.le_of_ble_eq_true rfl); intro D' h' K' l' e')))
local macro_rules | `(tactic| walk_at "subscriptTail") => `(tactic| ((try dsimp only); k_dflt (refine item_any (by assumption) ?ka ?kb ?kz ?_; (case kz => exact Nat.le_of_ble_eq_true rfl); (case ka => exact (fmod_pos _ _ (by decide)).1); (case kb => exact (fmod_pos _ _ (by decide)).2))))
set_option maxHeartbeats 1000000 in
theorem octets_ctr (w : World) (x : Int) (t : Tok) : Ctr w 175 [.int x t] [] 3 (fun _ => True) (fun h v h' => ∃ l its ns, v = .ref l ∧ h.get? l = none ∧ h'.PlainList l its ∧ IntsAre its.toList ns ∧ ns ∈ allRows) := by
  obtain ⟨hx0, hx1⟩ := fmod_pos x 3 (by decide)
  unfold Ctr; k_fill
  intro p loose mean mg mb base outer dp un gd s Q E X T B hdp hun hp hQ
  refine wpAny_call ?_
  refine' enterC (binds := [(Str.ofString "x", .int x t)]) X T ?k6 ?k7 ?k8 ?k9 ?kB ?kD ?_ ?c2 ?c3 ?c4
  case k6 => k_dflt k_is
  case k7 => k_dflt k_is
  case k8 => show dp < recursionLimit; omega
  case k9 => exact BindsTo.of_eq rfl
  case kB => exact rfl
  case kD => decide +kernel
  case c2 => exact rfl
  case c3 => exact rfl
  case c4 => exact rfl
  intro L h₁ tk₁ cells hL F N Y
  k_cells Y
  try dsimp only [List.cons_append, List.nil_append] at N
  dsimp only
  try k_fold
  w_on
  walk1
  walk1
  refine' lc_range (1 + x.fmod 3).toNat 0 1 (by decide) (fun _ y => ∃ a u, a ∈ marks ∧ y = .int a u) ?hA ?hn ?hc ?hcell ?hk ?hnm ?hx ?hs ?_
  case hA => exact rfl
  case hn => omega
  case hc => exact rfl
  case hcell => decide
  case hk => exact rfl
  case hnm => decide
  case hx => exact rfl
  case hs => intro _; rfl
  k_steps
  rename Fr _ _ _ _ => F1
  rename News _ _ _ _ => N1
  refine' ⟨_, _, _, _, _, rfl, (by assumption), ?sm, ?rs, ?el, ?fin⟩
  case sm => exact range_small (by omega) (by omega)
  case rs => exact range_size (by omega)
  case el =>
    intro C i tk s₃ m₃ E' hi hk hn hm
    have hcl := News.get N1 (List.Mem.head _)
    refine el_start X T B F1 hk hn rfl rfl (fun e1 => ?_)
    have hi3 : i = 0 ∨ i = 1 ∨ i = 2 := by omega
    skip
    rcases hi3 with rfl | rfl | rfl
    all_goals (
      k_steps
      rename El _ _ _ _ _ _ _ _ _ _ _ _ _ _ _ _ => e2
      refine ⟨?_, ⟨_, _, rfl, e2.k2⟩⟩
      rename _ = some _ => hv
      exact mark_item hv)
  case fin =>
    intro D h' tk ys hD hpl hpr hkp
    obtain ⟨ns, h1, h2, h3⟩ := paired_ints hpr
    refine hQ _ _ _ ?_ ⟨D, ys, ns, rfl, ?_, hpl, h1, row_of (by omega) (by omega) h3⟩
    · exact fun b o e => hkp _ _ (F1.keep b o e)
    · cases e : s.heap.get? D with
      | none => rfl
      | some o => have := F1.keep D o e; rw [hD] at this; cases this
end
section
/-- the mark behind the word at place i -/
def sepAt (i : Nat) : Str := if i % 2 = 0 then Str.ofString " " else Str.ofString "\n"
theorem isl_keep {h h' : Heap} {l : Addr} {its : Array Value} (x : h.IsList l its) (k : Kept h h') : h'.IsList l its := let ⟨o, a, b⟩ := x; ⟨o, k _ _ a, b⟩
def pieces (ws : List Str) : List Str := (List.range ws.length).map fun i => ws.getD i Str.empty ++ sepAt i
def lineS (ws : List Str) : Str := Txt.join (Str.ofString "") (pieces ws)
theorem sepAt_len (i : Nat) : (sepAt i).length = 1 := by unfold sepAt; split <;> decide
theorem getD_len {ws : List Str} (h : ∀ x ∈ ws, x.length ≤ 100) (i : Nat) : (ws.getD i Str.empty).length ≤ 100 := by
  rw [List.getD_eq_getElem?_getD]
  cases e : ws[i]? with
  | none => exact Nat.zero_le _
  | some x => exact h x (List.mem_of_getElem? e)
theorem add_fits {ws : List Str} {i : Nat} {y : Str} (h : ∀ x ∈ ws, x.length ≤ 100) (hy : y.length ≤ 100) : (ws.getD i Str.empty).length + y.length ≤ sizeLine := by
  have := getD_len h i
  rw [sizeLine_eq]; omega
theorem sep_even {i : Nat} (h : ((0 : Int) + (i : Int) * 1).fmod 2 = 0) : sepAt i = Str.ofString " " := by
  rw [Int.fmod_eq_emod_of_nonneg _ (by decide)] at h
  unfold sepAt; rw [if_pos (by omega)]
theorem sep_odd {i : Nat} (h : ¬ ((0 : Int) + (i : Int) * 1).fmod 2 = 0) : sepAt i = Str.ofString "\n" := by
  rw [Int.fmod_eq_emod_of_nonneg _ (by decide)] at h
  unfold sepAt; rw [if_neg (by omega)]
theorem at_nat (i : Nat) : ((0 : Int) + (i : Int) * 1).toNat = i := by omega
theorem paired_strs {f : Nat → Str} : ∀ {l : List Nat} {ys : List Value}, Paired (fun (i : Nat) y => ∃ u, y = Value.str (f i) u) l ys → StrsAre ys (l.map f) := by
  intro l ys p
  induction p with
  | nil => exact .nil
  | cons h t ih =>
    obtain ⟨u, rfl⟩ := h
    exact .cons _ u ih
theorem sum_le {α : Type} (f : α → Nat) (k : Nat) : ∀ (l : List α), (∀ x ∈ l, f x ≤ k) → (l.map f).sum ≤ l.length * k
  | [], _ => by simp
  | a :: r, h => by
    have h1 := h a (by simp)
    have h2 := sum_le f k r fun x hx => h x (List.mem_cons_of_mem _ hx)
    rw [List.map_cons, List.sum_cons, List.length_cons, Nat.add_mul]
    omega
local macro_rules | `(tactic| walk_at "subscriptTail") => `(tactic| ((try dsimp only); k_dflt (refine item_strs (by assumption) (by assumption) (by omega) (by omega) (by omega) ?_; intro _)))
local macro_rules | `(tactic| walk_at "binaryOp Add str str") => `(tactic| (refine PyProof.Rows.add_str ?_ (add_fits (by assumption) (by decide)); intro _ _))
set_option maxHeartbeats 1000000 in
theorem line_ctr (w : World) (l : Addr) (its : Array Value) (ws : List Str) (hst : StrsAre its.toList ws) (hn : ws.length ≤ 20) (hln : ∀ x ∈ ws, x.length ≤ 100) : Ctr w 180 [.ref l] [] 3 (fun h => h.IsList l its) (fun _ v _ => ∃ u, v = .str (lineS ws) u) := by
  have hsz : its.size = ws.length := by rw [← strs_len hst, Array.length_toList]
  unfold Ctr; k_fill
  intro p loose mean mg mb base outer dp un gd s Q E X T B hdp hun hp hQ
  refine wpAny_call ?_
  refine' enterC (binds := [(Str.ofString "words", .ref l)]) X T ?k6 ?k7 ?k8 ?k9 ?kB ?kD ?_ ?c2 ?c3 ?c4
  case k6 => k_dflt k_is
  case k7 => k_dflt k_is
  case k8 => show dp < recursionLimit; omega
  case k9 => exact BindsTo.of_eq rfl
  case kB => exact rfl
  case kD => decide +kernel
  case c2 => exact rfl
  case c3 => exact rfl
  case c4 => exact rfl
  intro L h₁ tk₁ cells hL F N Y
  k_cells Y
  try dsimp only [List.cons_append, List.nil_append] at N
  dsimp only
  try k_fold
  w_on
  walk1
  walk1
  walk1
  walk1
  walk1
  walk1
  walk1
  refine' lc_range ws.length 0 1 (by decide) (fun i y => ∃ u, y = .str (ws.getD i Str.empty ++ sepAt i) u) ?hA ?hn ?hc ?hcell ?hk ?hnm ?hx ?hs ?_
  case hA => exact rfl
  case hn => omega
  case hc => exact rfl
  case hcell => decide
  case hk => exact rfl
  case hnm => decide
  case hx => exact rfl
  case hs => intro _; rfl
  k_steps
  rename Fr _ _ _ _ => F1
  rename News _ _ _ _ => N1
  have hl1 := isl_keep hp F1.keep
  refine' ⟨_, _, _, _, _, rfl, (by assumption), ?sm, ?rs, ?el, ?fin⟩
  case sm => exact range_small (by omega) (by omega)
  case rs => exact range_size (by omega)
  case el =>
    intro C i tk s₃ m₃ E' hi hk hn hm
    have hcl := News.get N1 (List.Mem.head _)
    have hl3 := isl_keep hl1 hk
    refine el_start X T B F1 hk hn rfl rfl (fun e1 => ?_)
    k_steps
    all_goals (
      exact ⟨⟨_, congrArg (fun z => Value.str z _) (by rw [at_nat]; first | rw [sep_even (by assumption)] | rw [sep_odd (by assumption)])⟩, ⟨_, _, rfl, e1.k2⟩⟩)
  case fin =>
    intro D h' tk ys hD hpl hpr hkp
    have hst2 := paired_strs hpr
    have F2 := F1.keeps hkp
    k_steps
    k_dflt (show wpAny _ _ (call (Value.builtin "str.join") [Value.str _ _, Value.ref _]) _ _ _)
    refine PyProof.Rows.join_listW hpl.isList hst2 (by decide) ?_ ?_
    · have h1 := sum_le (fun z : Str => z.length) 101 ((List.range ws.length).map fun i => ws.getD i Str.empty ++ sepAt i) (fun z hz => by
        obtain ⟨i, _, rfl⟩ := List.mem_map.mp hz
        have h2 := getD_len hln i
        have h3 := sepAt_len i
        rw [Str.length_append]; omega)
      rw [List.length_map, List.length_range] at h1 ⊢
      omega
    · intro t' k'
      refine hQ _ _ _ ?_ ⟨_, rfl⟩
      exact fun b o e => hkp _ _ (F1.keep b o e)
end
section
/-- a comprehension's list joins the ledger -/
theorem lc_led {h₀ g h' : Heap} {L D : Addr} {m : Str → Option Value} {news : List (Addr × Obj)} {ys : Array Value} (F : Fr h₀ L g m) (N : News h₀ L g news) (k : Kept g h') (hD : g.get? D = none) (hp : h'.PlainList D ys) :
    ∃ n, Fr h₀ L h' m ∧ News h₀ L h' ((D, { cls := .type "list", data := .seq ys n }) :: news) := by
  obtain ⟨n, hp⟩ := hp
  refine ⟨n, F.keeps k, fun p hm => ?_⟩
  obtain ⟨oL, _, _, hL, _⟩ := F.ns
  rcases List.mem_cons.mp hm with rfl | hm
  · refine ⟨hp, fun e => ?_, ?_⟩
    · dsimp only at e; rw [e, hL] at hD; cases hD
    · cases e : h₀.get? D with
      | none => rfl
      | some o => have := F.keep D o e; rw [hD] at this; cases this
  · exact ⟨k _ _ (N p hm).1, (N p hm).2.1, (N p hm).2.2⟩
end
section
theorem listOf_is {h : Heap} {a : Addr} {its : Array Value} {n : Nat} (e : h.get? a = some ({ cls := .type "list", data := .seq its n } : Obj)) : h.IsList a its := ⟨_, e, rfl, _, rfl⟩
theorem News.sub {h₀ h : Heap} {L : Addr} {n₁ n₂ : List (Addr × Obj)} (N : News h₀ L h n₁) (hs : ∀ p ∈ n₂, p ∈ n₁) : News h₀ L h n₂ := fun p hp => N p (hs p hp)
theorem fr_but {h₀ h h' : Heap} {L : Addr} {m m' : Str → Option Value} (F : Fr h₀ L h m) (hn : h'.Ns L m') (k : ∀ b o, b ≠ L → h.get? b = some o → h'.get? b = some o) : Fr h₀ L h' m' := by
  have hL : h₀.get? L = none := Heap.get?_none_of_le F.above
  exact ⟨hn, fun b o e => k b o (fun q => by rw [q, hL] at e; cases e) (F.keep b o e), F.above⟩
theorem news_but {h₀ h h' : Heap} {L : Addr} {news : List (Addr × Obj)} (N : News h₀ L h news) (k : ∀ b o, b ≠ L → h.get? b = some o → h'.get? b = some o) : News h₀ L h' news :=
  fun p hp => ⟨k _ _ (N p hp).2.1 (N p hp).1, (N p hp).2⟩

/-- the source stands: a list; the comprehension's list is stored under the name y -/
def LcLA (prog : Program) (w : World) (A : Around) (env : Env) (elt : PySem.Expr) (x y : Str) (ifs : List PySem.Expr) (scope : Scope) (cl : List (Str × Addr)) (h₀ : Heap) (m : Str → Option Value) (news : List (Addr × Obj)) (Q : Flow → Shared → Prop) (p : Value → Bool) (G : Value → Value → Prop) (xv : Value) (s₁ : Shared) : Prop :=
  ∃ a items, xv = .ref a ∧ s₁.heap.IsList a items ∧ items.size ≤ 1000 ∧ Fr h₀ env.locals s₁.heap m ∧ News h₀ env.locals s₁.heap news ∧
      (∀ C v s₃ m₃ E', v ∈ items.toList → Kept s₁.heap s₃.heap → s₃.heap.Ns C m₃ → m₃ x = some v → wpAny (model prog w) A (compTests ifs (compEnvC scope cl C env)) (fun ok s₄ => EltIs (ok = p v) s₃ s₄) E' s₃) ∧
      (∀ C v s₃ m₃ E', v ∈ items.toList → p v = true → Kept s₁.heap s₃.heap → s₃.heap.Ns C m₃ → m₃ x = some v → wpAny (model prog w) A (eval elt (compEnvC scope cl C env)) (fun y s₄ => EltIs (G v y) s₃ s₄) E' s₃) ∧
      (∀ D h' tk ys n, Fr h₀ env.locals h' (fun z => if z = y then some (.ref D) else m z) → News h₀ env.locals h' ((D, { cls := .type "list", data := .seq ys n }) :: news) → Paired G (items.toList.filter p) ys.toList → Q .next { s₁ with heap := h', toks := tk })
section
variable {prog : Program} {w : World} {A : Around} {E : Value → Shared → Prop} {s : Shared} {env : Env} {elt iter : PySem.Expr} {x y : Str} {px py : Pos} {ifs : List PySem.Expr} {scope : Scope} {cl : List (Str × Addr)} {pos spos : Pos} {Q : Flow → Shared → Prop}

theorem lcA_list (h₀ : Heap) (m : Str → Option Value) (news : List (Addr × Obj)) (p : Value → Bool) (G : Value → Value → Prop) (hA : A.handled = none)
    (hsw : swapsWith (.ListComp elt [⟨.Name x px, iter, ifs, 0⟩] scope pos) (some (.Name y py)) spos.line env = pure true)
    (hclos : closureFor scope env = pure cl) (hcell : ∀ y ∈ scope.names, y.2 ≠ .cell) (hkind : scope.kind = .function)
    (hnames : ∀ y ∈ scope.names, y.2 = .local → scope.names.lookup y.1 = some .local) (hx : scope.names.lookup x = some .local)
    (hy : env.kindOf y = some .local) (hp : (env.scope.kind == .class || (env.scope.kind == .module && env.locals != env.globals)) = false) (hs : ∀ x, foldedSetIterable iter env x = pure x)
    (h : wpAny (model prog w) A (eval iter env) (LcLA prog w A env elt x y ifs scope cl h₀ m news Q p G) E s) :
    wpAny (model prog w) A (exec (.Assign [.Name y py] (.ListComp elt [⟨.Name x px, iter, ifs, 0⟩] scope pos) spos) env) Q E s := by
  refine wpAny_Assign_ListComp_free p G hsw hclos hcell hkind hnames hx hy hp (wpAny_mono h (fun xv s₁ h₁ => ?_) fun _ _ e => e) hs
  obtain ⟨a, items, rfl, hl, hsz, F, N, ht, he, hQ⟩ := h₁
  refine wpAny_pyIter_list hl ?_
  have hlt : a < s₁.heap.objs.size := by obtain ⟨o, ho, _⟩ := hl; exact Heap.lt_size ho
  have hne : a ≠ s₁.heap.objs.size := Nat.ne_of_lt hlt
  have old : ∀ {s₃ : Shared}, (∀ b o, b ∉ [s₁.heap.objs.size] → (s₁.heap.push { cls := .type "list_iterator", data := .fields #[.ref a, .int 0 0] }).get? b = some o → s₃.heap.get? b = some o) → Kept s₁.heap s₃.heap :=
    fun hk b o e => hk b o (fun hm => absurd (Heap.lt_size e) (by rw [List.mem_singleton.mp hm]; exact Nat.lt_irrefl _)) (Heap.get?_push_of_some _ e)
  have hLlt : env.locals < s₁.heap.objs.size := F.ns.lt
  refine ⟨_, _, _, _, _, _, m, rfl, Walks.list hA s₁.heap.objs.size a hne items, by rw [sizeLine_eq]; omega, ⟨⟨_, Heap.get?_push_size _ rfl, rfl, rfl⟩, ?_⟩, ?_, ?_, ?_, ⟨?_, ?_⟩, ?_⟩
  · obtain ⟨o, ho, r⟩ := hl
    exact ⟨o, Heap.get?_push_of_some _ ho, r⟩
  · intro b hb
    rw [Heap.size_push]
    rcases List.mem_cons.mp hb with rfl | hb
    · exact Nat.lt_succ_self _
    · rw [List.mem_singleton.mp hb]; exact Nat.lt_succ_of_lt hlt
  · exact fun hm => by rw [List.mem_singleton.mp hm] at hLlt; exact absurd hLlt (Nat.lt_irrefl _)
  · exact F.ns.keeps (kept_push _ _)
  · intro C i v s₃ m₃ E' _ hP hn hm hk _
    exact ht C v s₃ m₃ E' (by obtain ⟨hi, e⟩ := Array.getElem?_eq_some_iff.mp hP; rw [← e]; exact Array.mem_toList_iff.mpr (Array.getElem_mem hi)) (old hk) hn hm
  · intro C i v s₃ m₃ E' _ hP hpv hn hm hk _
    exact he C v s₃ m₃ E' (by obtain ⟨hi, e⟩ := Array.getElem?_eq_some_iff.mp hP; rw [← e]; exact Array.mem_toList_iff.mpr (Array.getElem_mem hi)) hpv (old hk) hn hm
  · intro D h' tk ys vs hD _ hpl hlen hP hF hnL hk
    have hv : vs = items.toList := by
      refine List.ext_getElem? fun i => ?_
      by_cases hi : i < vs.length
      · rw [List.getElem?_eq_getElem hi]
        have := hP i vs[i] (List.getElem?_eq_getElem hi)
        rw [← this, Array.getElem?_toList]
      · rw [List.getElem?_eq_none (by omega), List.getElem?_eq_none (by rw [Array.length_toList]; omega)]
    subst hv
    have hD₁ : s₁.heap.get? D = none := by
      cases e : s₁.heap.get? D with
      | none => rfl
      | some o => rw [Heap.get?_push_of_some _ e] at hD; cases hD
    have k' : ∀ b o, b ≠ env.locals → s₁.heap.get? b = some o → h'.get? b = some o := fun b o hb e =>
      hk b o hb (fun hm => absurd (Heap.lt_size e) (by rw [List.mem_singleton.mp hm]; exact Nat.lt_irrefl _)) (Heap.get?_push_of_some _ e)
    obtain ⟨n, hpl⟩ := hpl
    refine hQ D h' tk ys n (fr_but F hnL k') ?_ hF
    intro p hm
    obtain ⟨oL, _, _, hL, _⟩ := F.ns
    rcases List.mem_cons.mp hm with rfl | hm
    · refine ⟨hpl, fun e => ?_, ?_⟩
      · dsimp only at e; rw [e, hL] at hD₁; cases hD₁
      · cases e : h₀.get? D with
        | none => rfl
        | some o => have := F.keep D o e; rw [hD₁] at this; cases this
    · exact news_but N k' p hm
end
end
section
/-- a fresh list that bears its items -/
def NewL (G : Array Value → Prop) (h h' : Heap) (y : Value) : Prop := ∃ T its, y = .ref T ∧ h.get? T = none ∧ h'.IsList T its ∧ G its
/-- a list that bears its items -/
def OldL (G : Array Value → Prop) (h' : Heap) (y : Value) : Prop := ∃ T its, y = .ref T ∧ h'.IsList T its ∧ G its
/-- the source stands: a list; the elements are fresh lists -/
def LcLO (prog : Program) (w : World) (A : Around) (env : Env) (elt : PySem.Expr) (x : Str) (ifs : List PySem.Expr) (scope : Scope) (cl : List (Str × Addr)) (Q : Value → Shared → Prop) (p : Value → Bool) (G : Value → Array Value → Prop) (xv : Value) (s₁ : Shared) : Prop :=
  ∃ a items, xv = .ref a ∧ s₁.heap.IsList a items ∧ items.size ≤ 1000 ∧
      (∀ C v s₃ m₃ E', v ∈ items.toList → Kept s₁.heap s₃.heap → s₃.heap.Ns C m₃ → m₃ x = some v → wpAny (model prog w) A (compTests ifs (compEnvC scope cl C env)) (fun ok s₄ => EltIs (ok = p v) s₃ s₄) E' s₃) ∧
      (∀ C v s₃ m₃ E', v ∈ items.toList → p v = true → Kept s₁.heap s₃.heap → s₃.heap.Ns C m₃ → m₃ x = some v → wpAny (model prog w) A (eval elt (compEnvC scope cl C env)) (fun y s₄ => EltIs (NewL (G v) s₃.heap s₄.heap y) s₃ s₄) E' s₃) ∧
      (∀ D h' tk ys, s₁.heap.get? D = none → h'.PlainList D ys → Paired (fun v y => OldL (G v) h' y) (items.toList.filter p) ys.toList → Kept s₁.heap h' → Q (.ref D) { s₁ with heap := h', toks := tk })
/-- the same, the list stored under the name y -/
def LcLOA (prog : Program) (w : World) (A : Around) (env : Env) (elt : PySem.Expr) (x y : Str) (ifs : List PySem.Expr) (scope : Scope) (cl : List (Str × Addr)) (h₀ : Heap) (m : Str → Option Value) (news : List (Addr × Obj)) (Q : Flow → Shared → Prop) (p : Value → Bool) (G : Value → Array Value → Prop) (xv : Value) (s₁ : Shared) : Prop :=
  ∃ a items, xv = .ref a ∧ s₁.heap.IsList a items ∧ items.size ≤ 1000 ∧ Fr h₀ env.locals s₁.heap m ∧ News h₀ env.locals s₁.heap news ∧
      (∀ C v s₃ m₃ E', v ∈ items.toList → Kept s₁.heap s₃.heap → s₃.heap.Ns C m₃ → m₃ x = some v → wpAny (model prog w) A (compTests ifs (compEnvC scope cl C env)) (fun ok s₄ => EltIs (ok = p v) s₃ s₄) E' s₃) ∧
      (∀ C v s₃ m₃ E', v ∈ items.toList → p v = true → Kept s₁.heap s₃.heap → s₃.heap.Ns C m₃ → m₃ x = some v → wpAny (model prog w) A (eval elt (compEnvC scope cl C env)) (fun y s₄ => EltIs (NewL (G v) s₃.heap s₄.heap y) s₃ s₄) E' s₃) ∧
      (∀ D h' tk ys n tl, Fr h₀ env.locals h' (fun z => if z = y then some (.ref D) else m z) → News h₀ env.locals h' ((D, { cls := .type "list", data := .seq ys n }) :: (news ++ tl)) → Paired (fun v y => ∃ T o its k, y = .ref T ∧ (T, o) ∈ tl ∧ o.cls = .type "list" ∧ o.data = .seq its k ∧ G v its) (items.toList.filter p) ys.toList → Q .next { s₁ with heap := h', toks := tk })
theorem tailOf {G : Value → Array Value → Prop} {g h h₀ : Heap} {L : Addr} (hL : ∃ o es n, g.get? L = some o ∧ o.data = .dict es n) (hg : ∀ b, g.get? b = none → h₀.get? b = none) (hK : ∃ o es n, h.get? L = some o ∧ o.data = .dict es n) : ∀ {vs ys : List Value}, Paired (LstIs g G h) vs ys →
    ∃ tl, News h₀ L h tl ∧ Paired (fun v y => ∃ T o its k, y = Value.ref T ∧ (T, o) ∈ tl ∧ o.cls = Value.type "list" ∧ o.data = .seq its k ∧ G v its) vs ys := by
  intro vs ys p
  induction p with
  | nil => exact ⟨[], News.nil, .nil⟩
  | cons h r ih =>
    obtain ⟨T, its, e, hT, ⟨o, ho, hc, k, hd⟩, hG⟩ := h
    obtain ⟨tl, N, P⟩ := ih
    refine ⟨(T, o) :: tl, ?_, .cons ⟨T, o, its, k, e, List.Mem.head _, hc, hd, hG⟩ (P.mono fun _ _ x => ?_)⟩
    · intro p hp
      rcases List.mem_cons.mp hp with rfl | hp
      · refine ⟨ho, fun q => ?_, hg _ hT⟩
        obtain ⟨ol, es, n, e1, e2⟩ := hK
        dsimp only at q
        rw [q, e1] at ho
        cases ho
        rw [e2] at hd; cases hd
      · exact N p hp
    · obtain ⟨T', o', i', k', a, b, c⟩ := x
      exact ⟨T', o', i', k', a, List.Mem.tail _ b, c⟩
section
variable {prog : Program} {w : World} {A : Around} {s : Shared} {env : Env} {elt iter : PySem.Expr} {x y : Str} {px py : Pos} {ifs : List PySem.Expr} {scope : Scope} {cl : List (Str × Addr)} {pos spos : Pos}
theorem live_list {I ax : Addr} {items : Array Value} : ∀ i h, (fun (i : Nat) (h : Heap) => h.IsListIter I ax i ∧ h.IsList ax items) i h → ∀ b ∈ [I], ∃ o, h.get? b = some o := fun i h st b hb => by
  obtain ⟨o, e, _⟩ := st.1
  exact ⟨o, by rw [List.mem_singleton.mp hb]; exact e⟩
theorem lcO_list {E Q : Value → Shared → Prop} (p : Value → Bool) (G : Value → Array Value → Prop) (hA : A.handled = none)
    (hclos : closureFor scope env = pure cl) (hcell : ∀ y ∈ scope.names, y.2 ≠ .cell) (hkind : scope.kind = .function)
    (hnames : ∀ y ∈ scope.names, y.2 = .local → scope.names.lookup y.1 = some .local) (hx : scope.names.lookup x = some .local) (hs : ∀ x, foldedSetIterable iter env x = pure x)
    (h : wpAny (model prog w) A (eval iter env) (LcLO prog w A env elt x ifs scope cl Q p G) E s) :
    wpAny (model prog w) A (eval (.ListComp elt [⟨.Name x px, iter, ifs, 0⟩] scope pos) env) Q E s := by
  refine wpAny_ListComp_freeO p G hclos hcell hkind hnames hx (wpAny_mono h (fun xv s₁ h₁ => ?_) fun _ _ e => e) hs
  obtain ⟨a, items, rfl, hl, hsz, ht, he, hQ⟩ := h₁
  refine wpAny_pyIter_list hl ?_
  have hlt : a < s₁.heap.objs.size := by obtain ⟨o, ho, _⟩ := hl; exact Heap.lt_size ho
  have hne : a ≠ s₁.heap.objs.size := Nat.ne_of_lt hlt
  have old : ∀ {s₃ : Shared}, (∀ b o, b ∉ [s₁.heap.objs.size] → (s₁.heap.push { cls := .type "list_iterator", data := .fields #[.ref a, .int 0 0] }).get? b = some o → s₃.heap.get? b = some o) → Kept s₁.heap s₃.heap :=
    fun hk b o e => hk b o (fun hm => absurd (Heap.lt_size e) (by rw [List.mem_singleton.mp hm]; exact Nat.lt_irrefl _)) (Heap.get?_push_of_some _ e)
  refine ⟨_, _, _, _, _, _, rfl, Walks.list hA s₁.heap.objs.size a hne items, by rw [sizeLine_eq]; omega, live_list, ⟨⟨_, Heap.get?_push_size _ rfl, rfl, rfl⟩, ?_⟩, ?_, ⟨?_, ?_⟩, ?_⟩
  · obtain ⟨o, ho, r⟩ := hl
    exact ⟨o, Heap.get?_push_of_some _ ho, r⟩
  · intro b hb
    rw [Heap.size_push]
    rcases List.mem_cons.mp hb with rfl | hb
    · exact Nat.lt_succ_self _
    · rw [List.mem_singleton.mp hb]; exact Nat.lt_succ_of_lt hlt
  · intro C i v s₃ m₃ E' _ hP hn hm hk _
    exact ht C v s₃ m₃ E' (by obtain ⟨hi, e⟩ := Array.getElem?_eq_some_iff.mp hP; rw [← e]; exact Array.mem_toList_iff.mpr (Array.getElem_mem hi)) (old hk) hn hm
  · intro C i v s₃ m₃ E' _ hP hpv hn hm hk _
    exact he C v s₃ m₃ E' (by obtain ⟨hi, e⟩ := Array.getElem?_eq_some_iff.mp hP; rw [← e]; exact Array.mem_toList_iff.mpr (Array.getElem_mem hi)) hpv (old hk) hn hm
  · intro D h' tk ys vs hD _ hpl hlen hP hF _ _ hk
    have hv : vs = items.toList := by
      refine List.ext_getElem? fun i => ?_
      by_cases hi : i < vs.length
      · rw [List.getElem?_eq_getElem hi]
        have := hP i vs[i] (List.getElem?_eq_getElem hi)
        rw [← this, Array.getElem?_toList]
      · rw [List.getElem?_eq_none (by omega), List.getElem?_eq_none (by rw [Array.length_toList]; omega)]
    subst hv
    refine hQ D h' tk ys ?_ hpl (hF.mono fun _ _ ⟨T, its, e, _, hl, hG⟩ => ⟨T, its, e, hl, hG⟩) (old (s₃ := { s₁ with heap := h' }) hk)
    cases e : s₁.heap.get? D with
    | none => rfl
    | some o => rw [Heap.get?_push_of_some _ e] at hD; cases hD

theorem lcOA_list {E : Value → Shared → Prop} {Q : Flow → Shared → Prop} (h₀ : Heap) (m : Str → Option Value) (news : List (Addr × Obj)) (p : Value → Bool) (G : Value → Array Value → Prop) (hA : A.handled = none)
    (hsw : swapsWith (.ListComp elt [⟨.Name x px, iter, ifs, 0⟩] scope pos) (some (.Name y py)) spos.line env = pure true)
    (hclos : closureFor scope env = pure cl) (hcell : ∀ y ∈ scope.names, y.2 ≠ .cell) (hkind : scope.kind = .function)
    (hnames : ∀ y ∈ scope.names, y.2 = .local → scope.names.lookup y.1 = some .local) (hx : scope.names.lookup x = some .local)
    (hy : env.kindOf y = some .local) (hp : (env.scope.kind == .class || (env.scope.kind == .module && env.locals != env.globals)) = false) (hs : ∀ x, foldedSetIterable iter env x = pure x)
    (h : wpAny (model prog w) A (eval iter env) (LcLOA prog w A env elt x y ifs scope cl h₀ m news Q p G) E s) :
    wpAny (model prog w) A (exec (.Assign [.Name y py] (.ListComp elt [⟨.Name x px, iter, ifs, 0⟩] scope pos) spos) env) Q E s := by
  rw [exec_Assign_Name_used _ _ _ _ hsw]
  refine wpAny_bind (wpAny_standAt (wpAny_bind ?_))
  show wpAny _ A (do let _ ← comprehension (.ListComp elt [⟨.Name x px, iter, ifs, 0⟩] scope pos) scope env _ (newList []) false (eval iter env) (some (assign (.Name y py) env))) _ _ s
  refine wpAny_bind (wpAny_mono (wpAny_comprehension_free (use := some (assign (.Name y py) env)) (Q := fun _ s' => Q .next s') rfl hs hclos hkind hnames
    (wpAny_mono h (fun xv s₁ h₁ => ?_) fun _ _ e => e)) (fun _ s' hq => wpAny_pure (wpAny_pure hq)) fun _ _ e => e)
  obtain ⟨a, items, rfl, hl, hsz, F, N, ht, he, hQ⟩ := h₁
  refine wpAny_pyIter_list hl ?_
  have hlt : a < s₁.heap.objs.size := by obtain ⟨o, ho, _⟩ := hl; exact Heap.lt_size ho
  have hne : a ≠ s₁.heap.objs.size := Nat.ne_of_lt hlt
  have old : ∀ {s₃ : Shared}, (∀ b o, b ∉ [s₁.heap.objs.size] → (s₁.heap.push { cls := .type "list_iterator", data := .fields #[.ref a, .int 0 0] }).get? b = some o → s₃.heap.get? b = some o) → Kept s₁.heap s₃.heap :=
    fun hk b o e => hk b o (fun hm => absurd (Heap.lt_size e) (by rw [List.mem_singleton.mp hm]; exact Nat.lt_irrefl _)) (Heap.get?_push_of_some _ e)
  have hLlt : env.locals < s₁.heap.objs.size := F.ns.lt
  refine comp_block_walkCO (RR := fun acc C => compPost (model prog w) A E (some (assign (.Name y py) env)) (fun _ s' => Q .next s') acc C) (Walks.list hA s₁.heap.objs.size a hne items) (by rw [sizeLine_eq]; omega) p G live_list hcell hkind hx
    ⟨⟨_, Heap.get?_push_size _ rfl, rfl, rfl⟩, ?_⟩ ?_ ⟨?_, ?_⟩ ?_
  · obtain ⟨o, ho, r⟩ := hl
    exact ⟨o, Heap.get?_push_of_some _ ho, r⟩
  · intro b hb
    rw [Heap.size_push]
    rcases List.mem_cons.mp hb with rfl | hb
    · exact Nat.lt_succ_self _
    · rw [List.mem_singleton.mp hb]; exact Nat.lt_succ_of_lt hlt
  · intro C i v s₃ m₃ E' _ hP hn hm hk _
    exact ht C v s₃ m₃ E' (by obtain ⟨hi, e⟩ := Array.getElem?_eq_some_iff.mp hP; rw [← e]; exact Array.mem_toList_iff.mpr (Array.getElem_mem hi)) (old hk) hn hm
  · intro C i v s₃ m₃ E' _ hP hpv hn hm hk _
    exact he C v s₃ m₃ E' (by obtain ⟨hi, e⟩ := Array.getElem?_eq_some_iff.mp hP; rw [← e]; exact Array.mem_toList_iff.mpr (Array.getElem_mem hi)) hpv (old hk) hn hm
  intro D C h' tk m' ys vs hD hC hDC hnC hlD hplD hlen hP hF hnd hk
  have hv : vs = items.toList := by
    refine List.ext_getElem? fun i => ?_
    by_cases hi : i < vs.length
    · rw [List.getElem?_eq_getElem hi]
      have := hP i vs[i] (List.getElem?_eq_getElem hi)
      rw [← this, Array.getElem?_toList]
    · rw [List.getElem?_eq_none (by omega), List.getElem?_eq_none (by rw [Array.length_toList]; omega)]
  subst hv
  have none₁ : ∀ {b : Addr}, (s₁.heap.push { cls := .type "list_iterator", data := .fields #[.ref a, .int 0 0] }).get? b = none → s₁.heap.get? b = none := fun {b} hb => by
    cases e : s₁.heap.get? b with
    | none => rfl
    | some o => rw [Heap.get?_push_of_some _ e] at hb; cases hb
  have none₀ : ∀ b, s₁.heap.get? b = none → h₀.get? b = none := fun b hb => by
    cases e : h₀.get? b with
    | none => rfl
    | some o => have := F.keep b o e; rw [hb] at this; cases this
  have hLs : ∃ o es n, s₁.heap.get? env.locals = some o ∧ o.data = .dict es n := by obtain ⟨o, es, n, e, d, _⟩ := F.ns; exact ⟨o, es, n, e, d⟩
  have hLC : env.locals ≠ C := by rintro rfl; obtain ⟨o, _, _, ho, _⟩ := hLs; rw [none₁ hC] at ho; cases ho
  have hLD : env.locals ≠ D := by rintro rfl; obtain ⟨o, _, _, ho, _⟩ := hLs; rw [none₁ hD] at ho; cases ho
  have k1 : Kept s₁.heap h' := old (s₃ := { s₁ with heap := h' }) hk
  show wpAny _ A (assign (.Name y py) env (.ref D)) _ _ _
  refine wpAny_assign_Name (wpAny_storeName_local hy (F.ns.keeps k1) (fun h₂ hn₂ hs₂ => ?_) hp)
  refine ⟨m', hnC.sameBut hs₂ (Ne.symm hLC), fun h₃ hs₃ => ?_⟩
  have k3 : ∀ b o, b ≠ env.locals → s₁.heap.get? b = some o → h₃.get? b = some o := fun b o hb e =>
    hs₃.extBut b o (by rintro rfl; rw [none₁ hC] at e; cases e) (hs₂.extBut b o hb (k1 b o e))
  have hn₃ := hn₂.sameBut hs₃ hLC
  have hK : ∃ o es n, h₃.get? env.locals = some o ∧ o.data = .dict es n := by obtain ⟨o, es, n, e, d, _⟩ := hn₃; exact ⟨o, es, n, e, d⟩
  have hF₃ : Paired (LstIs s₁.heap G h₃) (items.toList.filter p) ys.toList := hF.mono fun _ _ ⟨T, its, e, hT, hTC, hTw, hTD, hl, hG⟩ => by
    have hTL : T ≠ env.locals := fun q => by
      obtain ⟨o, _, _, ho, _⟩ := hLs
      have := none₁ hT
      rw [q, ho] at this; cases this
    exact ⟨T, its, e, none₁ hT, (hl.extBut hs₂.extBut hTL).extBut hs₃.extBut hTC, hG⟩
  obtain ⟨tl, NT, PT⟩ := tailOf hLs none₀ hK hF₃
  obtain ⟨n, hplD⟩ := hplD
  refine hQ D h₃ _ ys n tl (fr_but F hn₃ k3) ?_ PT
  intro q hm
  rcases List.mem_cons.mp hm with rfl | hm
  · exact ⟨hs₃.extBut _ _ hDC (hs₂.extBut _ _ (Ne.symm hLD) hplD), Ne.symm hLD, none₀ _ (none₁ hD)⟩
  · rcases List.mem_append.mp hm with hm | hm
    · exact news_but N k3 q hm
    · exact NT q hm
end
end
section
section
variable {prog : Program} {w : World} {A : Around} {E : Value → Shared → Prop} {s : Shared} {Q : Value → Shared → Prop}
theorem pow_to {a n : Int} {t u : Tok} (k : Int) (hk : a ^ n.toNat = k) (hn : 0 ≤ n) (hn2 : n ≤ 1000000) (ha : a.natAbs < 2 ^ 64) (h : Q (.int k s.toks) { s with toks := s.toks + 1 }) :
    wpAny (model prog w) A (binaryOp .Pow (.int a t) (.int n u)) Q E s := pow_int_small hn hn2 ha (hk ▸ h)
theorem item_fm {value slice : PySem.Expr} {x : Str} {t u : Tok} {z : Int} (hx : x.length = 64) (h : Q (.str (Txt.item x (z.fmod 64)) s.toks) { s with toks := s.toks + 1 })
    (hs : subscripted slice false (.str x t) (.int (z.fmod 64) u) = operate [.str x t, .int (z.fmod 64) u] (getItem (.str x t) (.int (z.fmod 64) u)) := by with_unfolding_all rfl)
    (ht : ∀ r, letTemporaryGo value (.str x t) r = pure () := by intro _; with_unfolding_all rfl) :
    wpAny (model prog w) A (subscriptTail value slice (.str x t) (.int (z.fmod 64) u)) Q E s := by
  have h0 := (fmod_pos z 64 (by decide)).1
  have h1 := (fmod_pos z 64 (by decide)).2
  have e63 : (2 : Int) ^ 63 = 9223372036854775808 := by decide
  refine PyProof.Rows.item_str ?_ (by omega) (by omega) (fun _ => h) hs ht
  unfold fitsSsize
  simp only [Bool.not_eq_true', Bool.or_eq_false_iff, decide_eq_false_iff_not, Bool.and_eq_true, decide_eq_true_eq]
  omega
end
theorem paired1 {F : Nat → Value → Prop} {ys : Array Value} (h : Paired F (List.range 1) ys.toList) : ∃ x, ys = #[x] ∧ F 0 x := by
  obtain ⟨l⟩ := ys
  obtain _ | ⟨h0, ⟨⟩⟩ := h
  exact ⟨_, rfl, h0⟩
theorem paired2 {F : Nat → Value → Prop} {ys : Array Value} (h : Paired F (List.range 2) ys.toList) : ∃ x y, ys = #[x, y] ∧ F 0 x ∧ F 1 y := by
  obtain ⟨l⟩ := ys
  obtain _ | ⟨h0, _ | ⟨h1, ⟨⟩⟩⟩ := h
  exact ⟨_, _, rfl, h0, h1⟩
theorem paired3 {F : Nat → Value → Prop} {ys : Array Value} (h : Paired F (List.range 3) ys.toList) : ∃ x y z, ys = #[x, y, z] ∧ F 0 x ∧ F 1 y ∧ F 2 z := by
  obtain ⟨l⟩ := ys
  obtain _ | ⟨h0, _ | ⟨h1, _ | ⟨h2, ⟨⟩⟩⟩⟩ := h
  exact ⟨_, _, _, rfl, h0, h1, h2⟩
theorem paired4 {F : Nat → Value → Prop} {ys : Array Value} (h : Paired F (List.range 4) ys.toList) : ∃ x y z v, ys = #[x, y, z, v] ∧ F 0 x ∧ F 1 y ∧ F 2 z ∧ F 3 v := by
  obtain ⟨l⟩ := ys
  obtain _ | ⟨h0, _ | ⟨h1, _ | ⟨h2, _ | ⟨h3, ⟨⟩⟩⟩⟩⟩ := h
  exact ⟨_, _, _, _, rfl, h0, h1, h2, h3⟩

/-- a comprehension's list joins the ledger, apart from all that stands there -/
theorem lc_led2 {h₀ g h' : Heap} {L D : Addr} {m : Str → Option Value} {news : List (Addr × Obj)} {ys : Array Value} (F : Fr h₀ L g m) (N : News h₀ L g news) (k : Kept g h') (hD : g.get? D = none) (hp : h'.PlainList D ys) :
    ∃ n, Fr h₀ L h' m ∧ News h₀ L h' ((D, { cls := .type "list", data := .seq ys n }) :: news) ∧ (∀ p ∈ news, @Ne Nat p.1 D) ∧ @Ne Nat L D := by
  obtain ⟨n, F', N'⟩ := lc_led F N k hD hp
  refine ⟨n, F', N', fun p hm e => ?_, fun e => ?_⟩
  · have := (N p hm).1
    rw [e, hD] at this; cases this
  · obtain ⟨oL, _, _, hL, _⟩ := F.ns
    rw [e, hD] at hL; cases hL

theorem join_le (sep : Str) (ys : List Str) : (Txt.join sep ys).length ≤ (ys.map (·.length)).sum + ys.length * sep.length := by
  show (Builtin.Str.glued sep ys).length ≤ _
  rw [StrLaws.glued_eq_join]
  exact StrLaws.join_length_le sep ys
theorem nil_add_str (x : Str) : Str.ofString "" ++ x = x := by
  obtain ⟨c⟩ := x
  show Str.mk _ = _
  congr 1
  exact Array.empty_append
section
variable {prog : Program} {w : World} {A : Around} {E : Value → Shared → Prop} {s : Shared} {Q : Value → Shared → Prop}
theorem add_nil_str {y : Str} {t u : Tok} (hy : y.length ≤ 1000) (h : ∀ t' tk, Q (.str y t') { s with toks := tk }) : wpAny (model prog w) A (binaryOp .Add (.str (Str.ofString "") t) (.str y u)) Q E s :=
  PyProof.Rows.add_str (by rw [nil_add_str]; exact h) (by
    have : (Str.ofString "").length = 0 := rfl
    rw [sizeLine_eq]; omega)
theorem add_small {x y : Str} {t u : Tok} (hx : x.length ≤ 1000) (hy : y.length ≤ 1000) (h : ∀ t' tk, Q (.str (x ++ y) t') { s with toks := tk }) : wpAny (model prog w) A (binaryOp .Add (.str x t) (.str y u)) Q E s :=
  PyProof.Rows.add_str h (by rw [sizeLine_eq]; omega)
end

def ltr : Str := Str.ofString "ABCDEFGHIJKLMNOPQRSTUVWXYZabcdefghijklmnopqrstuvwxyz0123456789+/"
/-- the sign of the six of z at the weight k -/
def sx (z k : Int) : Str := Txt.item ltr ((z.fdiv k).fmod 64)
theorem sx_len (z k : Int) : (sx z k).length = 1 := PyProof.Rows.len_item _ _
def Stop (P : Prop) : Prop := P
theorem stop {P : Prop} (h : Stop P) : P := h
end
section
section
variable {prog : Program} {w : World} {A : Around} {R : Result → Shared → Prop} {s : Shared}
theorem compLoop_E {elt iter : PySem.Expr} {a b : Str} {pa pb tp : Pos} {kk : Nat} {scope : Scope} {pos : Pos} {I D : Addr} {fp wr : List Addr} {n : Nat} {Pt : Nat → Array Value → Prop} {St : Nat → Heap → Prop} {Mid : Nat → Addr → Heap → Prop}
    {cenv : Env} {m : Str → Option Value} (W : WalksU prog w A I fp wr n Pt St Mid) (hh : A.handled = none) (G : Nat → Value → Prop)
    (ha : cenv.kindOf a = some .local) (hb : cenv.kindOf b = some .local) (hab : a ≠ b) (hp : (cenv.scope.kind == .class || (cenv.scope.kind == .module && cenv.locals != cenv.globals)) = false)
    (hDC : D ≠ cenv.locals) (hDf : D ∉ fp) (hCf : cenv.locals ∉ fp)
    (hst : St 0 s.heap) (hacc : s.heap.PlainList D #[]) (hn : s.heap.Ns cenv.locals m)
    (h2 : ∀ i vals, Pt i vals → ∃ x y, vals = #[x, y])
    (helt : ∀ i x y s₂ m₂, i < n → Pt i #[x, y] → s₂.heap.Ns cenv.locals m₂ → m₂ a = some x → m₂ b = some y → (∀ c o, c ≠ cenv.locals → c ∉ wr → c ≠ D → s.heap.get? c = some o → s₂.heap.get? c = some o) →
      wpAny (model prog w) A (eval elt cenv) (fun r s₃ => G i r ∧ Keeps s₂ s₃) (notedBy (model prog w) A cenv fun e s' => R (.error e) s') s₂)
    (hR : ∀ h' tk m' ys, h'.Ns cenv.locals m' → h'.PlainList D ys → Paired G (List.range n) ys.toList →
      (∀ c o, c ≠ cenv.locals → c ∉ wr → c ≠ D → s.heap.get? c = some o → h'.get? c = some o) → R (.ok .next) { s with heap := h', toks := tk })
    (hsz : n ≤ sizeLine) :
    codeAny (model prog w) A (.compLoop (.ListComp elt [⟨.Tuple [.Name a pa, .Name b pb] kk tp, iter, [], 0⟩] scope pos) 0 (.ref I) (.ref D) cenv) R s := by
  refine kcp_loop
    (fun k s' => ∃ h' tk m' ys i, s' = { s with heap := h', toks := tk } ∧ St i h' ∧ h'.PlainList D ys ∧ h'.Ns cenv.locals m' ∧
      Paired G (List.range i) ys.toList ∧ i ≤ n ∧ k = n + 1 - i ∧
      (∀ c o, c ≠ cenv.locals → c ∉ wr → c ≠ D → s.heap.get? c = some o → h'.get? c = some o)) ?_ (n + 1)
    ⟨s.heap, s.toks, m, #[], 0, rfl, hst, hacc, hn, .nil, Nat.zero_le _, rfl, fun _ _ _ _ _ e => e⟩
  rintro k s' ⟨H, tk, m', ys, i, rfl, hst', hacc', hn', hF, hi, rfl, hk⟩
  have hCw : cenv.locals ∉ wr := fun h => hCf (W.sub _ h)
  have hDw : D ∉ wr := fun h => hDf (W.sub _ h)
  by_cases hlt : i < n
  · refine W.item i _ _ _ hlt hst' fun T vals h₁ tk₁ hP hT hM hk₁ => ?_
    obtain ⟨x, y, rfl⟩ := h2 i vals hP
    have hTw := W.apart _ _ _ hM
    refine W.go _ _ _ i T _ _ _ hM fun h₂ hst₂ hk₂ => ?_
    have hT₂ : h₂.IsTuple T #[x, y] := by obtain ⟨o, ho, r⟩ := hT; exact ⟨o, hk₂ T o hTw ho, r⟩
    have hn₂ : h₂.Ns cenv.locals m' := (hn'.at' fun o e => hk₁ _ o hCw e).at' fun o e => hk₂ _ o hCw e
    refine kcp_assign hh hT₂ ha hb hp hn₂ fun h₃ tk₃ hn₃ hk₃ => ?_
    have up₃ : ∀ c o, c ≠ cenv.locals → c ∉ wr → H.get? c = some o → h₃.get? c = some o := fun c o hc hcw e => hk₃ c o hc (hk₂ c o hcw (hk₁ c o hcw e))
    have hst₃ : St (i + 1) h₃ := W.frame _ _ _ hst₂ fun c hc o e => hk₃ c o (fun q => hCf (q ▸ hc)) e
    refine wpAny_mono (helt i x y _ _ hlt hP hn₃ (by simp [hab]) (by simp) fun c o hc hcw hcD e => up₃ c o hc hcw (hk c o hc hcw hcD e)) (fun r s₄ h₄ => ?_) fun _ _ e => e
    obtain ⟨hG, h₄, tk₄, rfl, hk₄⟩ := h₄
    have hys : ys.size ≤ sizeLine := by
      have e1 := hF.length
      rw [List.length_range] at e1
      have e4 : ys.toList.length = ys.size := by simp
      omega
    refine wpAny_list_append_plain (hsz := hys) (hacc'.at fun o e => hk₄ _ o (up₃ D o hDC hDw e)) fun h₅ hl₅ hs₅ => ?_
    refine ⟨n + 1 - (i + 1), by omega, h₅, tk₄, _, ys.push r, i + 1, rfl, W.frame _ _ _ hst₃ fun c hc o e => hs₅.extBut c o (fun h => hDf (h ▸ hc)) (hk₄ c o e), hl₅, (hn₃.keeps hk₄).sameBut hs₅ (Ne.symm hDC), ?_, hlt, rfl,
      fun c o hc hcw hcD e => hs₅.extBut c o hcD (hk₄ c o (up₃ c o hc hcw (hk c o hc hcw hcD e)))⟩
    rw [List.range_succ]
    simpa using Paired.snoc hF hG
  · have hin : i = n := by omega
    subst hin
    refine W.done _ _ _ hst' fun h₁ tk₁ hk₁ => ?_
    exact hR h₁ tk₁ m' ys (hn'.at' fun o e => hk₁ _ o hCw e) (hacc'.at fun o e => hk₁ _ o hDw e) hF fun c o hc hcw hcD e => hk₁ c o hcw (hk c o hc hcw hcD e)
end

/-- the source stands: enumerate over a list; the comprehension's list is stored under the name y -/
def LcEA (prog : Program) (w : World) (A : Around) (env : Env) (elt : PySem.Expr) (a b y : Str) (scope : Scope) (cl : List (Str × Addr)) (h₀ : Heap) (m : Str → Option Value) (news : List (Addr × Obj)) (Q : Flow → Shared → Prop) (n : Nat) (G : Nat → Value → Prop) (xv : Value) (s₁ : Shared) : Prop :=
  ∃ e it l items, xv = .ref e ∧ IsEnum s₁.heap e it 0 .none ∧ s₁.heap.IsListIter it l 0 ∧ s₁.heap.IsList l items ∧ e ≠ it ∧ l ≠ e ∧ l ≠ it ∧ items.size = n ∧ n ≤ 1000 ∧
      Fr h₀ env.locals s₁.heap m ∧ News h₀ env.locals s₁.heap news ∧ (∀ p ∈ news, p.1 ≠ e ∧ p.1 ≠ it) ∧ env.locals ≠ e ∧ env.locals ≠ it ∧ env.locals ≠ l ∧ h₀.get? e = none ∧ h₀.get? it = none ∧
      (∀ C i x t s₃ m₃ E', i < n → items[i]? = some x → (∀ b o, b ≠ e → b ≠ it → s₁.heap.get? b = some o → s₃.heap.get? b = some o) → s₃.heap.Ns C m₃ → m₃ a = some (.int i t) → m₃ b = some x → wpAny (model prog w) A (eval elt (compEnvC scope cl C env)) (fun y s₄ => EltIs (G i y) s₃ s₄) E' s₃) ∧
      (∀ D h' tk ys n', Fr h₀ env.locals h' (fun z => if z = y then some (.ref D) else m z) → News h₀ env.locals h' ((D, { cls := .type "list", data := .seq ys n' }) :: news) → (∀ p ∈ news, @Ne Nat p.1 D) → Paired G (List.range n) ys.toList → Q .next { s₁ with heap := h', toks := tk })
section
variable {prog : Program} {w : World} {A : Around} {E : Value → Shared → Prop} {s : Shared} {env : Env} {elt iter : PySem.Expr} {a b y : Str} {pa pb tp py : Pos} {kk : Nat} {scope : Scope} {cl : List (Str × Addr)} {pos spos : Pos} {Q : Flow → Shared → Prop}
theorem lcEA_enum (h₀ : Heap) (m : Str → Option Value) (news : List (Addr × Obj)) (n : Nat) (G : Nat → Value → Prop) (hA : A.handled = none)
    (hsw : swapsWith (.ListComp elt [⟨.Tuple [.Name a pa, .Name b pb] kk tp, iter, [], 0⟩] scope pos) (some (.Name y py)) spos.line env = pure true)
    (hclos : closureFor scope env = pure cl) (hcell : ∀ y ∈ scope.names, y.2 ≠ .cell) (hkind : scope.kind = .function)
    (hnames : ∀ y ∈ scope.names, y.2 = .local → scope.names.lookup y.1 = some .local) (ha : scope.names.lookup a = some .local) (hb : scope.names.lookup b = some .local) (hab : a ≠ b)
    (hy : env.kindOf y = some .local) (hp : (env.scope.kind == .class || (env.scope.kind == .module && env.locals != env.globals)) = false) (hs : ∀ x, foldedSetIterable iter env x = pure x)
    (h : wpAny (model prog w) A (eval iter env) (LcEA prog w A env elt a b y scope cl h₀ m news Q n G) E s) :
    wpAny (model prog w) A (exec (.Assign [.Name y py] (.ListComp elt [⟨.Tuple [.Name a pa, .Name b pb] kk tp, iter, [], 0⟩] scope pos) spos) env) Q E s := by
  rw [exec_Assign_Name_used _ _ _ _ hsw]
  refine wpAny_bind (wpAny_standAt (wpAny_bind ?_))
  show wpAny _ A (do let _ ← comprehension (.ListComp elt [⟨.Tuple [.Name a pa, .Name b pb] kk tp, iter, [], 0⟩] scope pos) scope env _ (newList []) false (eval iter env) (some (assign (.Name y py) env))) _ _ s
  refine wpAny_bind (wpAny_mono (wpAny_comprehension_free (use := some (assign (.Name y py) env)) (Q := fun _ s' => Q .next s') rfl hs hclos hkind hnames
    (wpAny_mono h (fun xv s₁ h₁ => ?_) fun _ _ e => e)) (fun _ s' hq => wpAny_pure (wpAny_pure hq)) fun _ _ e => e)
  obtain ⟨e, it, l, items, rfl, hE, hI, hl, hei, hle, hli, rfl, hsz, F, N, hne, hLe, hLi, hLl, he₀, hi₀, helt, hQ⟩ := h₁
  refine wpAny_pyIter_enum hE ?_
  refine wpAny_newObj_type (wpAny_newFunctionEnv hcell (by intro y hy; simp at hy) (fun h₁ hns₁ hsb₁ => ?_) hkind)
  dsimp only at hns₁ hsb₁ ⊢
  generalize hH2 : s₁.heap.push { cls := .type "list", dict := none, data := .seq ([] : List Value).toArray } = H2 at hns₁ hsb₁ ⊢
  have hC : H2.objs.size = s₁.heap.objs.size + 1 := by rw [← hH2, Heap.size_push]
  have hDC : s₁.heap.objs.size ≠ H2.objs.size := by rw [hC]; exact Nat.ne_of_lt (Nat.lt_succ_self _)
  have below : ∀ b, b < s₁.heap.objs.size → b ≠ H2.objs.size ∧ b ≠ s₁.heap.objs.size := fun b hb => ⟨by rw [hC]; exact Nat.ne_of_lt (Nat.lt_succ_of_lt hb), Nat.ne_of_lt hb⟩
  have helt' : e < s₁.heap.objs.size := Heap.lt_size hE
  have hilt : it < s₁.heap.objs.size := by obtain ⟨_, x, _⟩ := hI; exact Heap.lt_size x
  have hllt : l < s₁.heap.objs.size := by obtain ⟨_, x, _⟩ := hl; exact Heap.lt_size x
  have hfp : ∀ b ∈ [e, it, l], b < s₁.heap.objs.size := fun b hb => by
    rcases List.mem_cons.mp hb with rfl | hb
    · exact helt'
    · rcases List.mem_cons.mp hb with rfl | hb
      · exact hilt
      · rw [List.mem_singleton.mp hb]; exact hllt
  have hDf : s₁.heap.objs.size ∉ [e, it, l] := fun hm => Nat.lt_irrefl _ (hfp _ hm)
  have hCf : H2.objs.size ∉ [e, it, l] := fun hm => by have := hfp _ hm; rw [hC] at this; exact Nat.lt_irrefl _ (Nat.lt_of_succ_lt this)
  have old : ∀ b o, s₁.heap.get? b = some o → h₁.get? b = some o := fun b o e => hsb₁.extBut b o (below b (Heap.lt_size e)).1 (Heap.get?_push_of_some _ (hH2 ▸ Heap.get?_push_of_some _ e))
  have hacc : h₁.PlainList s₁.heap.objs.size #[] := ⟨_, hsb₁.extBut _ _ hDC (Heap.get?_push_of_some _ (hH2 ▸ Heap.get?_push_size _ rfl))⟩
  have W := (WalksT.enumerate (prog := prog) (w := w) hA e it l hei hle hli items).toU
  have hst₁ := W.frame 0 _ h₁ ⟨⟨.none, hE⟩, hI, hl⟩ fun b _ o e => old b o e
  have fresh : ∀ a, s₁.heap.objs.size ≤ a → s₁.heap.get? a = none := fun a ha => by
    cases e : s₁.heap.get? a with
    | none => rfl
    | some o' => exact absurd (Heap.lt_size e) (Nat.not_lt.mpr ha)
  have none₀ : ∀ b, s₁.heap.get? b = none → h₀.get? b = none := fun b hb => by
    cases e : h₀.get? b with
    | none => rfl
    | some o => have := F.keep b o e; rw [hb] at this; cases this
  have hLlt : env.locals < s₁.heap.objs.size := F.ns.lt
  have loop : ∀ s₃ : Shared, s₃ = { s₁ with heap := h₁, toks := s₁.toks + ([] : List (Str × Value)).length } →
      codeAny (model prog w) A (.compLoop (.ListComp elt [⟨.Tuple [.Name a pa, .Name b pb] kk tp, iter, [], 0⟩] scope pos) 0 (.ref e) (.ref s₁.heap.objs.size) (compEnvC scope cl H2.objs.size env))
        (compPost (model prog w) A E (some (assign (.Name y py) env)) (fun _ s' => Q .next s') (.ref s₁.heap.objs.size) H2.objs.size) s₃ := by
    rintro s₃ rfl
    refine compLoop_E (cenv := compEnvC scope cl H2.objs.size env) W hA G (lookup_relabel_local ha) (lookup_relabel_local hb) hab (by simp [compEnvC, relabel, hkind]) hDC hDf hCf hst₁ hacc hns₁ ?_ ?_ ?_ (by rw [sizeLine_eq]; omega)
    · rintro i vals ⟨t, x, _, rfl⟩; exact ⟨_, _, rfl⟩
    · rintro i x y' s₂ m₂ hi ⟨t, x', hx, hv⟩ hn₂ h1 h2 hk
      have e1 : x = .int i t := by have := congrArg (fun z => z[0]?) hv; simpa using this
      have e2 : y' = x' := by have := congrArg (fun z => z[1]?) hv; simpa using this
      subst e1; subst e2
      refine wpAny_mono (helt _ i y' t s₂ m₂ _ hi hx (fun b o hbe hbi eb => ?_) hn₂ h1 h2) (fun _ _ q => q) fun _ _ q => q
      exact hk b o (below b (Heap.lt_size eb)).1 (fun hm => by
        rcases List.mem_cons.mp hm with q | hm
        · exact hbe q
        · exact hbi (List.mem_singleton.mp hm)) (below b (Heap.lt_size eb)).2 (old b o eb)
    · intro h' tk m' ys hnC hpl hF hk
      have hLD : env.locals ≠ s₁.heap.objs.size := Nat.ne_of_lt hLlt
      have hLC : env.locals ≠ H2.objs.size := (below _ hLlt).1
      have hLw : env.locals ∉ [e, it] := fun hm => by
        rcases List.mem_cons.mp hm with q | hm
        · exact hLe q
        · exact hLi (List.mem_singleton.mp hm)
      have k1 : ∀ b o, b ≠ e → b ≠ it → s₁.heap.get? b = some o → h'.get? b = some o := fun b o hbe hbi eb => hk b o (below b (Heap.lt_size eb)).1 (fun hm => by
        rcases List.mem_cons.mp hm with q | hm
        · exact hbe q
        · exact hbi (List.mem_singleton.mp hm)) (below b (Heap.lt_size eb)).2 (old b o eb)
      show wpAny _ A (assign (.Name y py) env (.ref s₁.heap.objs.size)) _ _ _
      refine wpAny_assign_Name (wpAny_storeName_local hy (F.ns.at' fun o eb => k1 _ o hLe hLi eb) (fun h₂ hn₂ hs₂ => ?_) hp)
      refine ⟨m', hnC.sameBut hs₂ (Ne.symm hLC), fun h₃ hs₃ => ?_⟩
      have k3 : ∀ b o, b ≠ env.locals → b ≠ e → b ≠ it → s₁.heap.get? b = some o → h₃.get? b = some o := fun b o hb hbe hbi eb =>
        hs₃.extBut b o (below b (Heap.lt_size eb)).1 (hs₂.extBut b o hb (k1 b o hbe hbi eb))
      have hn₃ := hn₂.sameBut hs₃ hLC
      obtain ⟨n', hpl⟩ := hpl
      have hL₀ : h₀.get? env.locals = none := Heap.get?_none_of_le F.above
      refine hQ s₁.heap.objs.size h₃ _ ys n' ⟨hn₃, fun b o eb => k3 b o (fun q => by rw [q, hL₀] at eb; cases eb) (fun q => by rw [q, he₀] at eb; cases eb) (fun q => by rw [q, hi₀] at eb; cases eb) (F.keep b o eb), F.above⟩ ?_ ?_ hF
      · intro q hm
        rcases List.mem_cons.mp hm with rfl | hm
        · exact ⟨hs₃.extBut _ _ hDC (hs₂.extBut _ _ (Ne.symm hLD) hpl), Ne.symm hLD, none₀ _ (fresh _ (Nat.le_refl _))⟩
        · exact ⟨k3 _ _ (N q hm).2.1 (hne q hm).1 (hne q hm).2 (N q hm).1, (N q hm).2⟩
      · intro q hm
        exact Nat.ne_of_lt (Heap.lt_size (N q hm).1)
  exact codeAny_compStart_list (loop _ rfl) (W.self 0 _ _ _ hst₁ (loop _ rfl))
end

section
variable {prog : Program} {w : World} {A : Around} {E : Value → Shared → Prop} {s : Shared} {env : Env} {elt iter : PySem.Expr} {a b y : Str} {pa pb tp py : Pos} {kk : Nat} {scope : Scope} {cl : List (Str × Addr)} {pos spos : Pos} {Q : Flow → Shared → Prop}
theorem lcEA {h₀ : Heap} {m : Str → Option Value} {news : List (Addr × Obj)} (F : Fr h₀ env.locals s.heap m) (N : News h₀ env.locals s.heap news) (n : Nat) (G : Nat → Value → Prop) (hA : A.handled = none)
    (hsw : swapsWith (.ListComp elt [⟨.Tuple [.Name a pa, .Name b pb] kk tp, iter, [], 0⟩] scope pos) (some (.Name y py)) spos.line env = pure true)
    (hclos : closureFor scope env = pure cl) (hcell : ∀ y ∈ scope.names, y.2 ≠ .cell) (hkind : scope.kind = .function)
    (hnames : ∀ y ∈ scope.names, y.2 = .local → scope.names.lookup y.1 = some .local) (ha : scope.names.lookup a = some .local) (hb : scope.names.lookup b = some .local) (hab : a ≠ b)
    (hy : env.kindOf y = some .local) (hp : (env.scope.kind == .class || (env.scope.kind == .module && env.locals != env.globals)) = false) (hs : ∀ x, foldedSetIterable iter env x = pure x)
    (h : wpAny (model prog w) A (eval iter env) (LcEA prog w A env elt a b y scope cl h₀ m news Q n G) E s) :
    wpAny (model prog w) A (exec (.Assign [.Name y py] (.ListComp elt [⟨.Tuple [.Name a pa, .Name b pb] kk tp, iter, [], 0⟩] scope pos) spos) env) Q E s :=
  lcEA_enum h₀ m news n G hA hsw hclos hcell hkind hnames ha hb hab hy hp hs h
theorem enum_src {h₀ : Heap} {L : Addr} (hL : env.locals = L) {m : Str → Option Value} {news : List (Addr × Obj)} {l : Addr} {items : Array Value} {n : Nat} {G : Nat → Value → Prop} (F : Fr h₀ L s.heap m) (N : News h₀ L s.heap news) (hl : s.heap.IsList l items) (hsz : items.size = n) (hn : n ≤ 1000)
    (helt : ∀ C i x t s₃ m₃ E', i < n → items[i]? = some x → Kept s.heap s₃.heap → s₃.heap.Ns C m₃ → m₃ a = some (.int i t) → m₃ b = some x → wpAny (model prog w) A (eval elt (compEnvC scope cl C env)) (fun y s₄ => EltIs (G i y) s₃ s₄) E' s₃)
    (hQ : ∀ D h' tk ys n', Fr h₀ L h' (fun z => if z = y then some (.ref D) else m z) → News h₀ L h' ((D, { cls := .type "list", data := .seq ys n' }) :: news) → (∀ p ∈ news, @Ne Nat p.1 D) → Paired G (List.range n) ys.toList → Q .next { s with heap := h', toks := tk }) :
    wpAny (model prog w) A (call (.type "enumerate") [.ref l]) (LcEA prog w A env elt a b y scope cl h₀ m news Q n G) E s := by
  subst hL
  refine call_enumerate_list hl fun h' hE hI hz hk => ?_
  have hllt : l < s.heap.objs.size := by obtain ⟨_, x, _⟩ := hl; exact Heap.lt_size x
  have hLlt : env.locals < s.heap.objs.size := F.ns.lt
  have n1 : ∀ {b : Addr}, b < s.heap.objs.size → b ≠ s.heap.objs.size + 1 := fun hb => Nat.ne_of_lt (Nat.lt_succ_of_lt hb)
  have none₀ : ∀ b, s.heap.objs.size ≤ b → h₀.get? b = none := fun b hb => by
    cases e : h₀.get? b with
    | none => rfl
    | some o => exact absurd (Heap.lt_size (F.keep b o e)) (Nat.not_lt.mpr hb)
  refine ⟨_, _, l, items, rfl, hE, hI, ?_, Nat.succ_ne_self _, n1 hllt, Nat.ne_of_lt hllt, hsz, hn, F.keeps hk, N.grown hk, fun p hm => ⟨n1 (Heap.lt_size (N p hm).1), Nat.ne_of_lt (Heap.lt_size (N p hm).1)⟩, n1 hLlt, Nat.ne_of_lt hLlt, fun e => ?_, none₀ _ (Nat.le_succ _), none₀ _ (Nat.le_refl _), ?_, ?_⟩
  · obtain ⟨o, e, r⟩ := hl
    exact ⟨o, hk _ _ e, r⟩
  · obtain ⟨oL, es, nn, e1, d1, _⟩ := F.ns
    obtain ⟨o, e2, _, nl, d2⟩ := hl
    rw [← e, e1] at e2
    cases e2
    rw [d1] at d2; cases d2
  · intro C i x t s₃ m₃ E' hi hx hk3 hn3 h1 h2
    exact helt C i x t s₃ m₃ E' hi hx (fun b o e => hk3 b o (n1 (Heap.lt_size e)) (Nat.ne_of_lt (Heap.lt_size e)) (hk b o e)) hn3 h1 h2
  · exact hQ
end
def mvI (i : Nat) (z : Int) : Int := if i = 0 ∧ 25 < z ∧ z < 52 then z - 26 else if 0 < i ∧ z < 26 then z + 26 else z
theorem mvI_bd (i : Nat) {z : Int} (h0 : 0 ≤ z) (h1 : z < 64) : 0 ≤ mvI i z ∧ mvI i z < 64 := by
  unfold mvI
  split
  · omega
  · split <;> omega
end
section
/-- all stands as it stood, but that the slots of L may have turned -/
def TnB (X : List Addr) (L : Addr) (h h' : Heap) : Prop := (∀ b o, b ∉ X → b ≠ L → h.get? b = some o → h'.get? b = some o) ∧ ∀ o, h.get? L = some o → ∃ sl, h'.get? L = some { o with slots := sl }
abbrev Tn (L : Addr) (h h' : Heap) : Prop := TnB [] L h h'
def TnS (L : Addr) (s s' : Shared) : Prop := ∃ h' tk, s' = { s with heap := h', toks := tk } ∧ Tn L s.heap h'
theorem TnB.refl (X : List Addr) (L : Addr) (h : Heap) : TnB X L h h := ⟨fun _ _ _ _ e => e, fun o e => ⟨o.slots, e⟩⟩
theorem TnB.trans {X : List Addr} {L : Addr} {a b c : Heap} (x : TnB X L a b) (y : TnB X L b c) : TnB X L a c := ⟨fun p o h1 h2 e => y.1 p o h1 h2 (x.1 p o h1 h2 e), fun o e => by
  obtain ⟨s1, e1⟩ := x.2 o e
  obtain ⟨s2, e2⟩ := y.2 _ e1
  exact ⟨s2, e2⟩⟩
theorem TnB.widen {X : List Addr} {L : Addr} {a b : Heap} (x : Tn L a b) : TnB X L a b := ⟨fun p o _ h2 e => x.1 p o (fun h => nomatch h) h2 e, x.2⟩
theorem tn_kept {L : Addr} {a b : Heap} (k : Kept a b) : Tn L a b := ⟨fun p o _ _ e => k p o e, fun o e => ⟨o.slots, k _ _ e⟩⟩
theorem tn_turn {L : Addr} {a b : Heap} (k : KtsTurn [L] a b) : Tn L a b := ⟨fun p o _ h e => k.other p o e (fun hm => h (List.mem_singleton.mp hm)), fun o e => k.frame L o e (List.Mem.head _)⟩
theorem ns_tn {L : Addr} {a b : Heap} {m : Str → Option Value} (x : Tn L a b) (n : a.Ns L m) : b.Ns L m := by
  obtain ⟨o, es, ep, e, r⟩ := n
  obtain ⟨sl, e2⟩ := x.2 o e
  exact ⟨_, es, ep, e2, r⟩
theorem fr_tn {h₀ a b : Heap} {L : Addr} {m : Str → Option Value} (x : Tn L a b) (F : Fr h₀ L a m) : Fr h₀ L b m :=
  fr_but F (ns_tn x F.ns) fun p o h e => x.1 p o (fun h => nomatch h) h e
theorem news_tn {h₀ a b : Heap} {L : Addr} {news : List (Addr × Obj)} (x : Tn L a b) (N : News h₀ L a news) : News h₀ L b news := news_but N fun p o h e => x.1 p o (fun h => nomatch h) h e

section
variable {prog : Program} {w : World} {A : Around} {R : Result → Shared → Prop} {s : Shared}
theorem compLoop_T {elt iter : PySem.Expr} {x : Str} {px : Pos} {scope : Scope} {pos : Pos} {I ax D L : Addr} {cenv : Env} {m : Str → Option Value} {items : Array Value}
    (F : Value → Value → Prop) (hh : A.handled = none)
    (hx : cenv.kindOf x = some .local) (hp : (cenv.scope.kind == .class || (cenv.scope.kind == .module && cenv.locals != cenv.globals)) = false)
    (hDI : D ≠ I) (hDC : D ≠ cenv.locals) (hIC : I ≠ cenv.locals) (haI : ax ≠ I) (haC : ax ≠ cenv.locals) (haD : ax ≠ D) (hLI : L ≠ I) (hLC : L ≠ cenv.locals) (hLD : L ≠ D) (hLa : L ≠ ax)
    (hit : s.heap.IsListIter I ax 0) (hl : s.heap.IsList ax items) (hacc : s.heap.PlainList D #[]) (hn : s.heap.Ns cenv.locals m)
    (helt : ∀ v s₂ m₂, v ∈ items.toList → s₂.heap.Ns cenv.locals m₂ → m₂ x = some v → TnB [cenv.locals, I, D] L s.heap s₂.heap →
      wpAny (model prog w) A (eval elt cenv) (fun y s₃ => F v y ∧ TnS L s₂ s₃) (notedBy (model prog w) A cenv fun e s' => R (.error e) s') s₂)
    (hR : ∀ h' tk m' ys, h'.Ns cenv.locals m' → h'.PlainList D ys → Paired F items.toList ys.toList → TnB [cenv.locals, I, D] L s.heap h' → R (.ok .next) { s with heap := h', toks := tk })
    (hsz : items.size ≤ sizeLine) :
    codeAny (model prog w) A (.compLoop (.ListComp elt [⟨.Name x px, iter, [], 0⟩] scope pos) 0 (.ref I) (.ref D) cenv) R s := by
  refine codeAny_compLoop_tests
    (fun k s' => ∃ h' tk m' ys i, s' = { s with heap := h', toks := tk } ∧ h'.IsListIter I ax i ∧ h'.IsList ax items ∧ h'.PlainList D ys ∧ h'.Ns cenv.locals m' ∧
      Paired F (items.toList.take i) ys.toList ∧ i ≤ items.size ∧ k = items.size + 1 - i ∧ TnB [cenv.locals, I, D] L s.heap h') ?_ (items.size + 1)
    ⟨s.heap, s.toks, m, #[], 0, rfl, hit, hl, hacc, hn, by simpa using Paired.nil, Nat.zero_le _, rfl, TnB.refl _ _ _⟩
  rintro k s' ⟨H, tk, m', ys, i, rfl, hit', hl', hacc', hn', hF, hi, rfl, hk⟩
  have but : ∀ {a : Addr} {h1 h2 : Heap}, a ∈ [cenv.locals, I, D] → a ≠ L → (∀ b o, b ≠ a → h1.get? b = some o → h2.get? b = some o) → TnB [cenv.locals, I, D] L h1 h2 := fun ha hL q =>
    ⟨fun b o hb _ e => q b o (fun e' => hb (e' ▸ ha)) e, fun o e => ⟨o.slots, q _ _ (Ne.symm hL) e⟩⟩
  cases hv : items[i]? with
  | none =>
    have hle : items.toList.length ≤ i := by simpa using hv
    refine wpAny_pyNext_list_end hh hit' hl' hv fun h₁ he₁ => ?_
    refine hR h₁ tk m' ys (hn'.extBut he₁ (Ne.symm hIC)) (hacc'.extBut he₁ hDI) ?_ (hk.trans (but (by simp) (Ne.symm hLI) fun b o hb e => he₁ b o hb e))
    rwa [List.take_of_length_le hle] at hF
  | some v =>
    have hlt : i < items.size := (Array.getElem?_eq_some_iff.mp hv).1
    have hmem : v ∈ items.toList := by obtain ⟨h1, rfl⟩ := Array.getElem?_eq_some_iff.mp hv; exact Array.mem_toList_iff.mpr (Array.getElem_mem h1)
    have hvl : items.toList[i]? = some v := by simpa using hv
    refine wpAny_pyNext_list_item hit' hl' hv fun h₁ hit₁ hs₁ => ?_
    refine wpAny_assign_Name (wpAny_storeName_local hx (hn'.sameBut hs₁ (Ne.symm hIC)) (fun h₂ hn₂ hs₂ => ?_) hp)
    refine wpAny_tests_nil ?_
    have k₁ := but (by simp) (Ne.symm hLI) fun b o hb e => hs₁.extBut b o hb e
    have k₂ := but (by simp) (Ne.symm hLC) fun b o hb e => hs₂.extBut b o hb e
    have hkk := (hk.trans k₁).trans k₂
    simp only [if_true]
    refine wpAny_mono (helt v _ _ hmem hn₂ (by simp) hkk) (fun y s₄ h₄ => ?_) fun _ _ e => e
    obtain ⟨hFy, h₄, tk₄, rfl, hk₄⟩ := h₄
    have up : ∀ b o, b ≠ L → h₂.get? b = some o → h₄.get? b = some o := fun b o hb e => hk₄.1 b o (fun h => nomatch h) hb e
    have hit₄ : h₄.IsListIter I ax (i + 1) := (hit₁.extBut hs₂.extBut hIC).at fun o e => up _ o (Ne.symm hLI) e
    have hl₄ : h₄.IsList ax items := ((hl'.extBut hs₁.extBut haI).extBut hs₂.extBut haC).at fun o e => up _ o (Ne.symm hLa) e
    have hacc₄ : h₄.PlainList D ys := ((hacc'.extBut hs₁.extBut hDI).extBut hs₂.extBut hDC).at fun o e => up _ o (Ne.symm hLD) e
    have hn₄ := hn₂.at' fun o e => up _ o (Ne.symm hLC) e
    have hys : ys.size ≤ sizeLine := by
      have e1 := hF.length
      rw [List.length_take] at e1
      have e4 : ys.toList.length = ys.size := by simp
      omega
    refine wpAny_list_append_plain (hsz := hys) hacc₄ fun h₅ hl₅ hs₅ => ?_
    refine ⟨items.size + 1 - (i + 1), by omega, h₅, tk₄, _, ys.push y, i + 1, rfl, hit₄.extBut hs₅.extBut (Ne.symm hDI), hl₄.extBut hs₅.extBut haD, hl₅, hn₄.sameBut hs₅ (Ne.symm hDC), ?_, hlt, rfl,
      (hkk.trans hk₄.widen).trans (but (by simp) (Ne.symm hLD) fun b o hb e => hs₅.extBut b o hb e)⟩
    rw [List.take_add_one, hvl]
    simpa using Paired.snoc hF hFy
end

/-- the source stands: a list; an element may turn the slots of L -/
def LcLT (prog : Program) (w : World) (A : Around) (env : Env) (elt : PySem.Expr) (x : Str) (scope : Scope) (cl : List (Str × Addr)) (Q : Value → Shared → Prop) (L : Addr) (G : Value → Value → Prop) (xv : Value) (s₁ : Shared) : Prop :=
  ∃ a items, xv = .ref a ∧ s₁.heap.IsList a items ∧ items.size ≤ 1000 ∧ L ≠ a ∧ L < s₁.heap.objs.size ∧
      (∀ C v s₃ m₃ E', v ∈ items.toList → Tn L s₁.heap s₃.heap → s₃.heap.Ns C m₃ → m₃ x = some v → wpAny (model prog w) A (eval elt (compEnvC scope cl C env)) (fun y s₄ => G v y ∧ TnS L s₃ s₄) E' s₃) ∧
      (∀ D h' tk ys, h'.PlainList D ys → Paired G items.toList ys.toList → Tn L s₁.heap h' → Q (.ref D) { s₁ with heap := h', toks := tk })
section
variable {prog : Program} {w : World} {A : Around} {E : Value → Shared → Prop} {s : Shared} {env : Env} {elt iter : PySem.Expr} {x : Str} {px : Pos} {scope : Scope} {cl : List (Str × Addr)} {pos : Pos} {Q : Value → Shared → Prop}
theorem lcT_list (L : Addr) (G : Value → Value → Prop) (hA : A.handled = none)
    (hclos : closureFor scope env = pure cl) (hcell : ∀ y ∈ scope.names, y.2 ≠ .cell) (hkind : scope.kind = .function)
    (hnames : ∀ y ∈ scope.names, y.2 = .local → scope.names.lookup y.1 = some .local) (hx : scope.names.lookup x = some .local) (hs : ∀ x, foldedSetIterable iter env x = pure x)
    (h : wpAny (model prog w) A (eval iter env) (LcLT prog w A env elt x scope cl Q L G) E s) :
    wpAny (model prog w) A (eval (.ListComp elt [⟨.Name x px, iter, [], 0⟩] scope pos) env) Q E s := by
  rw [eval_ListComp]
  refine wpAny_comprehension_free (use := none) rfl hs hclos hkind hnames (wpAny_mono h (fun xv s₁ h₁ => ?_) fun _ _ e => e)
  obtain ⟨a, items, rfl, hl, hsz, hLa, hLlt, he, hQ⟩ := h₁
  refine wpAny_pyIter_list hl ?_
  have hlt : a < s₁.heap.objs.size := by obtain ⟨o, ho, _⟩ := hl; exact Heap.lt_size ho
  have hne : a ≠ s₁.heap.objs.size := Nat.ne_of_lt hlt
  generalize hH1 : s₁.heap.push { cls := .type "list_iterator", data := .fields #[.ref a, .int 0 0] } = H1
  have hH1s : H1.objs.size = s₁.heap.objs.size + 1 := by rw [← hH1, Heap.size_push]
  refine wpAny_newObj_type (wpAny_newFunctionEnv hcell (by intro y hy; simp at hy) (fun h₁ hns₁ hsb₁ => ?_) hkind)
  dsimp only at hns₁ hsb₁ ⊢
  generalize hH2 : H1.push { cls := .type "list", dict := none, data := .seq ([] : List Value).toArray } = H2 at hns₁ hsb₁ ⊢
  have hC : H2.objs.size = s₁.heap.objs.size + 2 := by rw [← hH2, Heap.size_push, hH1s]
  have hDC : H1.objs.size ≠ H2.objs.size := by rw [hC, hH1s]; exact Nat.ne_of_lt (Nat.lt_succ_self _)
  have b1 : ∀ {b : Addr}, b < s₁.heap.objs.size → b ≠ H2.objs.size := fun hb => by rw [hC]; exact Nat.ne_of_lt (Nat.lt_succ_of_lt (Nat.lt_succ_of_lt hb))
  have b2 : ∀ {b : Addr}, b < s₁.heap.objs.size → b ≠ H1.objs.size := fun hb => by rw [hH1s]; exact Nat.ne_of_lt (Nat.lt_succ_of_lt hb)
  have hIC : s₁.heap.objs.size ≠ H2.objs.size := by rw [hC]; exact Nat.ne_of_lt (Nat.lt_succ_of_lt (Nat.lt_succ_self _))
  have hDI : H1.objs.size ≠ s₁.heap.objs.size := by rw [hH1s]; exact Nat.succ_ne_self _
  have hA1 : Kept s₁.heap H1 := fun b o e => hH1 ▸ Heap.get?_push_of_some _ e
  have hA2 : Kept H1 H2 := fun b o e => hH2 ▸ Heap.get?_push_of_some _ e
  have hI1 : H1.get? s₁.heap.objs.size = some { cls := .type "list_iterator", data := .fields #[.ref a, .int 0 0] } := hH1 ▸ Heap.get?_push_size _ rfl
  have hD2 : H2.get? H1.objs.size = some { cls := .type "list", dict := none, data := .seq ([] : List Value).toArray } := hH2 ▸ Heap.get?_push_size _ rfl
  have old : Kept s₁.heap h₁ := fun b o e => hsb₁.extBut b o (b1 (Heap.lt_size e)) (Heap.get?_push_of_some _ (hA2 _ _ (hA1 _ _ e)))
  have hit : h₁.IsListIter s₁.heap.objs.size a 0 := ⟨_, hsb₁.extBut _ _ hIC (Heap.get?_push_of_some _ (hA2 _ _ hI1)), rfl, rfl⟩
  have hacc : h₁.PlainList H1.objs.size #[] := ⟨_, hsb₁.extBut _ _ hDC (Heap.get?_push_of_some _ hD2)⟩
  have notin : ∀ {b : Addr}, b < s₁.heap.objs.size → b ∉ [H2.objs.size, s₁.heap.objs.size, H1.objs.size] := fun hb hm => by
    rcases List.mem_cons.mp hm with q | hm
    · exact b1 hb q
    · rcases List.mem_cons.mp hm with q | hm
      · exact Nat.ne_of_lt hb q
      · exact b2 hb (List.mem_singleton.mp hm)
  have down : ∀ {h2 : Heap}, TnB [H2.objs.size, s₁.heap.objs.size, H1.objs.size] L h₁ h2 → Tn L s₁.heap h2 := fun t =>
    ⟨fun b o _ hb e => t.1 b o (notin (Heap.lt_size e)) hb (old b o e), fun o e => t.2 o (old _ _ e)⟩
  have loop : ∀ s₃ : Shared, s₃ = { s₁ with heap := h₁, toks := s₁.toks + ([] : List (Str × Value)).length } →
      codeAny (model prog w) A (.compLoop (.ListComp elt [⟨.Name x px, iter, [], 0⟩] scope pos) 0 (.ref s₁.heap.objs.size) (.ref H1.objs.size) (compEnvC scope cl H2.objs.size env))
        (compPost (model prog w) A E none Q (.ref H1.objs.size) H2.objs.size) s₃ := by
    rintro s₃ rfl
    refine compLoop_T (L := L) (cenv := compEnvC scope cl H2.objs.size env) G hA (lookup_relabel_local hx) (by simp [compEnvC, relabel, hkind]) hDI hDC hIC hne (b1 hlt) (b2 hlt) (Nat.ne_of_lt hLlt) (b1 hLlt) (b2 hLlt) hLa hit (isl_keep hl old) hacc hns₁
      (fun v s₂ m₂ hv hn hm hk => he _ v s₂ m₂ _ hv (down hk) hn hm) (fun h' tk m' ys hn hpl hF hk => ?_) (by rw [sizeLine_eq]; omega)
    refine ⟨m', hn, fun h'' hs'' => ?_⟩
    refine hQ _ h'' tk ys (hpl.extBut hs''.extBut hDC) hF ?_
    have d := down hk
    refine ⟨fun b o hx hb e => hs''.extBut b o (b1 (Heap.lt_size e)) (d.1 b o hx hb e), fun o e => ?_⟩
    obtain ⟨sl, e2⟩ := d.2 o e
    exact ⟨sl, hs''.extBut _ _ (b1 hLlt) e2⟩
  exact codeAny_compStart_list (loop _ rfl) (wpAny_pyIter_listiter hit (loop _ rfl))
end

/-- the source stands: a text -/
def LcS (prog : Program) (w : World) (A : Around) (env : Env) (elt : PySem.Expr) (x : Str) (ifs : List PySem.Expr) (scope : Scope) (cl : List (Str × Addr)) (Q : Value → Shared → Prop) (p : Value → Bool) (G : Value → Value → Prop) (xv : Value) (s₁ : Shared) : Prop :=
  ∃ x' t, xv = .str x' t ∧ x'.cps.size ≤ 1000 ∧
      (∀ C v s₃ m₃ E', (∃ c u, c ∈ x'.cps.toList ∧ v = .str ⟨#[c]⟩ u) → Kept s₁.heap s₃.heap → s₃.heap.Ns C m₃ → m₃ x = some v → wpAny (model prog w) A (compTests ifs (compEnvC scope cl C env)) (fun ok s₄ => EltIs (ok = p v) s₃ s₄) E' s₃) ∧
      (∀ C v s₃ m₃ E', (∃ c u, c ∈ x'.cps.toList ∧ v = .str ⟨#[c]⟩ u) → p v = true → Kept s₁.heap s₃.heap → s₃.heap.Ns C m₃ → m₃ x = some v → wpAny (model prog w) A (eval elt (compEnvC scope cl C env)) (fun y s₄ => EltIs (G v y) s₃ s₄) E' s₃) ∧
      (∀ D h' tk ys (vs : List Value), h'.PlainList D ys → vs.length = x'.cps.size → (∀ (j : Nat) (v : Value), vs[j]? = some v → SignAt x' j v) → Paired G (vs.filter p) ys.toList → Kept s₁.heap h' → Q (.ref D) { s₁ with heap := h', toks := tk })
section
variable {prog : Program} {w : World} {A : Around} {E : Value → Shared → Prop} {s : Shared} {env : Env} {elt iter : PySem.Expr} {x : Str} {px : Pos} {ifs : List PySem.Expr} {scope : Scope} {cl : List (Str × Addr)} {pos : Pos} {Q : Value → Shared → Prop}
theorem lc_str (p : Value → Bool) (G : Value → Value → Prop) (hA : A.handled = none)
    (hclos : closureFor scope env = pure cl) (hcell : ∀ y ∈ scope.names, y.2 ≠ .cell) (hkind : scope.kind = .function)
    (hnames : ∀ y ∈ scope.names, y.2 = .local → scope.names.lookup y.1 = some .local) (hx : scope.names.lookup x = some .local) (hs : ∀ x, foldedSetIterable iter env x = pure x)
    (h : wpAny (model prog w) A (eval iter env) (LcS prog w A env elt x ifs scope cl Q p G) E s) :
    wpAny (model prog w) A (eval (.ListComp elt [⟨.Name x px, iter, ifs, 0⟩] scope pos) env) Q E s := by
  refine wpAny_ListComp_free p G hclos hcell hkind hnames hx (wpAny_mono h (fun xv s₁ h₁ => ?_) fun _ _ e => e) hs
  obtain ⟨x', t, rfl, hsz, ht, he, hQ⟩ := h₁
  refine wpAny_pyIter_str fun o St W hst => ?_
  have old : ∀ {s₃ : Shared}, (∀ b o', b ∉ [s₁.heap.objs.size] → (s₁.heap.push o).get? b = some o' → s₃.heap.get? b = some o') → Kept s₁.heap s₃.heap :=
    fun hk b o e => hk b o (fun hm => absurd (Heap.lt_size e) (by rw [List.mem_singleton.mp hm]; exact Nat.lt_irrefl _)) (Heap.get?_push_of_some _ e)
  have sg : ∀ {i v}, SignAt x' i v → ∃ c u, c ∈ x'.cps.toList ∧ v = .str ⟨#[c]⟩ u := fun ⟨c, u, hc, e⟩ => ⟨c, u, Array.mem_toList_iff.mpr (Array.mem_of_getElem? hc), e⟩
  refine ⟨_, _, _, _, _, _, rfl, W A hA, by rw [sizeLine_eq]; omega, hst, ?_, ⟨?_, ?_⟩, ?_⟩
  · intro b hb
    rw [List.mem_singleton.mp hb, Heap.size_push]
    exact Nat.lt_succ_self _
  · intro C i v s₃ m₃ E' _ hP hn hm hk _
    exact ht C v s₃ m₃ E' (sg hP) (old hk) hn hm
  · intro C i v s₃ m₃ E' _ hP hpv hn hm hk _
    exact he C v s₃ m₃ E' (sg hP) hpv (old hk) hn hm
  · intro D h' tk ys vs hD _ hpl hlen hP hF hk
    exact hQ D h' tk ys vs hpl hlen hP hF (old (s₃ := { s₁ with heap := h' }) hk)
end
end
section
namespace R
theorem bytes_len_slot : typeLookup (.type "bytes") "__len__" = pure (some (.builtin "bytes.__len__")) := by rw [typeLookup_type, builtinLookup_eq_fast]; kernel_rfl
def ByteAt (b : Array UInt8) (i : Nat) (v : Value) : Prop := ∃ c u, b[i]? = some c ∧ v = .int (c.toNat : Int) u
section
variable {prog : Program} {w : World} {A : Around} {E : Value → Shared → Prop} {s : Shared}
theorem extend_bytes {R : Result → Shared → Prop} (hh : A.handled = none) (x : Array UInt8) (t : Tok) (S : Addr) (res : Value) (c₀ : Nat) (hS : s.heap.get? S = some { cls := .type "list", data := .seq #[] c₀ })
    (hR : ∀ h' tk acc' c', (∀ b o, b ≠ S → s.heap.get? b = some o → h'.get? b = some o) → h'.get? S = some { cls := .type "list", dict := none, data := .seq acc' c', slots := #[] } →
      ItemsOf (ByteAt x) acc' x.size → R (.ok (.ret res)) { s with heap := h', toks := tk }) (hn : x.size ≤ sizeLine) :
    wpAny (model prog w) A.in1 (Builtin.List.listExtendWith (.ref S) (.bytes x t) res)
      (fun fin s' => match fin with | .done f => R (.ok f) s' | .again c' => c'.quiet = true ∧ codeAny (model prog w) A c' R s') (fun e s' => R (.error e) s') s := by
  have hSI : S ≠ s.heap.objs.size := Nat.ne_of_lt (Heap.lt_size hS)
  have hSf : S ∉ [s.heap.objs.size] := fun hm => hSI (List.mem_singleton.mp hm)
  unfold Builtin.List.listExtendWith
  refine wpAny_bind (wpAny_typeOf (T := "bytes") (v := .bytes x t) rfl ?_)
  have h1 : Builtin.List.listSameRef (.ref S) (.bytes x t) = false := rfl
  have h2 : (Value.type "bytes" == Value.type "list") = false := by decide
  have h3 : (Value.type "bytes" == Value.type "tuple") = false := by decide
  simp only [h1, h2, h3, Bool.or_false, Bool.false_eq_true, if_false]
  refine wpAny_bind (KBw.pyIter_bytes ?_)
  refine wpAny_bind (wpAny_holding ?_)
  unfold Builtin.List.listLengthHint
  refine wpAny_bind (wpAny_specialOf (T := "bytes") (v := .bytes x t) rfl bytes_len_slot ?_)
  wp_delta
  refine wpAny_bind (wpAny_isInstance (T := "bytes") (v := .bytes x t) (b := true) rfl (by rw [isSubtype_type]; kernel_rfl) ?_)
  show wpAny _ _ (typeOf (Value.bytes x t) >>= _) _ _ _
  refine wpAny_bind (wpAny_typeOf (T := "bytes") (v := .bytes x t) rfl ?_)
  refine wpAny_pure ?_
  rw [if_neg (by decide)]
  refine wpAny_pure ⟨plainId_quiet F.plain_extend_loop _, codeAny_extend_loopS (KBw.walks (A := A.in1) hh s.heap.objs.size x t).toS hn _ hSf _ x.size 0 _ _ _ rfl (Nat.zero_le _) ⟨_, Heap.get?_push_size _ rfl, rfl, rfl⟩ (Heap.get?_push_of_some _ hS) (ItemsOf.nil _) fun s' acc' c' hm hS' hacc => ?_⟩
  rw [Moved.eq_with hm]
  refine hR s'.heap s'.toks acc' c' (fun b ob hb e => hm.heap b ob (fun hmem => ?_) (Heap.get?_push_of_some _ e)) hS' hacc
  rcases List.mem_cons.mp hmem with e' | hmem
  · exact hb e'
  · exact absurd (Heap.lt_size e) (by rw [List.mem_singleton.mp hmem]; exact Nat.lt_irrefl _)
theorem list_init_bytes {R : Result → Shared → Prop} (hh : A.handled = none) (x : Array UInt8) (t : Tok) (S : Addr) (hS : s.heap.get? S = some { cls := .type "list", data := .seq #[] })
    (hR : ∀ h' tk acc' c', (∀ b o, b ≠ S → s.heap.get? b = some o → h'.get? b = some o) → h'.get? S = some { cls := .type "list", dict := none, data := .seq acc' c', slots := #[] } →
      ItemsOf (ByteAt x) acc' x.size → R (.ok (.ret .none)) { s with heap := h', toks := tk }) (hn : x.size ≤ sizeLine) :
    wpAny (model prog w) A.in1 (Builtin.«list.__init__» ⟨[.ref S, .bytes x t], []⟩)
      (fun fin s' => match fin with | .done f => R (.ok f) s' | .again c' => c'.quiet = true ∧ codeAny (model prog w) A c' R s') (fun e s' => R (.error e) s') s := by
  show wpAny _ _ (do let old ← Builtin.List.listItems (.ref S); Builtin.List.listUpdate (.ref S) (fun _ => #[]); letGo old.toList.reverse; Builtin.List.listExtendWith (.ref S) (.bytes x t) .none) _ _ s
  refine wpAny_bind ?_
  unfold Builtin.List.listItems
  refine wpAny_bind (wpAny_seqItems hS rfl (wpAny_pure ?_))
  show wpAny _ _ (updateSeq S (fun _ => #[]) >>= fun _ => letGo (#[] : Array Value).toList.reverse >>= fun _ => Builtin.List.listExtendWith (.ref S) (.bytes x t) .none) _ _ s
  refine wpAny_bind (wpAny_updateSeq hS rfl ?_)
  have hS₂ := Heap.get?_update_self (Obj.mapSeq (fun _ => (#[] : Array Value))) hS rfl
  have oth : ∀ b o, b ≠ S → s.heap.get? b = some o → (s.heap.update S (Obj.mapSeq (fun _ => (#[] : Array Value)))).get? b = some o :=
    fun b o hb e => (Heap.get?_update_other _ _ (Ne.symm hb)).trans e
  refine wpAny_bind (wpAny_letGo ?_)
  refine extend_bytes (hn := hn) hh x t S .none _ hS₂ fun h' tk acc' c' hk hS' hacc => ?_
  exact hR h' tk acc' c' (fun b o hb e => hk b o hb (oth b o hb e)) hS' hacc
theorem call_list_bytes {Q : Value → Shared → Prop} (hh : A.handled = none) (x : Array UInt8) (t : Tok)
    (hQ : ∀ h' tk acc' c', (∀ b o, s.heap.get? b = some o → h'.get? b = some o) →
      h'.get? s.heap.objs.size = some { cls := .type "list", dict := none, data := .seq acc' c', slots := #[] } → ItemsOf (ByteAt x) acc' x.size → Q (.ref s.heap.objs.size) { s with heap := h', toks := tk }) (hn : x.size ≤ sizeLine) :
    wpAny (model prog w) A (PySem.call (.type "list") [.bytes x t]) Q E s := by
  refine callType_codes (Q₁ := fun obj s₁ => obj = .ref s.heap.objs.size ∧ s₁ = { s with heap := s.heap.push { cls := .type "list", data := .seq #[] } }) F.called_list (F.typeCall_list_1 _) F.entry_list_init
    (code_list_new _ ⟨rfl, rfl⟩) fun obj s₁ h₁ => ?_
  obtain ⟨rfl, rfl⟩ := h₁
  have hS : (s.heap.push { cls := .type "list", data := .seq #[] }).get? s.heap.objs.size = some { cls := .type "list", data := .seq #[] } := Heap.get?_push_size _ rfl
  refine ⟨⟨_, hS, rfl⟩, F.args_list_init_2 _ _, list_init_bytes (A := A.in1) (hn := hn) hh x t _ hS fun h' tk acc' c' hk hS' hacc => ?_⟩
  exact ⟨rfl, hQ h' tk acc' c' (fun b o e => hk b o (Nat.ne_of_lt (Heap.lt_size e)) (Heap.get?_push_of_some _ e)) hS' hacc⟩
end
end R
end
section
/-- a fact kept out of omega's sight -/
def Hid (P : Prop) : Prop := P
/-- some entries of the ledger alone -/
theorem News.pick {h₀ h : Heap} {L : Addr} {news : List (Addr × Obj)} (N : News h₀ L h news) (is : List Nat) : News h₀ L h (is.filterMap fun i => news[i]?) := fun p hp => by
  obtain ⟨i, _, e⟩ := List.mem_filterMap.mp hp
  exact N p (List.mem_of_getElem? e)
theorem ints_rep (t : Tok) : ∀ n : Nat, IntsAre (List.replicate n (Value.int 0 t)) (List.replicate n 0)
  | 0 => .nil
  | n + 1 => .cons 0 t (ints_rep t n)
theorem rep_flat {α : Type} (v : α) : ∀ n : Nat, (List.replicate n [v]).flatten = List.replicate n v
  | 0 => rfl
  | n + 1 => by rw [List.replicate_succ, List.flatten_cons, rep_flat v n]; rfl
theorem ints3 {vs : List Value} {zs : List Int} (h : IntsAre vs zs) (hl : zs.length = 3) : ∃ x0 x1 x2 u0 u1 u2, vs = [.int x0 u0, .int x1 u1, .int x2 u2] ∧ zs = [x0, x1, x2] := by
  obtain _ | ⟨x0, u0, _ | ⟨x1, u1, _ | ⟨x2, u2, _ | ⟨_, _, _⟩⟩⟩⟩ := h <;> simp at hl
  exact ⟨_, _, _, _, _, _, rfl, rfl⟩
theorem ints4 {vs : List Value} {zs : List Int} (h : IntsAre vs zs) (hl : zs.length = 4) : ∃ x0 x1 x2 x3 u0 u1 u2 u3, vs = [.int x0 u0, .int x1 u1, .int x2 u2, .int x3 u3] ∧ zs = [x0, x1, x2, x3] := by
  obtain _ | ⟨x0, u0, _ | ⟨x1, u1, _ | ⟨x2, u2, _ | ⟨x3, u3, _ | ⟨_, _, _⟩⟩⟩⟩⟩ := h <;> simp at hl
  exact ⟨_, _, _, _, _, _, _, _, rfl, rfl⟩
theorem ints_at {vs : List Value} {ns : List Int} (h : IntsAre vs ns) : ∀ {i : Nat} {x : Value}, vs[i]? = some x → ∃ u, x = .int (ns.getD i 0) u := by
  induction h with
  | nil => intro i x e; simp at e
  | cons n u _ ih =>
    intro i x e
    match i with
    | 0 => exact ⟨u, (Option.some.inj e).symm⟩
    | i + 1 => exact ih (i := i) e
theorem pad_bd {B : Int} {ns : List Int} {k : Nat} (hB : 0 < B) (hb : ∀ a ∈ ns, 0 ≤ a ∧ a < B) : ∀ a ∈ ns ++ List.replicate k 0, 0 ≤ a ∧ a < B := fun a ha => by
  rcases List.mem_append.mp ha with h | h
  · exact hb a h
  · rw [(List.mem_replicate.mp h).2]; exact ⟨Int.le_refl _, hB⟩
section
variable {prog : Program} {w : World} {A : Around} {E : Value → Shared → Prop} {s : Shared} {Q : Value → Shared → Prop} {h₀ : Heap} {L : Addr} {m : Str → Option Value} {news : List (Addr × Obj)}
theorem lenI {l : Addr} {its : Array Value} {n : Nat} (hl : s.heap.IsList l its) (hs : its.size = n) (hn : n ≤ 1000) (h : ∀ u tk, Q (.int (n : Int) u) { s with toks := tk }) : wpAny (model prog w) A (call (.builtin "len") [.ref l]) Q E s := by
  subst hs
  have e63 : (2 : Int) ^ 63 = 9223372036854775808 := by decide
  exact len_list hl (by rw [e63]; omega) (h _ _)
theorem lenIA {l : Addr} {its : Array Value} {n : Nat} (h : ∀ u tk, Q (.int (n : Int) u) { s with toks := tk }) (hl : s.heap.IsList l its := by first | exact Fr.lst (by k_asm) (by k_asm) | exact News.isList (by k_asm) (by k_mem)) (hs : its.size = n := by with_reducible assumption) (hn : n ≤ 1000 := by omega) : wpAny (model prog w) A (call (.builtin "len") [.ref l]) Q E s := lenI hl hs hn h
theorem padMul {l : Addr} {t : Tok} {x : Int} {u : Tok} (k n : Nat) (Fm : Fr h₀ L s.heap m) (N : News h₀ L s.heap news) (hl : s.heap.IsList l [Value.int 0 t].toArray) (hx : x = (k : Int) - (n : Int)) (hn : n ≤ k) (hk : k ≤ 4)
    (h : ∀ D h', Fr h₀ L h' m → News h₀ L h' ((D, listOf (List.replicate (k - n) (Value.int 0 t)).toArray 0) :: news) → (∀ p ∈ news, p.1 < D) → Q (.ref D) { s with heap := h' }) : wpAny (model prog w) A (binaryOp .Mult (.ref l) (.int x u)) Q E s := by
  have e63 : (2 : Int) ^ 63 = 9223372036854775808 := by decide
  have hx' : x.toNat = k - n := by omega
  refine KMa.mul Fm N hl (by rw [e63]; omega) (by rw [e63]; omega) (by simp only [List.length_cons, List.length_nil]; omega) ?_ h
  rw [hx', rep_flat]
theorem padMulA {l : Addr} {t : Tok} {x : Int} {u : Tok} (k n : Nat) (hx : x = (k : Int) - (n : Int))
    (h : ∀ D h', Fr h₀ L h' m → News h₀ L h' ((D, listOf (List.replicate (k - n) (Value.int 0 t)).toArray 0) :: news) → (∀ p ∈ news, p.1 < D) → Q (.ref D) { s with heap := h' })
    (Fm : Fr h₀ L s.heap m := by k_asm) (N : News h₀ L s.heap news := by k_asm) (hl : s.heap.IsList l [Value.int 0 t].toArray := by exact News.isList (by k_asm) (by k_mem)) (hn : n ≤ k := by omega) (hk : k ≤ 4 := by decide) :
    wpAny (model prog w) A (binaryOp .Mult (.ref l) (.int x u)) Q E s := padMul k n Fm N hl hx hn hk h
theorem padAdd3 {a b : Addr} {its : Array Value} {ns : List Int} {n : Nat} {t : Tok} (B : Int) (hB : 0 < B) (hbd : ∀ a ∈ ns, 0 ≤ a ∧ a < B) (F : Fr h₀ L s.heap m) (N : News h₀ L s.heap news) (ha : s.heap.IsList a its) (hi : IntsAre its.toList ns) (hn : ns.length = n) (hn3 : n ≤ 3)
    (hb : s.heap.IsList b (List.replicate (3 - n) (Value.int 0 t)).toArray)
    (h : ∀ D h' x0 x1 x2 u0 u1 u2, Fr h₀ L h' m → News h₀ L h' ((D, listOf (List.toArray [Value.int x0 u0, .int x1 u1, .int x2 u2]) 0) :: news) → (∀ p ∈ news, p.1 < D) → ns ++ List.replicate (3 - n) 0 = [x0, x1, x2] → (0 ≤ x0 ∧ x0 < B ∧ 0 ≤ x1 ∧ x1 < B ∧ 0 ≤ x2 ∧ x2 < B) → Q (.ref D) { s with heap := h' }) :
    wpAny (model prog w) A (binaryOp .Add (.ref a) (.ref b)) Q E s := by
  have ha' : s.heap.IsList a its.toList.toArray := by rw [Array.toArray_toList]; exact ha
  refine kmk_add_ints F N ha' hb hi (ints_rep t _) (fun D us h' F' N' l1 hu => ?_) (by rw [List.length_replicate, sizeLine_eq]; omega)
  have hbd' := pad_bd (k := 3 - n) hB hbd
  obtain ⟨x0, x1, x2, u0, u1, u2, rfl, e⟩ := ints3 hu (by rw [List.length_append, List.length_replicate]; omega)
  rw [e] at hbd'
  have h0 := hbd' x0 (by simp); have h1 := hbd' x1 (by simp); have h2 := hbd' x2 (by simp)
  exact h D h' x0 x1 x2 u0 u1 u2 F' N' l1 e ⟨h0.1, h0.2, h1.1, h1.2, h2.1, h2.2⟩
theorem padAdd3A {a b : Addr} {its : Array Value} {ns : List Int} {n : Nat} {t : Tok} (B : Int) (hB : 0 < B)
    (h : ∀ D h' x0 x1 x2 u0 u1 u2, Fr h₀ L h' m → News h₀ L h' ((D, listOf (List.toArray [Value.int x0 u0, .int x1 u1, .int x2 u2]) 0) :: news) → (∀ p ∈ news, p.1 < D) → ns ++ List.replicate (3 - n) 0 = [x0, x1, x2] → (0 ≤ x0 ∧ x0 < B ∧ 0 ≤ x1 ∧ x1 < B ∧ 0 ≤ x2 ∧ x2 < B) → Q (.ref D) { s with heap := h' })
    (F : Fr h₀ L s.heap m := by k_asm) (N : News h₀ L s.heap news := by k_asm) (ha : s.heap.IsList a its := by first | exact Fr.lst (by k_asm) (by k_asm) | exact News.isList (by k_asm) (by k_mem)) (hi : IntsAre its.toList ns := by assumption) (hn : ns.length = n := by assumption) (hbd : ∀ a ∈ ns, 0 ≤ a ∧ a < B := by assumption)
    (hb : s.heap.IsList b (List.replicate (3 - n) (Value.int 0 t)).toArray := by exact News.isList (by k_asm) (by k_mem)) (hn3 : n ≤ 3 := by omega) :
    wpAny (model prog w) A (binaryOp .Add (.ref a) (.ref b)) Q E s := padAdd3 B hB hbd F N ha hi hn hn3 hb h
theorem padAdd4 {a b : Addr} {its : Array Value} {ns : List Int} {n : Nat} {t : Tok} (B : Int) (hB : 0 < B) (hbd : ∀ a ∈ ns, 0 ≤ a ∧ a < B) (F : Fr h₀ L s.heap m) (N : News h₀ L s.heap news) (ha : s.heap.IsList a its) (hi : IntsAre its.toList ns) (hn : ns.length = n) (hn3 : n ≤ 4)
    (hb : s.heap.IsList b (List.replicate (4 - n) (Value.int 0 t)).toArray)
    (h : ∀ D h' x0 x1 x2 x3 u0 u1 u2 u3, Fr h₀ L h' m → News h₀ L h' ((D, listOf (List.toArray [Value.int x0 u0, .int x1 u1, .int x2 u2, .int x3 u3]) 0) :: news) → (∀ p ∈ news, p.1 < D) → ns ++ List.replicate (4 - n) 0 = [x0, x1, x2, x3] → (0 ≤ x0 ∧ x0 < B ∧ 0 ≤ x1 ∧ x1 < B ∧ 0 ≤ x2 ∧ x2 < B ∧ 0 ≤ x3 ∧ x3 < B) → Q (.ref D) { s with heap := h' }) :
    wpAny (model prog w) A (binaryOp .Add (.ref a) (.ref b)) Q E s := by
  have ha' : s.heap.IsList a its.toList.toArray := by rw [Array.toArray_toList]; exact ha
  refine kmk_add_ints F N ha' hb hi (ints_rep t _) (fun D us h' F' N' l1 hu => ?_) (by rw [List.length_replicate, sizeLine_eq]; omega)
  have hbd' := pad_bd (k := 4 - n) hB hbd
  obtain ⟨x0, x1, x2, x3, u0, u1, u2, u3, rfl, e⟩ := ints4 hu (by rw [List.length_append, List.length_replicate]; omega)
  rw [e] at hbd'
  have h0 := hbd' x0 (by simp); have h1 := hbd' x1 (by simp); have h2 := hbd' x2 (by simp); have h3 := hbd' x3 (by simp)
  exact h D h' x0 x1 x2 x3 u0 u1 u2 u3 F' N' l1 e ⟨h0.1, h0.2, h1.1, h1.2, h2.1, h2.2, h3.1, h3.2⟩
theorem padAdd4A {a b : Addr} {its : Array Value} {ns : List Int} {n : Nat} {t : Tok} (B : Int) (hB : 0 < B)
    (h : ∀ D h' x0 x1 x2 x3 u0 u1 u2 u3, Fr h₀ L h' m → News h₀ L h' ((D, listOf (List.toArray [Value.int x0 u0, .int x1 u1, .int x2 u2, .int x3 u3]) 0) :: news) → (∀ p ∈ news, p.1 < D) → ns ++ List.replicate (4 - n) 0 = [x0, x1, x2, x3] → (0 ≤ x0 ∧ x0 < B ∧ 0 ≤ x1 ∧ x1 < B ∧ 0 ≤ x2 ∧ x2 < B ∧ 0 ≤ x3 ∧ x3 < B) → Q (.ref D) { s with heap := h' })
    (F : Fr h₀ L s.heap m := by k_asm) (N : News h₀ L s.heap news := by k_asm) (ha : s.heap.IsList a its := by first | exact Fr.lst (by k_asm) (by k_asm) | exact News.isList (by k_asm) (by k_mem)) (hi : IntsAre its.toList ns := by assumption) (hn : ns.length = n := by assumption) (hbd : ∀ a ∈ ns, 0 ≤ a ∧ a < B := by assumption)
    (hb : s.heap.IsList b (List.replicate (4 - n) (Value.int 0 t)).toArray := by exact News.isList (by k_asm) (by k_mem)) (hn3 : n ≤ 4 := by omega) :
    wpAny (model prog w) A (binaryOp .Add (.ref a) (.ref b)) Q E s := padAdd4 B hB hbd F N ha hi hn hn3 hb h
end
def k64 (i : Nat) : Int := [262144, 4096, 64, 1].getD i 0
def k256 (i : Nat) : Int := [65536, 256, 1].getD i 0
theorem k64_pow {i : Nat} (h : i < 4) : (64 : Int) ^ (3 + (i : Int) * (-1)).toNat = k64 i ∧ 0 < k64 i ∧ k64 i ≤ 262144 := by
  obtain rfl | rfl | rfl | rfl : i = 0 ∨ i = 1 ∨ i = 2 ∨ i = 3 := by omega
  all_goals decide
theorem k256_pow {i : Nat} (h : i < 3) : (256 : Int) ^ (2 + (i : Int) * (-1)).toNat = k256 i ∧ 0 < k256 i ∧ k256 i ≤ 65536 := by
  obtain rfl | rfl | rfl : i = 0 ∨ i = 1 ∨ i = 2 := by omega
  all_goals decide
theorem paired_f {f : Nat → Int} : ∀ {l : List Nat} {ys : List Value}, Paired (fun i y => ∃ u, y = .int (f i) u) l ys → IntsAre ys (l.map f) := by
  intro l ys p
  induction p with
  | nil => exact .nil
  | cons h t ih =>
    obtain ⟨u, rfl⟩ := h
    exact .cons _ u ih
theorem row_len {ns : List Int} (hn : ns ∈ allRows) : 1 ≤ ns.length ∧ ns.length ≤ 3 ∧ ∀ a ∈ ns, 0 ≤ a ∧ a < 256 := by
  rcases row_cases hn with ⟨a, ha, rfl⟩ | ⟨a, b, ha, hb, rfl⟩ | ⟨a, b, c, ha, hb, hc, rfl⟩
  all_goals (refine ⟨by simp only [List.length_cons, List.length_nil]; omega, by simp only [List.length_cons, List.length_nil]; omega, fun x hx => ?_⟩; simp only [List.mem_cons, List.not_mem_nil, or_false] at hx)
  · exact hx ▸ mark_in ha
  · rcases hx with rfl | rfl
    · exact mark_in ha
    · exact mark_in hb
  · rcases hx with rfl | rfl | rfl
    · exact mark_in ha
    · exact mark_in hb
    · exact mark_in hc
theorem k256_pow2 {i : Nat} (h : i < 3) : (256 : Int) ^ (2 - (0 + (i : Int) * 1)).toNat = k256 i ∧ 0 < k256 i ∧ k256 i ≤ 65536 := by
  obtain rfl | rfl | rfl : i = 0 ∨ i = 1 ∨ i = 2 := by omega
  all_goals decide
theorem cell_to {o : Obj} {a b : Int} {u : Tok} (h : a = b) (d : o.data = Data.cell (some (Value.int a u))) : o.data = Data.cell (some (Value.int b u)) := h ▸ d
end
section
local macro_rules | `(tactic| walk_at "binaryOp Mult int int") => `(tactic| (refine PyProof.Rows.mul_int ?_ (by first | exact PySem.IntMulOk.of_left (PySem.intBits_le_64 (by omega) (by omega)) | exact PySem.IntMulOk.of_right (PySem.intBits_le_64 (by omega) (by omega)))))
local macro_rules | `(tactic| walk_at "binaryOp Mod int int") => `(tactic| (refine PyProof.Rows.mod_int' (by decide) ?_))
local macro_rules | `(tactic| walk_at "eval ListComp") => `(tactic| refine stop ?_)
local macro_rules | `(tactic| walk_at "binaryOp Pow int int") => `(tactic| (refine pow_to _ (by assumption) (by omega) (by omega) (by decide) ?_))
local macro_rules | `(tactic| walk_at "binaryOp FloorDiv int int") => `(tactic| (refine PyProof.Rows.floordiv_int (by omega) ?_ (Or.inl (PyProof.noPylong_small (by omega)))))
section
local macro_rules | `(tactic| walk_at "UnrEnd") => `(tactic| (refine UnrEnd.intro3 (by assumption) (by assumption) [] (by k_mem) trivial trivial ?_))
local macro_rules | `(tactic| walk_at "subscriptTail Name BinOp str int") => `(tactic| ((try dsimp only); k_dflt (refine item_fm (by decide +kernel) ?_)))
def b64S : List Int → Str
  | [a] => Txt.join (Str.ofString "") [sx (a * 65536 + 0) 262144, sx (a * 65536 + 0) 4096] ++ Str.ofString "=="
  | [a, b] => Txt.join (Str.ofString "") [sx (a * 65536 + (b * 256 + 0)) 262144, sx (a * 65536 + (b * 256 + 0)) 4096, sx (a * 65536 + (b * 256 + 0)) 64] ++ Str.ofString "="
  | [a, b, c] => Txt.join (Str.ofString "") [sx (a * 65536 + (b * 256 + (c * 1 + 0))) 262144, sx (a * 65536 + (b * 256 + (c * 1 + 0))) 4096, sx (a * 65536 + (b * 256 + (c * 1 + 0))) 64, sx (a * 65536 + (b * 256 + (c * 1 + 0))) 1] ++ Str.ofString ""
  | _ => Str.empty
def eqS (n : Nat) : Str := [Str.ofString "===", Str.ofString "==", Str.ofString "="].getD n (Str.ofString "")
theorem eqS_len (n : Nat) : (eqS n).length ≤ 1000 := by
  obtain _ | _ | _ | n := n
  · decide
  · decide
  · decide
  · show (Str.ofString "").length ≤ 1000; decide
section
variable {prog : Program} {w : World} {A : Around} {E : Value → Shared → Prop} {s : Shared} {Q : Value → Shared → Prop} {h₀ : Heap} {L : Addr} {m : Str → Option Value} {news : List (Addr × Obj)} {value slice : PySem.Expr}
theorem mul_eq {n : Nat} {t u : Tok} (h1 : 1 ≤ n) (h3 : n ≤ 3) (h : ∀ t' k, Q (.str (eqS n) t') { s with toks := k }) : wpAny (model prog w) A (binaryOp .Mult (.str (Str.ofString "=") t) (.int (3 - (n : Int)) u)) Q E s := by
  obtain rfl | rfl | rfl : n = 1 ∨ n = 2 ∨ n = 3 := by omega
  all_goals (refine SB.mul (mulOk_of 16 100 (by decide) (by decide) (by decide) (by decide) (by decide)) ?_; intro t' k; exact h t' k)
theorem item_int {l : Addr} {its : Array Value} {ns : List Int} {i : Int} {u : Tok} (hl : s.heap.IsList l its) (hi : IntsAre its.toList ns) (h0 : 0 ≤ i) (h1 : i < ns.length) (hz : ns.length ≤ 1000) (h : ∀ v, Q (.int (ns.getD i.toNat 0) v) s)
    (hs : subscripted slice false (.ref l) (.int i u) = operate [.ref l, .int i u] (getItem (.ref l) (.int i u))) :
    wpAny (model prog w) A (subscriptTail value slice (.ref l) (.int i u)) Q E s := by
  have e := hi.length
  rw [Array.length_toList] at e
  refine item_any hl h0 (by omega) (by omega) (fun v hv => ?_) hs
  obtain ⟨v', rfl⟩ := ints_at hi (i := i.toNat) (by rw [Array.getElem?_toList]; exact hv)
  exact h v'
theorem slice_all {l : Addr} {vs : List Value} {ns : List Int} {n : Nat} {a b : Tok} (F : Fr h₀ L s.heap m) (N : News h₀ L s.heap news) (hl : s.heap.IsList l vs.toArray) (hi : IntsAre vs ns) (hn : ns.length = n) (h3 : n ≤ 3)
    (h : ∀ D ws h', Fr h₀ L h' m → News h₀ L h' ((D, listOf (List.toArray ws) 0) :: news) → (∀ p ∈ news, p.1 < D) → IntsAre ws ns → ws.toArray.size = n → Q (.ref D) { s with heap := h' })
    (hs : subscripted slice false (.ref l) (.ref s.heap.objs.size) = operate [.ref s.heap.objs.size, .ref l] (getItem (.ref l) (.ref s.heap.objs.size))) (ht : ∀ r, letTemporaryGo value (.ref l) r = pure ()) :
    wpAny (model prog w) A (subscriptTail value slice (.ref l) (.ref s.heap.objs.size)) Q E { s with heap := s.heap.push { cls := .type "slice", data := .fields #[.int 0 a, .int (0 + 3) b, .none] } } := by
  subst hn
  have hm := kmk_run (x := 0) (y := 0 + 3) hi (by decide) (by decide)
  have e : (ns.drop (0 : Int).toNat).take (min (0 + 3 : Int).toNat ns.length - (0 : Int).toNat) = ns := by
    show (ns.drop 0).take (min 3 ns.length - 0) = ns
    rw [List.drop_zero, List.take_of_length_le (by omega)]
  rw [e] at hm
  refine kmk_slice_ints F N hl (IsPart.int _ _) (IsPart.int _ _) hi hm rfl (fun D ws h' F' N' l1 hI _ _ => h D ws h' F' N' l1 hI (by rw [List.size_toArray, hI.length])) hs ht (by rw [List.size_toArray, hi.length, sizeLine_eq]; omega)
end
def num256 (ns : List Int) : Int := ((List.range ns.length).map fun j => ns.getD j 0 * k256 j).sum
theorem b64S_val {ns : List Int} (hn : ns ∈ allRows) : Txt.join (Str.ofString "") ((List.range (ns.length + 1)).map fun i => sx (num256 ns) (k64 i)) ++ eqS ns.length = b64S ns := by
  rcases row_cases hn with ⟨a, ha, rfl⟩ | ⟨a, b, ha, hb, rfl⟩ | ⟨a, b, c, ha, hb, hc, rfl⟩
  all_goals rfl
theorem rng_facts {n : Nat} (h1 : 1 ≤ n) (h3 : n ≤ 3) : Hid (Builtin.Range.small 0 (n : Int) 3 = true) ∧ Hid (Builtin.Range.rangeSize 0 (n : Int) 3 = ((1 : Nat) : Int)) ∧ Hid (Builtin.Range.small 0 (n : Int) 1 = true) ∧ Hid (Builtin.Range.rangeSize 0 (n : Int) 1 = ((n : Nat) : Int)) ∧ Hid (Builtin.Range.small 3 (2 - (n : Int)) (-1) = true) ∧ Hid (Builtin.Range.rangeSize 3 (2 - (n : Int)) (-1) = ((n + 1 : Nat) : Int)) := by
  unfold Hid
  obtain rfl | rfl | rfl : n = 1 ∨ n = 2 ∨ n = 3 := by omega
  all_goals decide
theorem sxs_join (N : Int) (n : Nat) (h3 : n ≤ 3) : Hid ((((List.range (n + 1)).map fun i => sx N (k64 i)).map (·.length)).sum + ((List.range (n + 1)).map fun i => sx N (k64 i)).length ≤ 1000 ∧ (Txt.join (Str.ofString "") ((List.range (n + 1)).map fun i => sx N (k64 i))).length ≤ 1000) := by
  unfold Hid
  have h1 : (((List.range (n + 1)).map fun i => sx N (k64 i)).map (·.length)).sum ≤ ((List.range (n + 1)).map fun i => sx N (k64 i)).length * 1 := sum_le _ 1 _ (fun x hx => by
    obtain ⟨i, _, rfl⟩ := List.mem_map.mp hx
    rw [sx_len]; exact Nat.le_refl _)
  have h2 := join_le (Str.ofString "") ((List.range (n + 1)).map fun i => sx N (k64 i))
  have h3' : (Str.ofString "").length = 0 := rfl
  rw [List.length_map, List.length_range] at h1
  rw [h3', Nat.mul_zero] at h2
  constructor
  · rw [List.length_map, List.length_range]; omega
  · omega
local macro_rules | `(tactic| walk_at "call builtin:len") => `(tactic| ((try dsimp only); (with_reducible show wpAny _ _ (call (Value.builtin "len") [Value.ref _]) _ _ _); k_dflt (refine' lenI ?hl ?hs ?hn ?_; (case hl => first | exact Fr.lst (by k_asm) (by k_asm) | exact News.isList (by k_asm) (by k_mem)); (case hs => with_reducible assumption); (case hn => omega)); intro _ _))
local macro_rules | `(tactic| walk_at "pyIter ref") => `(tactic| ((with_reducible show wpAny _ _ (pyIter (Value.ref _)) (fun it s₂ => LoopAtV _ _ _ _ _ _ _ _ _ it s₂) _ _); k_here; (rename Fr _ _ _ _ => lF'); (rename News _ _ _ _ => lN'); (rename IsRange _ _ _ _ _ _ _ _ => rg'); (with_reducible rename Hid (Builtin.Range.small 0 _ 3 = true) => h1'); (with_reducible rename Hid (Builtin.Range.rangeSize 0 _ 3 = _) => h2'); (with_unfolding_all refine krs_iter (n := 1) (by rfl) rg' h1' h2' lF' lN' ?_); clear lF' lN'; intro i' l1; (try k_lt l1)))
local macro_rules | `(tactic| walk_at "subscriptTail Name Slice ref ref") => `(tactic| (k_here; k_dflt (refine' slice_all ?F ?N ?l ?i ?n ?z ?_ ?s ?t; (case F => k_asm); (case N => k_asm); (case l => exact Fr.lst (by k_asm) (by k_asm)); (case i => assumption); (case n => with_reducible assumption); (case z => omega); (case s => with_unfolding_all rfl); (case t => kmk_pure)); intro D' ws' h' F' N' l1 hI' hS'; (try k_lt l1); (try k_sweep)))
local macro_rules | `(tactic| walk_at "last subscriptTail") => `(tactic| fail)
local macro_rules | `(tactic| walk_at "call type:list") => `(tactic| ((try dsimp only); (with_reducible show wpAny _ _ (call (Value.type _) [Value.ref _]) _ _ _); k_dflt (refine' list_copyK ?k1 ?k2 ?k3 ?_ ?z; (case k1 => k_asm); (case k2 => k_asm); (case k3 => exact News.isList (by k_asm) (by k_mem)); (case z => exact kmk_sz (by assumption) (by rw [sizeLine_eq]; omega)); k_whole); intro D' c' h' F' N' l1; (try k_lt l1); (try k_sweep)))
local macro_rules | `(tactic| walk_at "subscriptTail Name Name ref int") => `(tactic| ((try dsimp only); k_dflt (refine' item_int ?a ?b ?c ?d ?e ?_ ?f; (case a => assumption); (case b => assumption); (case c => omega); (case d => omega); (case e => omega); (case f => with_unfolding_all rfl)); intro _))
local macro_rules | `(tactic| walk_at "call builtin:sum") => `(tactic| ((try dsimp only); (with_reducible show wpAny _ _ (call (Value.builtin "sum") [Value.ref _]) _ _ _); (with_unfolding_all refine' sumK ?k0 ?k1 ?k2 ?k3 ?k4 ?_; (case k0 => with_unfolding_all rfl); (case k1 => k_asm); (case k2 => k_asm); (case k3 => exact News.isList (by k_asm) (by k_mem)); (case k4 => assumption); k_whole); intro h' tk' t' F' N'; (try k_sweep)))
local macro_rules | `(tactic| walk_at "binaryOp Mult str int") => `(tactic| ((try dsimp only); (refine mul_eq (by omega) (by omega) ?_; intro _ _)))
local macro_rules | `(tactic| walk_at "binaryOp Add str str") => `(tactic| ((try dsimp only); first | (with_reducible refine add_nil_str (by assumption) ?_; intro _ _) | (with_reducible refine add_small (by assumption) (eqS_len _) ?_; intro _ _) | (with_reducible refine add_small (by decide +kernel) (by decide +kernel) ?_; intro _ _)))
set_option maxHeartbeats 2000000 in
theorem lawb64_ctr (w : World) (l : Addr) (its : Array Value) (ns : List Int) (hi : IntsAre its.toList ns) (hn : ns ∈ allRows) (t : Tok) : Ctr w 185 [.ref l, .str (Str.ofString "+/") t] [] 3 (fun h => h.IsList l its) (fun _ v _ => ∃ u, v = .str (b64S ns) u) := by
  obtain ⟨hn1, hn2, hbd⟩ := row_len hn
  have hfin := b64S_val hn
  obtain ⟨ll⟩ := its
  dsimp only at hi
  obtain ⟨n, hln⟩ : ∃ n, ns.length = n := ⟨_, rfl⟩
  have hsz : (Array.mk ll).size = n := by rw [← hln, ← hi.length]; rfl
  have hnum : num256 ns = ((List.range n).map fun j => ns.getD j 0 * k256 j).sum := by rw [← hln]; rfl
  rw [hln] at hn1 hn2 hfin
  obtain ⟨g1, g2, g3, g4, g5, g6⟩ := rng_facts hn1 hn2
  generalize b64S ns = R at hfin ⊢
  generalize num256 ns = N0 at hfin hnum
  replace hnum : Hid (N0 = _) := hnum
  have hj := sxs_join N0 n hn2
  clear hn
  unfold Ctr; k_fill
  intro p loose mean mg mb base outer dp un gd s Q E X T B hdp hun hp hQ
  obtain ⟨hp0, ge0, dr0, tk0, os0⟩ := s
  dsimp only at X T B hp hQ
  refine wpAny_call ?_
  refine' enterC (binds := [(Str.ofString "octets", .ref l), (Str.ofString "two", .str (Str.ofString "+/") t)]) X T ?k6 ?k7 ?k8 ?k9 ?kB ?kD ?_ ?c2 ?c3 ?c4
  case k6 => k_dflt k_is
  case k7 => k_dflt k_is
  case k8 => show dp < recursionLimit; omega
  case k9 => exact BindsTo.of_eq rfl
  case kB => exact rfl
  case kD => decide +kernel
  case c2 => exact rfl
  case c3 => exact rfl
  case c4 => exact rfl
  intro L h₁ tk₁ cells hL F N Y
  k_cells Y
  try dsimp only [List.cons_append, List.nil_append] at N
  dsimp only
  try k_fold
  refine ar_let ?_
  intro A9
  w_on
  k_steps
  unfold Stop
  rename News _ _ _ _ => N9
  have N8 : News hp0 L _ [_, _, _, _, _] := News.pick N9 [0, 2, 4, 5, 6]
  clear N9
  refine' lc_range n 0 (1) (by decide) (fun i y => ∃ u, y = .int (ns.getD i 0 * k256 i) u) ?hA ?hn ?hc ?hcell ?hk ?hnm ?hx ?hs ?_
  case hA => exact rfl
  case hn => omega
  case hc => exact rfl
  case hcell => decide
  case hk => exact rfl
  case hnm => decide
  case hx => exact rfl
  case hs => intro _; rfl
  k_steps
  rename Fr _ _ _ _ => F1
  rename News _ _ _ _ => N1
  refine' ⟨_, _, _, _, _, rfl, (by assumption), ?sm, ?rs, ?el, ?fin⟩
  case sm => exact g3
  case rs => exact g4
  case el =>
    intro C i tk s₃ m₃ E' hi0 hk hn0 hm
    have hl3 := isl_keep (listOf_is (News.get N1 (by k_mem))) hk
    have e0 : ((0 : Int) + (i : Int) * 1).toNat = i := by omega
    obtain ⟨hp6, hp7, hp8⟩ := k256_pow2 (i := i) (by omega)
    have hx : 0 ≤ ns.getD i 0 ∧ ns.getD i 0 < 256 := by
      rw [List.getD_eq_getElem?_getD]
      cases e : ns[i]? with
      | none => exact ⟨Int.le_refl _, by decide⟩
      | some x => exact hbd x (List.mem_of_getElem? e)
    rw [← e0] at hx
    refine el_start X T B F1 hk hn0 rfl rfl (fun e1 => ?_)
    k_steps
    exact ⟨⟨_, congrArg (fun z => Value.int (z * _) _) (by rw [e0])⟩, ⟨_, _, rfl, e1.k2⟩⟩
  case fin =>
    intro D h' tk ys hD hpl hpr hkp
    have hI0 := paired_f hpr
    obtain ⟨yl⟩ := ys
    dsimp only at hI0
    obtain ⟨nD, F2, N2, ne2, nl2⟩ := lc_led2 F1 N1 hkp hD hpl
    simp only [List.forall_mem_cons, List.not_mem_nil, false_implies, implies_true, and_true] at ne2
    clear F1 N1 hkp hD hpl hpr
    k_steps
    rename Obj.data _ = Data.cell (some (Value.int _ _)) => d9
    replace d9 := cell_to (Eq.symm (show N0 = _ from hnum)) d9
    unfold Stop
    rename News _ _ _ _ => N9
    have N8 : News hp0 L _ [_, _, _, _, _] := News.pick N9 [1, 2, 3, 4, 5]
    clear N9
    refine' lc_range (n + 1) 3 (-1) (by decide) (fun i y => ∃ u, y = .str (sx N0 (k64 i)) u) ?hA ?hn ?hc ?hcell ?hk ?hnm ?hx ?hs ?_
    case hA => exact rfl
    case hn => omega
    case hc => exact rfl
    case hcell => decide
    case hk => exact rfl
    case hnm => decide
    case hx => exact rfl
    case hs => intro _; rfl
    k_steps
    rename Fr _ _ _ _ => F1
    rename News _ _ _ _ => N1
    refine' ⟨_, _, _, _, _, rfl, (by assumption), ?sm, ?rs, ?el, ?fin⟩
    case sm => exact g5
    case rs => exact g6
    case el =>
      intro C i tk s₃ m₃ E' hi0 hk hn0 hm
      have hb0 : 0 ≤ (3 + (i : Int) * (-1)) := by omega
      have hb1 : (3 + (i : Int) * (-1)) ≤ 3 := by omega
      obtain ⟨hp6, hp7, hp8⟩ := k64_pow (i := i) (by omega)
      refine el_start X T B F1 hk hn0 rfl rfl (fun e1 => ?_)
      k_steps
      exact ⟨⟨_, rfl⟩, ⟨_, _, rfl, e1.k2⟩⟩
    case fin =>
      intro D h' tk ys hD hpl hpr hkp
      have hI0 := paired_strs hpr
      obtain ⟨yl⟩ := ys
      dsimp only at hI0
      obtain ⟨nD, F2, N2, ne2, nl2⟩ := lc_led2 F1 N1 hkp hD hpl
      simp only [List.forall_mem_cons, List.not_mem_nil, false_implies, implies_true, and_true] at ne2
      clear F1 N1 hkp hD hpl hpr
      k_steps
      k_dflt (show wpAny _ _ (call (Value.builtin "str.join") [Value.str _ _, Value.ref _]) _ _ _)
      obtain ⟨hj1, hj2⟩ : _ ∧ _ := hj
      refine PyProof.Rows.join_listW (News.isList N2 (List.Mem.head _)) hI0 (by decide) (Nat.le_trans hj1 (by decide)) ?_
      intro t' k'
      generalize Txt.join _ _ = J at hj2 hfin
      k_steps
      dsimp only
      refine hQ _ _ _ (Fr.keep (by k_asm)) ⟨_, congrArg (fun z => Value.str z _) hfin⟩
end
section
local macro_rules | `(tactic| walk_at "exec For Name BinOp cons nil") => `(tactic| (k_here; (rename Fr _ _ _ _ => lF'); (with_unfolding_all refine' For_invVF lF' ?k1 ?k2 ?_; (case k1 => exact rfl); (case k2 => exact rfl); k_whole)))
local macro_rules | `(tactic| walk_at "exec Assign cons ListComp") => `(tactic| refine stop ?_)
local macro_rules | `(tactic| walk_at "call type:enumerate") => `(tactic| ((try dsimp only); refine stop ?_))
local macro_rules | `(tactic| walk_at "call builtin:len") => `(tactic| ((try dsimp only); k_dflt (refine lenIA ?_); intro _ _))
local macro_rules | `(tactic| walk_at "binaryOp Mult ref int") => `(tactic| ((try dsimp only); k_dflt ((first | refine padMulA 3 _ rfl ?_ | refine padMulA 4 _ rfl ?_); k_whole); intro D' h' F' N' l1; (try k_lt l1); (try k_sweep)))
local macro_rules | `(tactic| walk_at "binaryOp Add ref ref") => `(tactic| ((try dsimp only); k_dflt (first | (refine padAdd3A 256 (by decide) ?_; k_whole; intro D' h' x0 x1 x2 u0 u1 u2 F' N' l1 hx hb) | (refine padAdd4A 64 (by decide) ?_; k_whole; intro D' h' x0 x1 x2 x3 u0 u1 u2 u3 F' N' l1 hx hb)); (try k_lt l1); (try k_sweep)))
def movedI : List Int → List Int
  | [a] => [(((((0 * 64 + mvI 0 (((((0 * 256 + a) * 256 + 0) * 256 + 0).fdiv 262144).fmod 64)) * 64 + mvI 1 (((((0 * 256 + a) * 256 + 0) * 256 + 0).fdiv 4096).fmod 64)) * 64 + 0) * 64 + 0).fdiv 65536).fmod 256]
  | [a, b] => [(((((0 * 64 + mvI 0 (((((0 * 256 + a) * 256 + b) * 256 + 0).fdiv 262144).fmod 64)) * 64 + mvI 1 (((((0 * 256 + a) * 256 + b) * 256 + 0).fdiv 4096).fmod 64)) * 64 + mvI 2 (((((0 * 256 + a) * 256 + b) * 256 + 0).fdiv 64).fmod 64)) * 64 + 0).fdiv 65536).fmod 256, (((((0 * 64 + mvI 0 (((((0 * 256 + a) * 256 + b) * 256 + 0).fdiv 262144).fmod 64)) * 64 + mvI 1 (((((0 * 256 + a) * 256 + b) * 256 + 0).fdiv 4096).fmod 64)) * 64 + mvI 2 (((((0 * 256 + a) * 256 + b) * 256 + 0).fdiv 64).fmod 64)) * 64 + 0).fdiv 256).fmod 256]
  | [a, b, c] => [(((((0 * 64 + mvI 0 (((((0 * 256 + a) * 256 + b) * 256 + c).fdiv 262144).fmod 64)) * 64 + mvI 1 (((((0 * 256 + a) * 256 + b) * 256 + c).fdiv 4096).fmod 64)) * 64 + mvI 2 (((((0 * 256 + a) * 256 + b) * 256 + c).fdiv 64).fmod 64)) * 64 + mvI 3 (((((0 * 256 + a) * 256 + b) * 256 + c).fdiv 1).fmod 64)).fdiv 65536).fmod 256, (((((0 * 64 + mvI 0 (((((0 * 256 + a) * 256 + b) * 256 + c).fdiv 262144).fmod 64)) * 64 + mvI 1 (((((0 * 256 + a) * 256 + b) * 256 + c).fdiv 4096).fmod 64)) * 64 + mvI 2 (((((0 * 256 + a) * 256 + b) * 256 + c).fdiv 64).fmod 64)) * 64 + mvI 3 (((((0 * 256 + a) * 256 + b) * 256 + c).fdiv 1).fmod 64)).fdiv 256).fmod 256, (((((0 * 64 + mvI 0 (((((0 * 256 + a) * 256 + b) * 256 + c).fdiv 262144).fmod 64)) * 64 + mvI 1 (((((0 * 256 + a) * 256 + b) * 256 + c).fdiv 4096).fmod 64)) * 64 + mvI 2 (((((0 * 256 + a) * 256 + b) * 256 + c).fdiv 64).fmod 64)) * 64 + mvI 3 (((((0 * 256 + a) * 256 + b) * 256 + c).fdiv 1).fmod 64)).fdiv 1).fmod 256]
  | _ => []
def num3 : List Int → Int
  | [a, b, c] => ((0 * 256 + a) * 256 + b) * 256 + c
  | _ => 0
def num4 : List Int → Int
  | [a, b, c, d] => (((0 * 64 + a) * 64 + b) * 64 + c) * 64 + d
  | _ => 0
theorem mv_map_in {S : List Int} {n : Nat} (hb : ∀ a ∈ S, 0 ≤ a ∧ a < 64) : ∀ a ∈ (List.range n).map (fun i => mvI i (S.getD i 0)), 0 ≤ a ∧ a < 64 := fun a ha => by
  obtain ⟨i, _, rfl⟩ := List.mem_map.mp ha
  have h : 0 ≤ S.getD i 0 ∧ S.getD i 0 < 64 := by
    rw [List.getD_eq_getElem?_getD]
    cases e : S[i]? with
    | none => exact ⟨Int.le_refl _, by decide⟩
    | some x => exact hb x (List.mem_of_getElem? e)
  exact mvI_bd i h.1 h.2
theorem cell_num3 {o : Obj} {a b c : Int} {u : Tok} {zs : List Int} (h : [a, b, c] = zs) (d : o.data = Data.cell (some (Value.int (((0 * 256 + a) * 256 + b) * 256 + c) u))) : o.data = Data.cell (some (Value.int (num3 zs) u)) := by
  subst h; exact d
theorem cell_num4 {o : Obj} {a b c e : Int} {u : Tok} {zs : List Int} (h : [a, b, c, e] = zs) (d : o.data = Data.cell (some (Value.int ((((0 * 64 + a) * 64 + b) * 64 + c) * 64 + e) u))) : o.data = Data.cell (some (Value.int (num4 zs) u)) := by
  subst h; exact d
def sixesI (ns : List Int) : List Int := ((List.range 4).map fun i => ((num3 (ns ++ List.replicate (3 - ns.length) 0)).fdiv (k64 i)).fmod 64).take (ns.length + 1)
def mvsI (ns : List Int) : List Int := (List.range (ns.length + 1)).map fun i => mvI i ((sixesI ns).getD i 0)
theorem moved_val {ns : List Int} (hn : ns ∈ allRows) : ((List.range 3).map fun i => ((num4 (mvsI ns ++ List.replicate (4 - (ns.length + 1)) 0)).fdiv (k256 i)).fmod 256).take ns.length = movedI ns := by
  rcases row_cases hn with ⟨a, ha, rfl⟩ | ⟨a, b, ha, hb, rfl⟩ | ⟨a, b, c, ha, hb, hc, rfl⟩
  all_goals rfl
theorem sixes_bd (ns : List Int) : ∀ a ∈ sixesI ns, 0 ≤ a ∧ a < 64 := fun a ha => by
  obtain ⟨i, _, rfl⟩ := List.mem_map.mp (List.mem_of_mem_take ha)
  exact fmod_pos _ 64 (by decide)
theorem sixes_len {ns : List Int} (h : ns.length ≤ 3) : (sixesI ns).length = ns.length + 1 := by
  unfold sixesI
  rw [List.length_take, List.length_map, List.length_range]; omega
set_option maxHeartbeats 2000000 in
theorem moved_ctr (w : World) (l : Addr) (its : Array Value) (ns : List Int) (hi : IntsAre its.toList ns) (hn : ns ∈ allRows) : Ctr w 190 [.ref l] [] 3 (fun h => h.IsList l its) (fun h v h' => ∃ D its, v = .ref D ∧ h.get? D = none ∧ h'.IsList D its ∧ IntsAre its.toList (movedI ns)) := by
  obtain ⟨hn1, hn2, hbd⟩ := row_len hn
  have hfin := moved_val hn
  have hsl := sixes_len hn2
  have hsb := sixes_bd ns
  have hml : (mvsI ns).length = ns.length + 1 := by unfold mvsI; rw [List.length_map, List.length_range]
  have hmb : ∀ a ∈ mvsI ns, 0 ≤ a ∧ a < 64 := mv_map_in hsb
  obtain ⟨n, hln⟩ : ∃ n, ns.length = n := ⟨_, rfl⟩
  have hsz : its.size = n := by rw [← hln, ← hi.length, Array.length_toList]
  have hsdef : sixesI ns = ((List.range 4).map fun i => ((num3 (ns ++ List.replicate (3 - n) 0)).fdiv (k64 i)).fmod 64).take (n + 1) := by subst hln; rfl
  have hmdef : mvsI ns = (List.range (n + 1)).map fun i => mvI i ((sixesI ns).getD i 0) := by subst hln; rfl
  rw [hln] at hn1 hn2 hfin hsl hml
  generalize movedI ns = R at hfin ⊢
  generalize mvsI ns = M at *
  generalize sixesI ns = S at *
  generalize hzs : ns ++ List.replicate (3 - n) 0 = zs at hsdef
  clear hn
  unfold Ctr; k_fill
  intro p loose mean mg mb base outer dp un gd s Q E X T B hdp hun hp hQ
  obtain ⟨hp0, ge0, dr0, tk0, os0⟩ := s
  dsimp only at X T B hp hQ
  refine wpAny_call ?_
  refine' enterC (binds := [(Str.ofString "row", .ref l)]) X T ?k6 ?k7 ?k8 ?k9 ?kB ?kD ?_ ?c2 ?c3 ?c4
  case k6 => k_dflt k_is
  case k7 => k_dflt k_is
  case k8 => show dp < recursionLimit; omega
  case k9 => exact BindsTo.of_eq rfl
  case kB => exact rfl
  case kD => decide +kernel
  case c2 => exact rfl
  case c3 => exact rfl
  case c4 => exact rfl
  intro L h₁ tk₁ cells hL F N Y
  k_cells Y
  try dsimp only [List.cons_append, List.nil_append] at N
  dsimp only
  try k_fold
  refine ar_let ?_
  intro A9
  w_on
  k_steps
  rename _ ++ List.replicate (3 - _) 0 = _ => hx3
  rename Obj.data _ = Data.cell (some (Value.int _ _)) => d9
  rw [hx3] at hzs
  replace d9 := cell_num3 hzs d9
  generalize num3 zs = N0 at d9 hsdef
  unfold Stop
  rename News _ _ _ _ => N9
  have N8 : News hp0 L _ [_] := News.pick N9 [3]
  clear N9
  refine' lc_range 4 3 (-1) (by decide) (fun i y => ∃ u, y = .int ((N0.fdiv (k64 i)).fmod 64) u) ?hA ?hn ?hc ?hcell ?hk ?hnm ?hx ?hs ?_
  case hA => exact rfl
  case hn => omega
  case hc => exact rfl
  case hcell => decide
  case hk => exact rfl
  case hnm => decide
  case hx => exact rfl
  case hs => intro _; rfl
  k_steps
  rename Fr _ _ _ _ => F1
  rename News _ _ _ _ => N1
  refine' ⟨_, _, _, _, _, rfl, (by assumption), ?sm, ?rs, ?el, ?fin⟩
  case sm => decide
  case rs => decide
  case el =>
    intro C i tk s₃ m₃ E' hi hk hn hm
    have hb0 : 0 ≤ (3 + (i : Int) * (-1)) := by omega
    have hb1 : (3 + (i : Int) * (-1)) ≤ 3 := by omega
    obtain ⟨hp6, hp7, hp8⟩ := k64_pow hi
    refine el_start X T B F1 hk hn rfl rfl (fun e1 => ?_)
    k_steps
    exact ⟨⟨_, rfl⟩, ⟨_, _, rfl, e1.k2⟩⟩
  case fin =>
    intro D h' tk ys hD hpl hpr hkp
    have hI0 := paired_f hpr
    have hz0 : ys.size = 4 := by
      have := hI0.length
      simpa using this
    obtain ⟨yl⟩ := ys
    dsimp only at hI0
    obtain ⟨nD, F2, N2, ne2, nl2⟩ := lc_led2 F1 N1 hkp hD hpl
    simp only [List.forall_mem_cons, List.not_mem_nil, false_implies, implies_true, and_true] at ne2
    clear F1 N1 hkp hD hpl hpr
    k_steps
    unfold Stop
    rename Fr _ _ _ _ => F1
    rename News _ _ _ _ => N9
    have N1 : News hp0 L _ [_, _] := News.pick N9 [0, 2]
    clear N9
    rename IntsAre _ (List.take _ _) => hS
    have e9 : ((n : Int) + 1).toNat = n + 1 := by omega
    rw [e9, ← hsdef] at hS
    have hS' := hS
    clear hS
    refine' lcEA F1 N1 (n + 1) (fun i y => ∃ u, y = .int (mvI i (S.getD i 0)) u) ?hA ?hsw ?hc ?hcell ?hk ?hnm ?hxa ?hxb ?hab ?hy ?hp ?hs ?_
    case hA => exact rfl
    case hsw => with_unfolding_all rfl
    case hc => exact rfl
    case hcell => decide
    case hk => exact rfl
    case hnm => decide
    case hxa => exact rfl
    case hxb => exact rfl
    case hab => decide
    case hy => exact rfl
    case hp => exact rfl
    case hs => intro _; rfl
    k_steps
    unfold Stop
    rename Fr _ _ _ _ => F3
    rename News _ _ _ _ => N3
    refine' enum_src (by exact rfl) F3 N3 (listOf_is (News.get N3 (by k_mem))) ?sz ?sn ?el ?fin
    case sz =>
      have := hS'.length
      rw [hsl] at this
      simpa using this
    case sn => omega
    case el =>
      intro C i x t s₃ m₃ E' hi hxi hk hn hm1 hm2
      obtain ⟨ux, hxe⟩ := ints_at hS' (i := i) (x := x) (by simpa using hxi)
      have hsix : 0 ≤ S.getD i 0 ∧ S.getD i 0 < 64 := by
        rw [List.getD_eq_getElem?_getD]
        cases e : S[i]? with
        | none => exact ⟨Int.le_refl _, by decide⟩
        | some x => exact hsb x (List.mem_of_getElem? e)
      generalize S.getD i 0 = six at hsix hxe ⊢
      subst hxe
      refine el_start X T B F3 hk hn rfl rfl (fun e1 => ?_)
      k_steps
      all_goals exact ⟨⟨_, congrArg (fun z => Value.int z _) (by unfold mvI; (repeat' split) <;> first | rfl | omega)⟩, ⟨_, _, rfl, e1.k2⟩⟩
    case fin =>
      intro D h' tk ys n' F5 N5 ne5 hpr
      simp only [List.forall_mem_cons, List.not_mem_nil, false_implies, implies_true, and_true] at ne5
      have hM := paired_f hpr
      rw [← hmdef] at hM
      have hszM : ys.size = n + 1 := by rw [← hml, ← hM.length, Array.length_toList]
      have N6 : News hp0 L _ [_, _] := News.pick N5 [0, 2]
      clear F3 N3 N5 hpr hS' hI0
      dsimp only
      k_steps
      rename _ ++ List.replicate (4 - _) 0 = _ => hx4
      rename Obj.data _ = Data.cell (some (Value.int _ _)) => d9
      generalize hz4 : M ++ List.replicate (4 - (n + 1)) 0 = zs4 at hfin
      rw [hx4] at hz4
      replace d9 := cell_num4 hz4 d9
      generalize num4 zs4 = Z0 at d9 hfin
      unfold Stop
      rename News _ _ _ _ => N9
      have N8 : News hp0 L _ [_] := News.pick N9 [4]
      clear N9
      refine' lc_range 3 2 (-1) (by decide) (fun i y => ∃ u, y = .int ((Z0.fdiv (k256 i)).fmod 256) u) ?hA ?hn ?hc ?hcell ?hk ?hnm ?hx ?hs ?_
      case hA => exact rfl
      case hn => omega
      case hc => exact rfl
      case hcell => decide
      case hk => exact rfl
      case hnm => decide
      case hx => exact rfl
      case hs => intro _; rfl
      k_steps
      rename Fr _ _ _ _ => F1
      rename News _ _ _ _ => N1
      refine' ⟨_, _, _, _, _, rfl, (by assumption), ?sm, ?rs, ?el, ?fin⟩
      case sm => decide
      case rs => decide
      case el =>
        intro C i tk s₃ m₃ E' hi hk hn hm
        have hb0 : 0 ≤ (2 + (i : Int) * (-1)) := by omega
        have hb1 : (2 + (i : Int) * (-1)) ≤ 3 := by omega
        obtain ⟨hp6, hp7, hp8⟩ := k256_pow hi
        refine el_start X T B F1 hk hn rfl rfl (fun e1 => ?_)
        k_steps
        exact ⟨⟨_, rfl⟩, ⟨_, _, rfl, e1.k2⟩⟩
      case fin =>
        intro D h' tk ys hD hpl hpr hkp
        have hI0 := paired_f hpr
        have hz0 : ys.size = 3 := by
          have := hI0.length
          simpa using this
        obtain ⟨yl⟩ := ys
        dsimp only at hI0
        obtain ⟨nD, F2, N2, ne2, nl2⟩ := lc_led2 F1 N1 hkp hD hpl
        simp only [List.forall_mem_cons, List.not_mem_nil, false_implies, implies_true, and_true] at ne2
        clear F1 N1 hkp hD hpl hpr
        k_steps
        rename IntsAre _ (List.take _ _) => hR
        refine hQ _ _ _ (Fr.keep (by k_asm)) ⟨_, _, rfl, News.fresh (by assumption) (List.Mem.head _), listOf_is (News.get (by assumption) (List.Mem.head _)), ?_⟩
        rw [← hfin]
        exact hR
end
end
end
end
end
section
/-- the writing to the base 16, as a text -/
def T16 (r : List Int) : Str := ⟨((hexUp r).map (·.toNat)).toArray⟩
/-- the writing to the base 64, as a text -/
def T64 (r : List Int) : Str := ⟨((byteArr (enc64 r)).toList.map (·.toNat)).toArray⟩
def C16 (r : List Int) : Str := Txt.capitalize (T16 r)
def C64 (r : List Int) : Str := Txt.capitalize (T64 r)
theorem t64_b : allRows.all (fun r => T64 r == b64S r) = true := by decide +kernel

theorem inb_row {r : List Int} (hr : r ∈ allRows) : R.InB r := by
  have h := all_rows (p := fun r => r.all fun n => decide (0 ≤ n) && decide (n < 256)) (by decide +kernel) hr
  simp only [List.all_eq_true, Bool.and_eq_true, decide_eq_true_eq] at h
  exact h
theorem len_row {r : List Int} (hr : r ∈ allRows) : r.length ≤ 3 := by
  have h := all_rows (p := fun r => decide (r.length ≤ 3)) (by decide +kernel) hr
  simpa using h
theorem enc_facts {r : List Int} (hr : r ∈ allRows) : (∀ c ∈ (byteArr (enc64 r)).toList, c.toNat < 128) ∧ (byteArr (enc64 r)).toList ≠ [] ∧ (byteArr (enc64 r)).toList.length ≤ 1000 := by
  have h := all_rows (p := fun r => ((byteArr (enc64 r)).toList.all fun c => decide (c.toNat < 128)) && !(byteArr (enc64 r)).toList.isEmpty && decide ((byteArr (enc64 r)).toList.length ≤ 1000)) (by decide +kernel) hr
  simp only [Bool.and_eq_true, decide_eq_true_eq, List.all_eq_true] at h
  obtain ⟨⟨h1, h2⟩, h3⟩ := h
  refine ⟨h1, fun e => ?_, h3⟩
  rw [e] at h2; cases h2
section
variable {w : World} {p : Program} {loose : List Str} {mean : ExcName → Option Value} {mg mb : Str → Option Value} {base : Heap} {outer : List Env} {dp un : Nat} {gd : Option (List Code)} {g : Heap} {C : Addr} {m : Str → Option Value} {s₃ : Heap} {s : Shared} {prog : Program} {A : Around} {E : Value → Shared → Prop} {Q : Value → Shared → Prop}
theorem El.bytes {D : Addr} {its : Array Value} {ns : List Int} (e : El w p loose mean mg mb base outer dp un gd g C m s₃ s.heap) (hl : s.heap.IsList D its) (hi : IntsAre its.toList ns) (hr : R.InB ns) (hn : ns.length ≤ 3) (hh : A.handled = none)
    (h : ∀ h' t' k, El w p loose mean mg mb base outer dp un gd g C m s₃ h' → Q (.bytes (byteArr ns) t') { s with heap := h', toks := k }) : wpAny (model prog w) A (PySem.call (.type "bytes") [.ref D]) Q E s := by
  refine call_bytes_ints (vs := its.toList) (by rw [Array.toArray_toList]; exact hl) hi hr (by rw [hi.length, sizeLine_eq]; omega) hh fun h' t' k hk => h h' t' k (e.next hk)
theorem R.str_ascii_arr {a : Array UInt8} {t u : Tok} (hne : a.toList ≠ []) (h : ∀ x ∈ a.toList, x.toNat < 128) (hsz : a.toList.length ≤ 1000) (hQ : ∀ t' k, Q (.str ⟨(a.toList.map (·.toNat)).toArray⟩ t') { s with toks := k }) :
    wpAny (model prog w) A (PySem.call (.type "str") [.bytes a t, .str (PySem.Str.ofString "ascii") u]) Q E s :=
  R.str_ascii (b := a.toList) hne h hsz hQ
end
end
section
/-- the law's own body and scope, as the program bears them -/
def lawDef : List Stmt × Scope := match PySem.Challenge.rw_qh0002_01.prog.main.body.getLast? with
  | some (.FunctionDef _ _ b _ _ _ sc _ _ _) => (b, sc)
  | _ => ([], { kind := .function, names := [], isGenerator := false, isCoroutine := false })
def lawBody : List Stmt := lawDef.1
def lawScope : Scope := lawDef.2
def Mark : Prop := True
theorem mark : Mark := trivial
section
variable {prog : Program} {w : World} {A : Around} {s : Shared} {E Q : Value → Shared → Prop} {env : Env} {x : Str} {pos : Pos} {h₀ : Heap} {L : Addr} {m : Str → Option Value} {v : Value}
theorem fr_name (F : Fr h₀ L s.heap m) (hm : m x = some v) (hL : env.locals = L) (hk : env.scope.kind = .function) (hx : env.kindOf x = some .local) (hd : (x == ("__debug__" : Str)) = false) (h : Q v s) : wpAny (model prog w) A (eval (.Name x pos) env) Q E s :=
  wpAny_Name (wpAny_loadName_local hk hx (hL ▸ F.ns) hm h) hd
end
/-- the ledger bears the row r at the value v -/
def RowOf (news : List (Addr × Obj)) (v : Value) (r : List Int) : Prop := ∃ T o its k, v = .ref T ∧ (T, o) ∈ news ∧ o.cls = .type "list" ∧ o.data = .seq its k ∧ IntsAre its.toList r
/-- the ledger bears the list of texts ws at the address D -/
def TextsOf (news : List (Addr × Obj)) (D : Addr) (ws : List Str) : Prop := ∃ its k, (D, ({ cls := .type "list", data := .seq its k } : Obj)) ∈ news ∧ StrsAre its.toList ws
/-- the ledger bears the list of rows rs at the address D -/
def RowsOf (news : List (Addr × Obj)) (D : Addr) (rs : List (List Int)) : Prop := ∃ its k, (D, ({ cls := .type "list", data := .seq its k } : Obj)) ∈ news ∧ Paired (RowOf news) its.toList rs
theorem ints_inj : ∀ {vs : List Value} {a b : List Int}, IntsAre vs a → IntsAre vs b → a = b := by
  intro vs a b p
  induction p generalizing b with
  | nil => intro q; cases q; rfl
  | cons n t r ih =>
    intro q
    cases q with
    | cons _ _ r' => rw [ih r']
theorem rowOf_inj {h₀ h : Heap} {L : Addr} {news : List (Addr × Obj)} {v : Value} {a b : List Int} (N : News h₀ L h news) (x : RowOf news v a) (y : RowOf news v b) : a = b := by
  obtain ⟨T, o, its, k, rfl, h1, _, h3, h4⟩ := x
  obtain ⟨T', o', its', k', e, h1', _, h3', h4'⟩ := y
  cases e
  have e1 := (N _ h1).1
  have e2 := (N _ h1').1
  dsimp only at e1 e2
  rw [e1] at e2
  cases e2
  rw [h3] at h3'
  cases h3'
  exact ints_inj h4 h4'
theorem rowOf_sub {n₁ n₂ : List (Addr × Obj)} (hs : ∀ p ∈ n₁, p ∈ n₂) {v : Value} {r : List Int} (x : RowOf n₁ v r) : RowOf n₂ v r := let ⟨T, o, its, k, a, b, c⟩ := x; ⟨T, o, its, k, a, hs _ b, c⟩
theorem rowOf_list {h₀ h : Heap} {L : Addr} {news : List (Addr × Obj)} {v : Value} {r : List Int} (N : News h₀ L h news) (x : RowOf news v r) : ∃ T its, v = .ref T ∧ h.IsList T its ∧ IntsAre its.toList r := by
  obtain ⟨T, o, its, k, rfl, h1, h2, h3, h4⟩ := x
  exact ⟨T, its, rfl, ⟨o, (N _ h1).1, h2, k, h3⟩, h4⟩
theorem paired_mem {α β : Type} {F : α → β → Prop} : ∀ {l₁ : List α} {l₂ : List β}, Paired F l₁ l₂ → ∀ a ∈ l₁, ∃ b ∈ l₂, F a b := by
  intro l₁ l₂ p
  induction p with
  | nil => intro a h; cases h
  | cons h t ih =>
    intro a ha
    rcases List.mem_cons.mp ha with rfl | ha
    · exact ⟨_, List.Mem.head _, h⟩
    · obtain ⟨b, hb, hf⟩ := ih a ha
      exact ⟨b, List.Mem.tail _ hb, hf⟩
theorem paired_texts {α : Type} {F : Value → α → Prop} {g : α → Str} : ∀ {vs ys : List Value} {rs : List α}, Paired F vs rs → Paired (fun v y => ∀ r, F v r → ∃ u, y = Value.str (g r) u) vs ys → StrsAre ys (rs.map g) := by
  intro vs ys rs p
  induction p generalizing ys with
  | nil => intro q; cases q; exact .nil
  | cons h t ih =>
    intro q
    cases q with
    | cons h' t' =>
      obtain ⟨u, rfl⟩ := h' _ h
      exact .cons _ u (ih t')

theorem ints_mem : ∀ {vs : List Value} {ns : List Int}, IntsAre vs ns → ∀ v ∈ vs, ∃ x t, v = Value.int x t := by
  intro vs ns p
  induction p with
  | nil => intro v h; cases h
  | cons n t r ih =>
    intro v h
    rcases List.mem_cons.mp h with rfl | h
    · exact ⟨n, t, rfl⟩
    · exact ih v h
theorem strs_mem : ∀ {vs : List Value} {ns : List Str}, StrsAre vs ns → ∀ v ∈ vs, ∃ x t, v = Value.str x t ∧ x ∈ ns
  | _, _, .nil, _, h => nomatch h
  | _, _, .cons n t r, v, h => by
    rcases List.mem_cons.mp h with rfl | h
    · exact ⟨n, t, rfl, List.Mem.head _⟩
    · obtain ⟨x, t, e, hx⟩ := strs_mem r v h
      exact ⟨x, t, e, List.Mem.tail _ hx⟩
theorem tests_all {prog : Program} {w : World} {A : Around} {env : Env} {s : Shared} {E : Value → Shared → Prop} : wpAny (model prog w) A (compTests [] env) (fun ok s₄ => EltIs (ok = true) s s₄) E s :=
  wpAny_tests_nil ⟨rfl, _, _, rfl, fun _ _ e => e⟩
theorem all_true {α : Type} (l : List α) : l.filter (fun _ => true) = l := List.filter_eq_self.mpr fun _ _ => rfl
def RowG (_ : Value) (its : Array Value) : Prop := ∃ r ∈ allRows, IntsAre its.toList r
theorem rows_out {tl : List (Addr × Obj)} : ∀ {vs ys : List Value}, Paired (fun v y => ∃ T o its k, y = Value.ref T ∧ (T, o) ∈ tl ∧ o.cls = Value.type "list" ∧ o.data = .seq its k ∧ RowG v its) vs ys →
    ∃ rs, Paired (RowOf tl) ys rs ∧ (∀ r ∈ rs, r ∈ allRows) ∧ rs.length = vs.length := by
  intro vs ys p
  induction p with
  | nil => exact ⟨[], .nil, (fun _ h => nomatch h), rfl⟩
  | cons h t ih =>
    obtain ⟨T, o, its, k, e, hm, hc, hd, r, hr, hi⟩ := h
    obtain ⟨rs, h1, h2, h3⟩ := ih
    refine ⟨r :: rs, .cons ⟨T, o, its, k, e, hm, hc, hd, hi⟩ h1, fun x hx => ?_, by rw [List.length_cons, List.length_cons, h3]⟩
    rcases List.mem_cons.mp hx with rfl | hx
    · exact hr
    · exact h2 x hx
theorem rowsOf_sub {n₁ n₂ : List (Addr × Obj)} (hs : ∀ p ∈ n₁, p ∈ n₂) {D : Addr} {rs : List (List Int)} (x : RowsOf n₁ D rs) : RowsOf n₂ D rs := let ⟨its, k, a, b⟩ := x; ⟨its, k, hs _ a, b.mono fun _ _ z => rowOf_sub hs z⟩
theorem textsOf_sub {n₁ n₂ : List (Addr × Obj)} (hs : ∀ p ∈ n₁, p ∈ n₂) {D : Addr} {ws : List Str} (x : TextsOf n₁ D ws) : TextsOf n₂ D ws := let ⟨its, k, a, b⟩ := x; ⟨its, k, hs _ a, b⟩

theorem El.kIn {w : World} {p : Program} {loose : List Str} {mean : ExcName → Option Value} {mg mb : Str → Option Value} {base : Heap} {outer : List Env} {dp un : Nat} {gd : Option (List Code)} {g : Heap} {C : Addr} {m : Str → Option Value} {s₃ h : Heap} (e : El w p loose mean mg mb base outer dp un gd g C m s₃ h) : (hd.heap_39 w.params).In h := e.X.keeps e.k
end
section
theorem reads_strs {h : Heap} : ∀ {vs : List Value} {ws : List Str}, StrsAre vs ws → ∃ as, ReadsAll h vs (ws.map PyData.str) as
  | _, _, .nil => ⟨_, .nil⟩
  | _, _, .cons y t r => let ⟨_, h'⟩ := reads_strs r; ⟨_, .cons (.str y t) h'⟩
theorem reads_ints {h : Heap} : ∀ {vs : List Value} {ns : List Int}, IntsAre vs ns → ∃ as, ReadsAll h vs (ns.map PyData.int) as
  | _, _, .nil => ⟨_, .nil⟩
  | _, _, .cons n t r => let ⟨_, h'⟩ := reads_ints r; ⟨_, .cons (.int n t) h'⟩
theorem reads_at {h : Heap} {D : Addr} {its : Array Value} {xs : List PyData} {as : List Addr} (hl : h.IsList D its) (hr : ReadsAll h its.toList xs as) : Reads h (.ref D) (.list xs) (D :: as) := by
  obtain ⟨o, ho, hc, n, hd⟩ := hl
  exact .list ho hc hd hr
/-- the heap bears the row r at v -/
def RowAt (h : Heap) (v : Value) (r : List Int) : Prop := ∃ T its, v = .ref T ∧ h.IsList T its ∧ IntsAre its.toList r
theorem reads_rows {h : Heap} : ∀ {vs : List Value} {rs : List (List Int)}, Paired (RowAt h) vs rs → ∃ as, ReadsAll h vs (rs.map fun r => PyData.list (r.map PyData.int)) as := by
  intro vs rs p
  induction p with
  | nil => exact ⟨_, .nil⟩
  | cons h t ih =>
    obtain ⟨T, its, e, hl, hi⟩ := h
    obtain ⟨as, h1⟩ := ih
    obtain ⟨bs, h2⟩ := reads_ints (h := h) hi
    subst e
    exact ⟨_, .cons (reads_at hl h2) h1⟩
theorem reads_bools {h : Heap} : ∀ {vs : List Value} {bs : List Bool}, Paired (fun v b => v = Value.bool b) vs bs → ∃ as, ReadsAll h vs (bs.map PyData.bool) as := by
  intro vs bs p
  induction p with
  | nil => exact ⟨_, .nil⟩
  | cons e t ih =>
    obtain ⟨as, h1⟩ := ih
    subst e
    exact ⟨_, .cons (.bool _) h1⟩
theorem shaped_all {α : Type} (f : α → PyData) (hc : ∀ a, (f a).canLay0 = true) (hd : ∀ a, (f a).depth ≤ 1) : ∀ l : List α, PyData.canLayAll0 (l.map f) = true ∧ PyData.depthAll (l.map f) ≤ 1
  | [] => ⟨rfl, by simp [PyData.depthAll]⟩
  | a :: r => by
    obtain ⟨h1, h2⟩ := shaped_all f hc hd r
    refine ⟨by simp [PyData.canLayAll0, hc a, h1], ?_⟩
    have := hd a
    simp only [List.map_cons, PyData.depthAll]
    omega
theorem shaped_list {α : Type} (f : α → PyData) (hc : ∀ a, (f a).canLay0 = true) (hd : ∀ a, (f a).depth ≤ 1) (l : List α) : SeqAt.shaped (.list (l.map f)) = true := by
  obtain ⟨h1, h2⟩ := shaped_all f hc hd l
  simp only [SeqAt.shaped, PyData.canLay0, PyData.depth, h1, Bool.true_and]
  exact decide_eq_true (by omega)
theorem eqvAll_refl {α : Type} (f : α → PyData) (he : ∀ a, PyData.eqv (f a) (f a) = true) : ∀ l : List α, PyData.eqvAll (l.map f) (l.map f) = true
  | [] => by simp [PyData.eqvAll]
  | a :: r => by simp [PyData.eqvAll, he a, eqvAll_refl f he r]
section
variable {prog : Program} {w : World} {A : Around} {E : Value → Shared → Prop} {s : Shared} {Q : Value → Shared → Prop} {a b : Addr} {xs ys : Array Value}
theorem ne_same {α : Type} (f : α → PyData) (l : List α) {as bs : List Addr} (ra : Reads s.heap (.ref a) (.list (l.map f)) as) (rb : Reads s.heap (.ref b) (.list (l.map f)) bs) (hsh : SeqAt.shaped (.list (l.map f)) = true) (he : ∀ a, PyData.eqv (f a) (f a) = true)
    (hu : A.units + 64 < cLine) (h : Q (.bool false) s) : wpAny (model prog w) A (compareOp .NotEq (.ref a) (.ref b)) Q E s :=
  ne_dataH ra rb hsh hsh hu (by
    have e : PyData.eqv (.list (l.map f)) (.list (l.map f)) = true := by simp only [PyData.eqv]; exact eqvAll_refl f he l
    rw [e]; exact h)
theorem eq_same {α : Type} (f : α → PyData) (l : List α) {as bs : List Addr} (ra : Reads s.heap (.ref a) (.list (l.map f)) as) (rb : Reads s.heap (.ref b) (.list (l.map f)) bs) (hsh : SeqAt.shaped (.list (l.map f)) = true) (he : ∀ a, PyData.eqv (f a) (f a) = true)
    (hu : A.units + 64 < cLine) (h : Q (.bool true) s) : wpAny (model prog w) A (compareOp .Eq (.ref a) (.ref b)) Q E s :=
  eq_dataH ra rb hsh hsh hu (by
    have e : PyData.eqv (.list (l.map f)) (.list (l.map f)) = true := by simp only [PyData.eqv]; exact eqvAll_refl f he l
    rw [e]; exact h)
theorem row_shape (rs : List (List Int)) : SeqAt.shaped (.list (rs.map fun r => PyData.list (r.map PyData.int))) = true :=
  shaped_list _ (fun r => by simp only [PyData.canLay0]; exact ke_canLayAll0 r) (fun r => by simp [PyData.depth, ke_depthAll r]) rs
theorem row_eqv (r : List Int) : PyData.eqv (PyData.list (r.map PyData.int)) (PyData.list (r.map PyData.int)) = true := by
  simp only [PyData.eqv]
  exact eqvAll_refl PyData.int (fun n => by simp [PyData.eqv]) r
theorem ne_rows {rs : List (List Int)} (ha : s.heap.IsList a xs) (hb : s.heap.IsList b ys) (hx : Paired (RowAt s.heap) xs.toList rs) (hy : Paired (RowAt s.heap) ys.toList rs) (hu : A.units + 64 < cLine) (h : Q (.bool false) s) :
    wpAny (model prog w) A (compareOp .NotEq (.ref a) (.ref b)) Q E s := by
  obtain ⟨_, r1⟩ := reads_rows hx
  obtain ⟨_, r2⟩ := reads_rows hy
  exact ne_same _ rs (reads_at ha r1) (reads_at hb r2) (row_shape rs) row_eqv hu h
theorem eq_rows {rs : List (List Int)} (ha : s.heap.IsList a xs) (hb : s.heap.IsList b ys) (hx : Paired (RowAt s.heap) xs.toList rs) (hy : Paired (RowAt s.heap) ys.toList rs) (hu : A.units + 64 < cLine) (h : Q (.bool true) s) :
    wpAny (model prog w) A (compareOp .Eq (.ref a) (.ref b)) Q E s := by
  obtain ⟨_, r1⟩ := reads_rows hx
  obtain ⟨_, r2⟩ := reads_rows hy
  exact eq_same _ rs (reads_at ha r1) (reads_at hb r2) (row_shape rs) row_eqv hu h
theorem ne_bools {bs : List Bool} (ha : s.heap.IsList a xs) (hb : s.heap.IsList b ys) (hx : Paired (fun v b => v = Value.bool b) xs.toList bs) (hy : Paired (fun v b => v = Value.bool b) ys.toList bs) (hu : A.units + 64 < cLine) (h : Q (.bool false) s) :
    wpAny (model prog w) A (compareOp .NotEq (.ref a) (.ref b)) Q E s := by
  obtain ⟨_, r1⟩ := reads_bools (h := s.heap) hx
  obtain ⟨_, r2⟩ := reads_bools (h := s.heap) hy
  exact ne_same _ bs (reads_at ha r1) (reads_at hb r2) (shaped_list _ (fun _ => rfl) (fun _ => by simp [PyData.depth]) bs) (fun b => by simp [PyData.eqv]) hu h
theorem ne_texts {ws : List Str} (ha : s.heap.IsList a xs) (hb : s.heap.IsList b ys) (hx : StrsAre xs.toList ws) (hy : StrsAre ys.toList ws) (hok : ∀ x ∈ ws, PyData.strOk x = true) (hu : A.units + 64 < cLine) (h : Q (.bool false) s) :
    wpAny (model prog w) A (compareOp .NotEq (.ref a) (.ref b)) Q E s := by
  obtain ⟨_, r1⟩ := reads_strs (h := s.heap) hx
  obtain ⟨_, r2⟩ := reads_strs (h := s.heap) hy
  refine ne_same _ ws (reads_at ha r1) (reads_at hb r2) ?_ (fun b => by simp [PyData.eqv]) hu h
  have key : ∀ l : List Str, (∀ x ∈ l, PyData.strOk x = true) → PyData.canLayAll0 (l.map PyData.str) = true ∧ PyData.depthAll (l.map PyData.str) ≤ 1 := by
    intro l
    induction l with
    | nil => intro _; exact ⟨rfl, by simp [PyData.depthAll]⟩
    | cons a r ih =>
      intro hl
      obtain ⟨h1, h2⟩ := ih fun x hx => hl x (List.Mem.tail _ hx)
      refine ⟨by simp [PyData.canLayAll0, PyData.canLay0, hl a (List.Mem.head _), h1], ?_⟩
      simp only [List.map_cons, PyData.depthAll, PyData.depth]
      omega
  obtain ⟨h1, h2⟩ := key ws hok
  simp only [SeqAt.shaped, PyData.canLay0, PyData.depth, h1, Bool.true_and]
  exact decide_eq_true (by omega)
end

def hx16 : Str := Str.ofString "0123456789ABCDEF"
def hexTwo (o : Int) : Str := Txt.item hx16 (o.fdiv 16) ++ Txt.item hx16 (o.fmod 16)
def J16 (r : List Int) : Str := Txt.join (Str.ofString "") (r.map hexTwo)
theorem h2_len (o : Int) : (hexTwo o).length = 2 := rfl
theorem t16_facts {r : List Int} (hr : r ∈ allRows) : J16 r = T16 r ∧ PyData.strOk (T16 r) = true := by
  have h := all_rows (p := fun r => J16 r == T16 r && PyData.strOk (T16 r)) (by decide +kernel) hr
  simp only [Bool.and_eq_true, beq_iff_eq] at h
  exact h
theorem t64_facts {r : List Int} (hr : r ∈ allRows) : b64S r = T64 r ∧ PyData.strOk (T64 r) = true := by
  have h := all_rows (p := fun r => T64 r == b64S r) t64_b hr
  have h' := all_rows (p := fun r => PyData.strOk (T64 r)) (by decide +kernel) hr
  simp only [beq_iff_eq] at h
  exact ⟨h.symm, h'⟩
theorem fdiv16 {x : Int} (h0 : 0 ≤ x) (h1 : x < 256) : 0 ≤ x.fdiv 16 ∧ x.fdiv 16 < 16 := by
  rw [Int.fdiv_eq_ediv_of_nonneg _ (by decide)]
  omega
theorem map_congr_rows {α : Type} {f g : List Int → α} {rs : List (List Int)} (hrs : ∀ r ∈ rs, r ∈ allRows) (h : ∀ r ∈ allRows, f r = g r) : rs.map f = rs.map g := List.map_congr_left fun r hr => h r (hrs r hr)
theorem ints_mem' : ∀ {vs : List Value} {ns : List Int}, IntsAre vs ns → ∀ v ∈ vs, ∃ x t, v = Value.int x t ∧ x ∈ ns := by
  intro vs ns p
  induction p with
  | nil => intro v h; cases h
  | cons n t r ih =>
    intro v h
    rcases List.mem_cons.mp h with rfl | h
    · exact ⟨n, t, rfl, List.Mem.head _⟩
    · obtain ⟨x, t, e, hx⟩ := ih v h
      exact ⟨x, t, e, List.Mem.tail _ hx⟩
theorem ints_texts {g : Int → Str} : ∀ {vs ys : List Value} {ns : List Int}, IntsAre vs ns → Paired (fun v y => ∀ x t, v = Value.int x t → ∃ u, y = Value.str (g x) u) vs ys → StrsAre ys (ns.map g) := by
  intro vs ys ns p
  induction p generalizing ys with
  | nil => intro q; cases q; exact .nil
  | cons n t r ih =>
    intro q
    cases q with
    | cons h' t' =>
      obtain ⟨u, rfl⟩ := h' n t rfl
      exact .cons _ u (ih t')
theorem strs_texts {g : Str → Str} : ∀ {vs ys : List Value} {ns : List Str}, StrsAre vs ns → Paired (fun v y => ∀ x t, v = Value.str x t → ∃ u, y = Value.str (g x) u) vs ys → StrsAre ys (ns.map g) := by
  intro vs ys ns p
  induction p generalizing ys with
  | nil => intro q; cases q; exact .nil
  | cons n t r ih =>
    intro q
    cases q with
    | cons h' t' =>
      obtain ⟨u, rfl⟩ := h' n t rfl
      exact .cons _ u (ih t')
theorem strs_bools {g : Str → Bool} : ∀ {vs ys : List Value} {ns : List Str}, StrsAre vs ns → Paired (fun v y => ∀ x t, v = Value.str x t → y = Value.bool (g x)) vs ys → Paired (fun v b => v = Value.bool b) ys (ns.map g) := by
  intro vs ys ns p
  induction p generalizing ys with
  | nil => intro q; cases q; exact .nil
  | cons n t r ih =>
    intro q
    cases q with
    | cons h' t' => exact .cons (h' n t rfl) (ih t')
section
variable {prog : Program} {w : World} {A : Around} {E : Value → Shared → Prop} {s : Shared} {Q : Value → Shared → Prop}
theorem item_s {value slice : PySem.Expr} {x : Str} {t u : Tok} {i : Int} (n : Nat) (hx : x.length = n) (hn : n ≤ 1000) (h0 : 0 ≤ i) (h1 : i < n) (h : Q (.str (Txt.item x i) s.toks) { s with toks := s.toks + 1 })
    (hs : subscripted slice false (.str x t) (.int i u) = operate [.str x t, .int i u] (getItem (.str x t) (.int i u)) := by with_unfolding_all rfl)
    (ht : ∀ r, letTemporaryGo value (.str x t) r = pure () := by intro _; with_unfolding_all rfl) :
    wpAny (model prog w) A (subscriptTail value slice (.str x t) (.int i u)) Q E s := by
  have e63 : (2 : Int) ^ 63 = 9223372036854775808 := by decide
  refine PyProof.Rows.item_str ?_ (by omega) (by omega) (fun _ => h) hs ht
  unfold fitsSsize
  simp only [Bool.not_eq_true', Bool.or_eq_false_iff, decide_eq_false_iff_not]
  omega
end
section
variable {w : World} {p : Program} {loose : List Str} {mean : ExcName → Option Value} {mg mb : Str → Option Value} {base : Heap} {outer : List Env} {dp un : Nat} {gd : Option (List Code)} {g : Heap} {C C' : Addr} {m m' : Str → Option Value} {s₃ h h' : Heap}
theorem El.inner (e : El w p loose mean mg mb base outer dp un gd g C m s₃ h) (hk : Kept h h') (hn : h'.Ns C' m') : El w p loose mean mg mb base outer dp un gd h C' m' h' h' :=
  ⟨e.kIn, e.T.keeps e.k, below_keeps e.B e.k, hk, kept_refl _, hn⟩
end
end
section
theorem join_eq (sep : Str) (l : List Str) : Txt.join sep l = Str.join sep l := StrLaws.glued_eq_join sep l
theorem nil_mk : Str.ofString "" = Str.empty := by decide
theorem join0_cons (x : Str) (r : List Str) : Str.join (Str.ofString "") (x :: r) = x ++ Str.join (Str.ofString "") r := by
  cases r with
  | nil =>
    show x = x ++ Str.empty
    rw [Str.append_empty]
  | cons y r =>
    show x ++ Str.ofString "" ++ _ = _
    rw [nil_mk, Str.append_empty]
def pcs : Nat → List Str → List Str
  | _, [] => []
  | k, w :: r => (w ++ sepAt k) :: pcs (k + 1) r
theorem pcs_len : ∀ (ws : List Str) (k : Nat), (pcs k ws).length = ws.length
  | [], _ => rfl
  | _ :: r, k => congrArg (· + 1) (pcs_len r (k + 1))
theorem pcs_get : ∀ (ws : List Str) (k i : Nat), (pcs k ws)[i]? = ws[i]?.map fun w => w ++ sepAt (k + i)
  | [], _, i => by simp [pcs]
  | w :: r, k, 0 => by simp [pcs]
  | w :: r, k, i + 1 => by
    simp only [pcs, List.getElem?_cons_succ]
    rw [pcs_get r (k + 1) i]
    have : k + 1 + i = k + (i + 1) := by omega
    rw [this]
theorem pieces_pcs (ws : List Str) : pieces ws = pcs 0 ws := by
  refine List.ext_getElem? fun i => ?_
  rw [pcs_get, Nat.zero_add]
  unfold pieces
  rw [List.getElem?_map]
  by_cases h : i < ws.length
  · rw [List.getElem?_range h, List.getElem?_eq_getElem h, Option.map_some, Option.map_some, List.getD_eq_getElem?_getD, List.getElem?_eq_getElem h]
    rfl
  · rw [List.getElem?_eq_none (by rw [List.length_range]; omega), List.getElem?_eq_none (by omega)]
    rfl
/-- a word that a blank does not break -/
def PlainW (x : Str) : Prop := x.cps.toList.all (fun c => !Unicode.isSpace c) = true ∧ x.length ≠ 0
theorem fold_word {ws : List Str} {w : Str} (hw : PlainW w) (k : Nat) : (w ++ sepAt k).cps.toList.foldl KWd.step (ws, Str.empty) = (ws ++ [w], Str.empty) := by
  rw [Str.cps_append, Array.toList_append, List.foldl_append, KWk.fold_plain _ _ hw.1]
  have e : Str.empty ++ (⟨w.cps.toList.toArray⟩ : Str) = w := by
    obtain ⟨c⟩ := w
    show Str.mk _ = _
    congr 1
    exact Array.empty_append
  rw [e]
  have hs : ∃ c, sepAt k = ⟨#[c]⟩ ∧ Unicode.isSpace c = true := by
    unfold sepAt
    split
    · exact ⟨32, by decide, by decide⟩
    · exact ⟨10, by decide, by decide⟩
  obtain ⟨c, e1, e2⟩ := hs
  rw [e1]
  show KWd.step (ws, w) c = _
  unfold KWd.step
  rw [if_pos e2, if_neg hw.2]
theorem fold_line : ∀ (ws : List Str) (k : Nat) (acc : List Str), (∀ w ∈ ws, PlainW w) → (Str.join (Str.ofString "") (pcs k ws)).cps.toList.foldl KWd.step (acc, Str.empty) = (acc ++ ws, Str.empty)
  | [], _, acc, _ => by
    rw [List.append_nil]; rfl
  | w :: r, k, acc, h => by
    show (Str.join (Str.ofString "") ((w ++ sepAt k) :: pcs (k + 1) r)).cps.toList.foldl KWd.step (acc, Str.empty) = _
    rw [join0_cons, Str.cps_append, Array.toList_append, List.foldl_append, fold_word (h w (List.Mem.head _)), fold_line r (k + 1) _ fun x hx => h x (List.Mem.tail _ hx), List.append_assoc]
    rfl
theorem words_line {ws : List Str} (h : ∀ w ∈ ws, PlainW w) : Txt.words (lineS ws) = ws := by
  rw [KWd.words_scan]
  unfold lineS KWd.scan
  rw [join_eq, pieces_pcs, fold_line ws 0 [] h]
  rfl

theorem cut_inj {c : Nat} : ∀ {a b x y : List Nat}, c ∉ a → c ∉ b → a ++ c :: x = b ++ c :: y → a = b ∧ x = y
  | [], [], _, _, _, _, h => ⟨rfl, (List.cons.inj h).2⟩
  | [], d :: b, _, _, _, hb, h => absurd ((List.cons.inj h).1 ▸ List.Mem.head _) hb
  | d :: a, [], _, _, ha, _, h => absurd ((List.cons.inj h).1 ▸ List.Mem.head _) ha
  | d :: a, e :: b, _, _, ha, hb, h => by
    have h' := List.cons.inj h
    obtain ⟨h1, h2⟩ := cut_inj (fun q => ha (List.Mem.tail _ q)) (fun q => hb (List.Mem.tail _ q)) h'.2
    exact ⟨by rw [h'.1, h1], h2⟩
theorem join_list (c : Nat) (x y : Str) (r : List Str) : (Str.join ⟨#[c]⟩ (x :: y :: r)).cps.toList = x.cps.toList ++ c :: (Str.join ⟨#[c]⟩ (y :: r)).cps.toList := by
  show (x ++ (⟨#[c]⟩ : Str) ++ Str.join ⟨#[c]⟩ (y :: r)).cps.toList = _
  rw [Str.cps_append, Str.cps_append, Array.toList_append, Array.toList_append, List.append_assoc]
  rfl
theorem str_list {x y : Str} (h : x.cps.toList = y.cps.toList) : x = y := Str.ext' (Array.toList_inj.mp h)
theorem join_inj (c : Nat) : ∀ (as bs : List Str), as ≠ [] → bs ≠ [] → (∀ x ∈ as, c ∉ x.cps.toList) → (∀ x ∈ bs, c ∉ x.cps.toList) → (Str.join ⟨#[c]⟩ as).cps.toList = (Str.join ⟨#[c]⟩ bs).cps.toList → as = bs
  | [], _, h, _, _, _, _ => absurd rfl h
  | _, [], _, h, _, _, _ => absurd rfl h
  | [a], [b], _, _, _, _, h => by rw [str_list (x := a) (y := b) h]
  | [a], b :: b' :: r, _, _, ha, _, h => by
    rw [join_list] at h
    have h' : a.cps.toList = _ := h
    exact absurd (h' ▸ List.mem_append_right _ (List.Mem.head _)) (ha a (List.Mem.head _))
  | a :: a' :: r, [b], _, _, _, hb, h => by
    rw [join_list] at h
    have h' : _ = b.cps.toList := h
    exact absurd (h' ▸ List.mem_append_right _ (List.Mem.head _)) (hb b (List.Mem.head _))
  | a :: a' :: r, b :: b' :: t, _, _, ha, hb, h => by
    rw [join_list, join_list] at h
    obtain ⟨h1, h2⟩ := cut_inj (ha a (List.Mem.head _)) (hb b (List.Mem.head _)) h
    rw [str_list h1, join_inj c (a' :: r) (b' :: t) (fun q => nomatch q) (fun q => nomatch q) (fun x hx => ha x (List.Mem.tail _ hx)) (fun x hx => hb x (List.Mem.tail _ hx)) h2]
theorem split_join {cs : List Str} (hne : cs ≠ []) (h : ∀ x ∈ cs, 32 ∉ x.cps.toList) : Txt.split (Txt.join (Str.ofString " ") cs) (Str.ofString " ") = cs := by
  rw [KWk.blank_mk, join_eq]
  have h1 := StrLaws.join_split (Str.join ⟨#[32]⟩ cs) ⟨#[32]⟩
  refine join_inj 32 _ _ ?_ hne (StrLaws.split_free _ 32) h (by rw [h1])
  intro e
  have := split_pos (Str.join ⟨#[32]⟩ cs) ⟨#[32]⟩
  rw [e] at this
  exact absurd this (by decide)
end
section
def capE (x : Str) : Str := Txt.upper (Txt.item x 0) ++ Txt.lower (Txt.slice x (some 1) none)
def capL : List Nat → List Nat
  | [] => []
  | c :: r => up1 c :: r.map lo1
theorem titleOf_ascii : ∀ c, c < 128 → Unicode.titleOf c = [up1 c] := by decide +kernel
theorem flat_idx (g : Nat → Nat → Nat) : ∀ (l : List Nat) (f : Nat → Nat → List Nat), (∀ i c, l[i]? = some c → f i c = [g i c]) → (l.mapIdx f).flatten = l.mapIdx g := by
  intro l
  induction l generalizing g with
  | nil => intro f _; rfl
  | cons a r ih =>
    intro f h
    rw [List.mapIdx_cons, List.flatten_cons, h 0 a rfl, List.mapIdx_cons, ih (fun i c => g (i + 1) c) (fun i c => f (i + 1) c) fun i c hc => h (i + 1) c (by simpa using hc)]
    rfl
theorem map_idx_const (g : Nat → Nat) : ∀ l : List Nat, l.mapIdx (fun _ c => g c) = l.map g
  | [] => rfl
  | a :: r => by rw [List.mapIdx_cons, List.map_cons, map_idx_const g r]
theorem placed_idx (x : Str) (f : Nat → Nat → List Nat) (g : Nat → Nat → Nat) (h : ∀ i c, x.cps.toList[i]? = some c → f i c = [g i c]) : (placed x f).toList = x.cps.toList.mapIdx g := by
  have := flat_idx g x.cps.toList f h
  simp only [placed, Array.toList_flatten, Array.toList_map, Array.toList_mapIdx]
  rw [map_toList_mapIdx]
  exact this
theorem cap_ascii {x : Str} (hA : ∀ c ∈ x.cps.toList, c < 128) (hne : x.length ≠ 0) : (Txt.capitalize x).cps.toList = capL x.cps.toList := by
  unfold Txt.capitalize
  have h0 : (x.length == 0) = false := by simpa using hne
  rw [h0]
  simp only [Bool.false_eq_true, if_false]
  unfold Txt.capitalized
  rw [placed_idx x _ (fun i c => if i = 0 then up1 c else lo1 c) fun i c hc => by
    have hc' : x.cps[i]? = some c := by simpa using hc
    have hlt := hA c (List.mem_of_getElem? hc)
    by_cases hi : i = 0
    · subst hi
      simp only [beq_self_eq_true, if_true]
      exact titleOf_ascii c hlt
    · have : (i == 0) = false := by simpa using hi
      rw [this, if_neg hi]
      simp only [Bool.false_eq_true, if_false]
      unfold Unicode.lowerAt
      rw [hc']
      have hne : (c == 0x3A3) = false := by rw [beq_eq_false_iff_ne]; omega
      simp only [hne, Bool.false_and, Bool.false_eq_true, if_false]
      exact lowerOf_ascii c hlt]
  cases x.cps.toList with
  | nil => rfl
  | cons a r =>
    rw [List.mapIdx_cons]
    show up1 a :: _ = up1 a :: _
    congr 1
    exact map_idx_const lo1 r
def okW (x : Str) : Bool := x.cps.toList.all (fun c => decide (33 ≤ c) && decide (c ≤ 126)) && x.length != 0 && decide (x.length ≤ 8) && (Txt.item x 0).cps.toList == x.cps.toList.take 1 && (Txt.slice x (some 1) none).cps.toList == x.cps.toList.drop 1
structure WordOk (x : Str) : Prop where
  plain : PlainW x
  len : x.length ≤ 8
  cap : capE x = Txt.capitalize x
  clen : (Txt.capitalize x).length ≤ 8
  blank : 32 ∉ (Txt.capitalize x).cps.toList
  asc : ∀ c ∈ (Txt.capitalize x).cps, c < 128
  size : (Txt.capitalize x).cps.size ≠ 0
theorem capL_in : ∀ {l : List Nat}, (∀ c ∈ l, 33 ≤ c ∧ c ≤ 126) → ∀ c ∈ capL l, 33 ≤ c ∧ c ≤ 126
  | [], _, _, h => nomatch h
  | a :: r, h, c, hc => by
    rcases List.mem_cons.mp hc with rfl | hc
    · have := h a (List.Mem.head _)
      unfold up1
      split <;> omega
    · obtain ⟨d, hd, rfl⟩ := List.mem_map.mp hc
      have := h d (List.Mem.tail _ hd)
      unfold lo1
      split <;> omega
theorem capL_len : ∀ l : List Nat, (capL l).length = l.length
  | [] => rfl
  | a :: r => by show (r.map lo1).length + 1 = _; rw [List.length_map]; rfl
theorem wordOk {x : Str} (h : okW x = true) : WordOk x := by
  unfold okW at h
  simp only [Bool.and_eq_true, decide_eq_true_eq, bne_iff_ne, ne_eq, beq_iff_eq, List.all_eq_true] at h
  obtain ⟨⟨⟨⟨h1, h2⟩, h3⟩, h4⟩, h5⟩ := h
  have hA : ∀ c ∈ x.cps.toList, c < 128 := fun c hc => by have := h1 c hc; omega
  have hc := cap_ascii hA h2
  have hin := capL_in h1
  have hlen : (Txt.capitalize x).length = x.length := by
    show (Txt.capitalize x).cps.size = x.cps.size
    rw [← Array.length_toList, hc, capL_len, Array.length_toList]
  refine ⟨⟨?_, h2⟩, h3, ?_, by omega, fun hm => ?_, fun c hm => ?_, ?_⟩
  · rw [List.all_eq_true]
    intro c hm
    have := h1 c hm
    rw [KWk.nosp this.1 this.2]; rfl
  · apply str_list
    rw [hc]
    unfold capE
    have i1 : ∀ c ∈ (Txt.item x 0).cps.toList, c < 128 := fun c hm => by rw [h4] at hm; exact hA c (List.mem_of_mem_take hm)
    have i2 : ∀ c ∈ (Txt.slice x (some 1) none).cps.toList, c < 128 := fun c hm => by rw [h5] at hm; exact hA c (List.mem_of_mem_drop hm)
    rw [upper_ascii i1, lower_ascii i2, Str.cps_append, Array.toList_append, Array.toList_map, Array.toList_map, h4, h5]
    cases x.cps.toList with
    | nil => rfl
    | cons a r => rfl
  · rw [hc] at hm
    have := hin 32 hm
    omega
  · have hm' := Array.mem_toList_iff.mpr hm
    rw [hc] at hm'
    have := hin c hm'
    omega
  · show (Txt.capitalize x).length ≠ 0
    omega
theorem t16_ok : allRows.all (fun r => okW (T16 r)) = true := by decide +kernel
theorem t64_ok : allRows.all (fun r => okW (T64 r)) = true := by decide +kernel
theorem ok16 {r : List Int} (hr : r ∈ allRows) : WordOk (T16 r) := wordOk (all_rows (p := fun r => okW (T16 r)) t16_ok hr)
theorem ok64 {r : List Int} (hr : r ∈ allRows) : WordOk (T64 r) := wordOk (all_rows (p := fun r => okW (T64 r)) t64_ok hr)
/-- the signs of the capitalised writings -/
theorem c16_list {r : List Int} (hr : r ∈ allRows) : (C16 r).cps.toList = capL (T16 r).cps.toList := by
  have h := all_rows (p := fun r => okW (T16 r)) t16_ok hr
  unfold okW at h
  simp only [Bool.and_eq_true, decide_eq_true_eq, bne_iff_ne, ne_eq, beq_iff_eq, List.all_eq_true] at h
  obtain ⟨⟨⟨⟨h1, h2⟩, h3⟩, h4⟩, h5⟩ := h
  exact cap_ascii (fun c hc => by have := h1 c hc; omega) h2
theorem c64_list {r : List Int} (hr : r ∈ allRows) : (C64 r).cps.toList = capL (T64 r).cps.toList := by
  have h := all_rows (p := fun r => okW (T64 r)) t64_ok hr
  unfold okW at h
  simp only [Bool.and_eq_true, decide_eq_true_eq, bne_iff_ne, ne_eq, beq_iff_eq, List.all_eq_true] at h
  obtain ⟨⟨⟨⟨h1, h2⟩, h3⟩, h4⟩, h5⟩ := h
  exact cap_ascii (fun c hc => by have := h1 c hc; omega) h2
end
section
def forBody : List Stmt := match lawBody.drop 5 with
  | (.For _ _ b _ _) :: _ => b
  | _ => []
section
variable {w : World} {p : Program} {loose : List Str} {mean : ExcName → Option Value} {mg mb : Str → Option Value} {base : Heap} {outer : List Env} {dp un : Nat} {gd : Option (List Code)} {g : Heap} {C : Addr} {m : Str → Option Value} {s₃ : Heap} {s : Shared} {prog : Program} {A : Around} {E : Value → Shared → Prop} {Q : Value → Shared → Prop}
theorem El.slice_sn {value slice : PySem.Expr} {x : Str} {t ui : Tok} {i : Int} (e : El w p loose mean mg mb base outer dp un gd g C m s₃ s.heap) (hsz : x.length ≤ 1000)
    (h : ∀ h' t' k, El w p loose mean mg mb base outer dp un gd g C m s₃ h' → Q (.str (Txt.slice x (some i) none) t') { s with heap := h', toks := k })
    (hs : subscripted slice false (.str x t) (.ref s.heap.objs.size) = operate [.ref s.heap.objs.size, .str x t] (getItem (.str x t) (.ref s.heap.objs.size)) := by with_unfolding_all rfl)
    (ht : ∀ r, letTemporaryGo value (.str x t) r = pure () := by intro _; with_unfolding_all rfl) :
    wpAny (model prog w) A (subscriptTail value slice (.str x t) (.ref s.heap.objs.size)) Q E { s with heap := s.heap.push { cls := .type "slice", data := .fields #[.int i ui, .none, .none] } } :=
  tail_of_ItemOn (SBH.sliceItem_sn (P := fun h => El w p loose mean mg mb base outer dp un gd g C m s₃ h) (fun _ _ e => e.next (kept_push _ _)) e h (by rw [sizeLine_eq]; omega)) hs ht
theorem El.slice_at {value slice : PySem.Expr} {x : Str} {t ui : Tok} {i : Int} {h1 : Heap} {a : Addr} (hh : s.heap = h1.push { cls := .type "slice", data := .fields #[.int i ui, .none, .none] }) (ha : a = h1.objs.size) (e : El w p loose mean mg mb base outer dp un gd g C m s₃ h1) (hsz : x.length ≤ 1000)
    (h : ∀ h' t' k, El w p loose mean mg mb base outer dp un gd g C m s₃ h' → Q (.str (Txt.slice x (some i) none) t') { s with heap := h', toks := k })
    (hs : subscripted slice false (.str x t) (.ref a) = operate [.ref a, .str x t] (getItem (.str x t) (.ref a)) := by with_unfolding_all rfl)
    (ht : ∀ r, letTemporaryGo value (.str x t) r = pure () := by intro _; with_unfolding_all rfl) :
    wpAny (model prog w) A (subscriptTail value slice (.str x t) (.ref a)) Q E s := by
  obtain ⟨hp, g1, d1, t1, o1⟩ := s
  dsimp only at hh
  subst hh ha
  exact El.slice_sn (s := ⟨h1, g1, d1, t1, o1⟩) e hsz h hs ht
end
section
variable {prog : Program} {w : World} {A : Around} {E : Value → Shared → Prop} {s : Shared} {Q : Value → Shared → Prop}
theorem item0 {value slice : PySem.Expr} {x : Str} {t u : Tok} (hx : x.length ≠ 0) (h : Q (.str (Txt.item x 0) s.toks) { s with toks := s.toks + 1 })
    (hs : subscripted slice false (.str x t) (.int 0 u) = operate [.str x t, .int 0 u] (getItem (.str x t) (.int 0 u)) := by with_unfolding_all rfl)
    (ht : ∀ r, letTemporaryGo value (.str x t) r = pure () := by intro _; with_unfolding_all rfl) :
    wpAny (model prog w) A (subscriptTail value slice (.str x t) (.int 0 u)) Q E s :=
  PyProof.Rows.item_str (by decide) (by omega) (by omega) (fun _ => h) hs ht
theorem ne_str_same {x : Str} {t u : Tok} (h : Q (.bool false) s) : wpAny (model prog w) A (compareOp .NotEq (.str x t) (.str x u)) Q E s :=
  ne_str (by rw [bne_self_eq_false]; exact h)
end
theorem up_len (x : Str) : (Txt.upper (Txt.item x 0)).length ≤ 1000 := by
  have h1 := len_upper (Txt.item x 0)
  have h2 : (Txt.item x 0).length = 1 := rfl
  omega
theorem lo_len {x : Str} (h : x.length ≤ 8) : (Txt.lower (Txt.slice x (some 1) none)).length ≤ 1000 := by
  have h1 := len_lower (Txt.slice x (some 1) none)
  have h2 := Txt.slice_le x (some 1) none
  omega
theorem lo_fit {x : Str} (h : x.length ≤ 8) : (Txt.slice x (some 1) none).length ≤ 5592405 := by
  have h2 := Txt.slice_le x (some 1) none
  omega
theorem line_len {ws : List Str} (h : ∀ x ∈ ws, WordOk x) (hn : ws.length ≤ 14) : (lineS ws).length ≤ 100000 := by
  unfold lineS
  refine Nat.le_trans (join_le _ _) ?_
  have h1 := sum_le (fun z : Str => z.length) 9 (pieces ws) (fun z hz => by
    unfold pieces at hz
    obtain ⟨i, hi, rfl⟩ := List.mem_map.mp hz
    have h3 := sepAt_len i
    have h2 : (ws.getD i Str.empty).length ≤ 8 := by
      rw [List.getD_eq_getElem?_getD]
      cases e : ws[i]? with
      | none => exact Nat.zero_le _
      | some x => exact (h x (List.mem_of_getElem? e)).len
    show (ws.getD i Str.empty ++ sepAt i).length ≤ 9
    rw [Str.length_append]; omega)
  have h4 : (pieces ws).length = ws.length := by unfold pieces; rw [List.length_map, List.length_range]
  have h5 : (Str.ofString "").length = 0 := rfl
  rw [h4] at h1
  rw [h4, h5]
  omega
theorem caps_weight {ws : List Str} (h : ∀ x ∈ ws, WordOk x) (hn : ws.length ≤ 14) : ((ws.map Txt.capitalize).map (·.length)).sum + (ws.map Txt.capitalize).length ≤ 1048576 := by
  have h1 := sum_le (fun z : Str => z.length) 8 (ws.map Txt.capitalize) (fun z hz => by
    obtain ⟨x, hx, rfl⟩ := List.mem_map.mp hz
    exact (h x hx).clen)
  rw [List.length_map] at h1 ⊢
  omega
theorem caps_ok {ws : List Str} (h : ∀ x ∈ ws, WordOk x) (hn : ws.length ≤ 14) : JoinOk (Str.ofString " ") (ws.map Txt.capitalize) = true := joinOk_of_weight (caps_weight h hn) (by decide)
theorem caps_len {ws : List Str} (h : ∀ x ∈ ws, WordOk x) (hn : ws.length ≤ 14) : (capText ws).length ≤ 100000 := by
  unfold capText
  refine Nat.le_trans (join_le _ _) ?_
  have h1 := caps_weight h hn
  have h2 := sum_le (fun z : Str => z.length) 8 (ws.map Txt.capitalize) (fun z hz => by
    obtain ⟨x, hx, rfl⟩ := List.mem_map.mp hz
    exact (h x hx).clen)
  have h5 : (Str.ofString " ").length = 1 := rfl
  rw [List.length_map] at h2
  rw [List.length_map, h5]
  omega
end
section
/-- the signs' codes of the capitalised writing to the base 16 -/
def c16L (r : List Int) : List Nat := capL ((hexUp r).map (·.toNat))
def c16B (r : List Int) : List UInt8 := (c16L r).map (·.toUInt8)
def hexR : List Int → List Int
  | [c0, c1] => [hexV c0 * 16 + hexV c1]
  | [c0, c1, c2, c3] => [hexV c0 * 16 + hexV c1, hexV c2 * 16 + hexV c3]
  | [c0, c1, c2, c3, c4, c5] => [hexV c0 * 16 + hexV c1, hexV c2 * 16 + hexV c3, hexV c4 * 16 + hexV c5]
  | _ => []
def hexOk (l r : List Int) : Bool := (l.length == 2 || l.length == 4 || l.length == 6) && (l.all fun c => decide (0 ≤ hexV c) && decide (hexV c < 16)) && hexR l == r
/-- has a letter behind the first sign -/
def letBeh (l : List Nat) : Bool := (l.drop 1).any fun c => decide (97 ≤ c) && decide (c ≤ 102)
theorem f_up : allRows.all (fun r => (c16B r).map Builtin.Bytes.toUpper == hexUp r) = true := by decide +kernel
theorem f_hex : allRows.all (fun r => hexOk ((hexUp r).map fun c => ((c.toNat : Nat) : Int)) r) = true := by decide +kernel
theorem f_let : allRows.all (fun r => letBeh (c16L r) || c16B r == hexUp r) = true := by decide +kernel
end
section
namespace R
def hexCodes : List Nat := [48, 49, 50, 51, 52, 53, 54, 55, 56, 57, 65, 66, 67, 68, 69, 70]
theorem inset_hex : ∀ c ∈ hexCodes, ∀ seen, ∃ seen', Sre.inSet reCode c reCode.size 5 true seen = .ok (false, seen') := by
  intro c hc seen
  simp only [hexCodes, List.mem_cons, List.not_mem_nil, or_false] at hc
  rcases hc with rfl | rfl | rfl | rfl | rfl | rfl | rfl | rfl | rfl | rfl | rfl | rfl | rfl | rfl | rfl | rfl <;> exact ⟨_, rfl⟩
theorem admitted_none (m : Sre.M) (hm : m.code = reCode) (ht : ∀ i, i < m.lim → m.text.getD i 0 ∈ hexCodes) : ∀ fuel s seen, ∃ seen', Sre.M.admitted m fuel s seen = .ok (none, seen')
  | 0, _, seen => ⟨seen, rfl⟩
  | fuel + 1, s, seen => by
    unfold Sre.M.admitted
    by_cases hs : s ≥ m.lim
    · rw [if_pos hs]; exact ⟨_, rfl⟩
    · rw [if_neg hs, hm]
      obtain ⟨s1, h1⟩ := inset_hex _ (ht s (by omega)) seen
      rw [h1]
      exact admitted_none m hm ht fuel (s + 1) s1
theorem fail_m (m : Sre.M) (hc : m.code = reCode) (ht : ∀ i, i < m.lim → m.text.getD i 0 ∈ hexCodes) (ho : m.outcome = none) (hf : m.frames = []) : failedB ((m.attemptFrom 0 true).runFor 4) = true := by
  unfold Sre.M.attemptFrom
  have h1 : m.hasFirstSet = true := by unfold Sre.M.hasFirstSet; rw [hc]; rfl
  obtain ⟨s1, h2⟩ := admitted_none m hc ht (m.lim + 1 - 0) 0 m.seen
  simp only [h1, Bool.not_true, Bool.false_eq_true, if_false, h2]
  simp [Sre.M.runFor, Sre.M.step, Sre.M.say, ho, hf, failedB]
theorem fail_of {b : Array UInt8} (hb : b.size ≠ 0) (h : ∀ i, i < b.size → (b.map (·.toNat)).getD i 0 ∈ hexCodes) : failedB (reM b) = true := by
  unfold reM Sre.forSearch
  have e1 : (Sre.header reCode).1 = 1 := by decide
  have e : (decide (0 > b.size) || decide (b.size - 0 < (Sre.header reCode).1)) = false := by
    rw [e1, Bool.or_eq_false_iff, decide_eq_false_iff_not, decide_eq_false_iff_not]
    omega
  simp only [e, Bool.false_eq_true, if_false]
  exact fail_m _ rfl h rfl rfl
theorem admitted_some (m : Sre.M) (hm : m.code = reCode) (k : Nat) (hk : k < m.lim) (ht : ∀ i, i < k → m.text.getD i 0 ∈ hexCodes) (hc : ∀ seen, ∃ seen', Sre.inSet reCode (m.text.getD k 0) reCode.size 5 true seen = .ok (true, seen')) : ∀ fuel s seen, s ≤ k → k < s + fuel → ∃ seen', Sre.M.admitted m fuel s seen = .ok (some k, seen')
  | 0, s, seen, h1, h2 => by omega
  | fuel + 1, s, seen, h1, h2 => by
    unfold Sre.M.admitted
    rw [if_neg (by omega), hm]
    by_cases e : s = k
    · subst e
      obtain ⟨s1, h3⟩ := hc seen
      rw [h3]
      exact ⟨_, rfl⟩
    · obtain ⟨s1, h3⟩ := inset_hex _ (ht s (by omega)) seen
      rw [h3]
      exact admitted_some m hm k hk ht hc fuel (s + 1) s1 (by omega) (by omega)
theorem inset_low : ∀ c ∈ [97, 98, 99, 100, 101, 102], ∀ seen, ∃ seen', Sre.inSet reCode c reCode.size 5 true seen = .ok (true, seen') := by
  intro c hc seen
  simp only [List.mem_cons, List.not_mem_nil, or_false] at hc
  rcases hc with rfl | rfl | rfl | rfl | rfl | rfl <;> exact ⟨_, rfl⟩
theorem inset_low2 : ∀ c ∈ [97, 98, 99, 100, 101, 102], ∀ seen, ∃ seen', Sre.accepts reCode 13 c seen = .ok (true, seen') := by
  intro c hc seen
  simp only [List.mem_cons, List.not_mem_nil, or_false] at hc
  rcases hc with rfl | rfl | rfl | rfl | rfl | rfl <;> exact ⟨_, rfl⟩
theorem exec_in (m : Sre.M) (hc : m.code = reCode) (hp : m.pc = 13) (hk : m.pos < m.lim) (f : Sre.Seen → Sre.Seen) (h4 : ∀ seen, Sre.accepts reCode 13 (m.text.getD m.pos 0) seen = .ok (true, f seen)) :
    m.exec = { m with seen := f (m.seen.add (m.word 0)), pc := 23, pos := m.pos + 1 } := by
  have hw : m.word 0 = 13 := by unfold Sre.M.word; rw [hc, hp]; rfl
  have ho : Sre.ops[m.word 0]? = some .IN := by rw [hw]; rfl
  have hi : Sre.itemWidth reCode 13 = 10 := rfl
  have hk' : ¬ m.pos ≥ m.lim := by omega
  unfold Sre.M.exec
  simp only [ho, hk', if_false, hc, hp, h4, hi]
theorem exec_ok (m : Sre.M) (hc : m.code = reCode) (hp : m.pc = 23) (hw : m.wholeText = false) (hm : m.mustAdvance = false) :
    m.exec = { m with seen := m.seen.add (m.word 0), handed := m.pos, answer := some true } := by
  have hw1 : m.word 0 = 1 := by unfold Sre.M.word; rw [hc, hp]; rfl
  have ho : Sre.ops[m.word 0]? = some .SUCCESS := by rw [hw1]; rfl
  unfold Sre.M.exec
  simp only [ho, hw, hm, Bool.false_and, Bool.or_self, Bool.and_false, Bool.false_eq_true, if_false, Sre.M.say]
theorem step_run (m : Sre.M) (ho : m.outcome = none) (ha : m.answer = none) (hp : m.pc < m.code.size) : m.step = m.exec := by
  unfold Sre.M.step
  simp only [ho, ha, Option.isSome_none, Bool.false_eq_true, if_false, hp, if_true]
theorem run_step (n : Nat) (m : Sre.M) (ho : m.outcome = none) : m.runFor (n + 1) = m.step.runFor n := by
  show (if m.outcome.isSome then m else m.step.runFor n) = _
  rw [ho]; rfl
theorem step_back (m : Sre.M) (ho : m.outcome = none) (ha : m.answer = some true) (fr : Sre.Frame) (hf : m.frames = [fr]) (hfr : fr.wait = .nextStart) : m.step.outcome = none ∧ m.step.answer = some true ∧ m.step.frames = [] := by
  unfold Sre.M.step
  simp only [ho, ha, hf, Option.isSome_none, Bool.false_eq_true, if_false, Sre.M.resume, hfr, if_true, Sre.M.say, and_self]
theorem step_end (m : Sre.M) (ho : m.outcome = none) (ha : m.answer = some true) (hf : m.frames = []) : m.step.outcome = some .matched := by
  unfold Sre.M.step
  simp only [ho, ha, hf, Option.isSome_none, Bool.false_eq_true, if_false, if_true]
theorem match_run (m : Sre.M) (hc : m.code = reCode) (hp : m.pc = 13) (hk : m.pos < m.lim) (hl : m.text.getD m.pos 0 ∈ [97, 98, 99, 100, 101, 102]) (ho : m.outcome = none) (ha : m.answer = none) (hw : m.wholeText = false) (hm : m.mustAdvance = false) (fr : Sre.Frame) (hf : m.frames = [fr]) (hfr : fr.wait = .nextStart) :
    matchedB (m.runFor 4) = true := by
  have h3 := inset_low2 _ hl
  obtain ⟨f, h4⟩ : ∃ f : Sre.Seen → Sre.Seen, ∀ seen, Sre.accepts reCode 13 (m.text.getD m.pos 0) seen = .ok (true, f seen) := ⟨fun s => Classical.choose (h3 s), fun s => Classical.choose_spec (h3 s)⟩
  have z : reCode.size = 24 := rfl
  have e1 := (step_run m ho ha (by rw [hc, hp, z]; decide)).trans (exec_in m hc hp hk f h4)
  generalize hM : ({ m with seen := f (m.seen.add (m.word 0)), pc := 23, pos := m.pos + 1 } : Sre.M) = m1 at e1
  have c1 : m1.code = reCode := by rw [← hM]; exact hc
  have p1 : m1.pc = 23 := by rw [← hM]
  have o1 : m1.outcome = none := by rw [← hM]; exact ho
  have a1 : m1.answer = none := by rw [← hM]; exact ha
  have w1 : m1.wholeText = false := by rw [← hM]; exact hw
  have d1 : m1.mustAdvance = false := by rw [← hM]; exact hm
  have f1 : m1.frames = [fr] := by rw [← hM]; exact hf
  have e2 := (step_run m1 o1 a1 (by rw [c1, p1, z]; decide)).trans (exec_ok m1 c1 p1 w1 d1)
  generalize hM2 : ({ m1 with seen := m1.seen.add (m1.word 0), handed := m1.pos, answer := some true } : Sre.M) = m2 at e2
  have o2 : m2.outcome = none := by rw [← hM2]; exact o1
  have a2 : m2.answer = some true := by rw [← hM2]
  have f2 : m2.frames = [fr] := by rw [← hM2]; exact f1
  obtain ⟨o3, a3, f3⟩ := step_back m2 o2 a2 fr f2 hfr
  have o4 := step_end m2.step o3 a3 f3
  rw [run_step 3 m ho, e1, run_step 2 m1 o1, e2, run_step 1 m2 o2, run_step 0 m2.step o3]
  show matchedB m2.step.step = true
  unfold matchedB
  rw [o4]
theorem match_m (m : Sre.M) (hc : m.code = reCode) (k : Nat) (hk : k < m.lim) (ht : ∀ i, i < k → m.text.getD i 0 ∈ hexCodes) (hl : m.text.getD k 0 ∈ [97, 98, 99, 100, 101, 102]) (ho : m.outcome = none) (hf : m.frames = []) (ha : m.answer = none) (hp : m.pc = 13) (hw : m.wholeText = false) (hwt : m.weight = 0) : matchedB ((m.attemptFrom 0 true).runFor 4) = true := by
  unfold Sre.M.attemptFrom
  have h1 : m.hasFirstSet = true := by unfold Sre.M.hasFirstSet; rw [hc]; rfl
  obtain ⟨s1, h2⟩ := admitted_some m hc k hk ht (inset_low _ hl) (m.lim + 1 - 0) 0 m.seen (Nat.zero_le _) (by omega)
  simp only [h1, Bool.not_true, Bool.false_eq_true, if_false, h2]
  unfold Sre.M.attemptAt Sre.M.attempt
  have hz : ¬ (m.weight + 1 + (#[] : Array (Option Nat)).size > 16777216) := by rw [hwt]; decide
  rw [if_neg hz]
  exact match_run _ hc hp hk hl ho ha hw rfl _ (by show _ :: m.frames = _; rw [hf]) rfl
theorem match_of {b : Array UInt8} (k : Nat) (hk : k < b.size) (ht : ∀ i, i < k → (b.map (·.toNat)).getD i 0 ∈ hexCodes) (hl : (b.map (·.toNat)).getD k 0 ∈ [97, 98, 99, 100, 101, 102]) : matchedB (reM b) = true := by
  unfold reM Sre.forSearch
  have e1 : (Sre.header reCode).1 = 1 := by decide
  have e : (decide (0 > b.size) || decide (b.size - 0 < (Sre.header reCode).1)) = false := by
    rw [e1, Bool.or_eq_false_iff, decide_eq_false_iff_not, decide_eq_false_iff_not]
    omega
  simp only [e, Bool.false_eq_true, if_false]
  exact match_m _ rfl k hk ht hl rfl rfl rfl rfl rfl rfl
theorem first_low : ∀ l : List UInt8, (∀ c ∈ l, c.toNat ∈ hexCodes ∨ c.toNat ∈ [97, 98, 99, 100, 101, 102]) → (∃ c ∈ l, c.toNat ∈ [97, 98, 99, 100, 101, 102]) →
    ∃ k, k < l.length ∧ (∀ i, i < k → ((l[i]?).getD 0).toNat ∈ hexCodes) ∧ ((l[k]?).getD 0).toNat ∈ [97, 98, 99, 100, 101, 102]
  | [], _, ⟨_, h, _⟩ => nomatch h
  | c :: r, h, he => by
    by_cases hc : c.toNat ∈ [97, 98, 99, 100, 101, 102]
    · exact ⟨0, Nat.succ_pos _, fun i hi => absurd hi (Nat.not_lt_zero _), hc⟩
    · have hh : c.toNat ∈ hexCodes := (h c (List.Mem.head _)).resolve_right hc
      obtain ⟨d, hd, hl⟩ := he
      rcases List.mem_cons.mp hd with rfl | hd
      · exact absurd hl hc
      · obtain ⟨k, h1, h2, h3⟩ := first_low r (fun x hx => h x (List.Mem.tail _ hx)) ⟨d, hd, hl⟩
        refine ⟨k + 1, Nat.succ_lt_succ h1, fun i hi => ?_, h3⟩
        cases i with
        | zero => exact hh
        | succ i => exact h2 i (Nat.lt_of_succ_lt_succ hi)
theorem getD_codes (l : List UInt8) (i : Nat) (hi : i < l.length) : (l.toArray.map (·.toNat)).getD i 0 = ((l[i]?).getD 0).toNat := by
  rw [Array.getD_eq_getD_getElem?, Array.getElem?_map, List.getElem?_toArray, List.getElem?_eq_getElem hi]
  rfl
end R
theorem f_codes : allRows.all (fun r => !(hexUp r).isEmpty && (hexUp r).all fun c => decide (c.toNat ∈ R.hexCodes)) = true := by decide +kernel
theorem f_mix : allRows.all (fun r => (c16B r).all (fun c => decide (c.toNat ∈ R.hexCodes) || decide (c.toNat ∈ [97, 98, 99, 100, 101, 102])) && (!letBeh (c16L r) || (c16B r).any fun c => decide (c.toNat ∈ [97, 98, 99, 100, 101, 102]))) = true := by decide +kernel
theorem re_failed {r : List Int} (hr : r ∈ allRows) : R.failedB (R.reM (hexUp r).toArray) = true := by
  have h := all_rows (p := fun r => !(hexUp r).isEmpty && (hexUp r).all fun c => decide (c.toNat ∈ R.hexCodes)) f_codes hr
  simp only [Bool.and_eq_true, List.all_eq_true, decide_eq_true_eq] at h
  obtain ⟨h1, h2⟩ := h
  refine R.fail_of ?_ fun i hi => ?_
  · rw [List.size_toArray]
    intro e
    rw [List.eq_nil_of_length_eq_zero e] at h1
    cases h1
  · rw [List.size_toArray] at hi
    rw [R.getD_codes _ _ hi, List.getElem?_eq_getElem hi]
    exact h2 _ (List.getElem_mem hi)
theorem re_matched {r : List Int} (hr : r ∈ allRows) (hb : letBeh (c16L r) = true) : R.matchedB (R.reM (c16B r).toArray) = true := by
  have h := all_rows (p := fun r => (c16B r).all (fun c => decide (c.toNat ∈ R.hexCodes) || decide (c.toNat ∈ [97, 98, 99, 100, 101, 102])) && (!letBeh (c16L r) || (c16B r).any fun c => decide (c.toNat ∈ [97, 98, 99, 100, 101, 102]))) f_mix hr
  rw [Bool.and_eq_true] at h
  obtain ⟨h1, h2⟩ := h
  rw [hb, Bool.not_true, Bool.false_or, List.any_eq_true] at h2
  rw [List.all_eq_true] at h1
  obtain ⟨d, hd, hl⟩ := h2
  obtain ⟨k, k1, k2, k3⟩ := R.first_low (c16B r) (fun c hc => by
    have := h1 c hc
    rw [Bool.or_eq_true, decide_eq_true_eq, decide_eq_true_eq] at this
    exact this) ⟨d, hd, of_decide_eq_true hl⟩
  refine R.match_of k (by rw [List.size_toArray]; exact k1) (fun i hi => ?_) ?_
  · rw [R.getD_codes _ _ (Nat.lt_trans hi k1)]; exact k2 i hi
  · rw [R.getD_codes _ _ k1]; exact k3
end
section
/-- the signs' codes of the capitalised writing to the base 64 -/
def c64L (r : List Int) : List Nat := capL ((byteArr (enc64 r)).toList.map (·.toNat))
def c64B (r : List Int) : List UInt8 := (c64L r).map (·.toUInt8)
def six (c m : Int) : Bool := c != 61 && decide (0 ≤ m) && decide (m < 64)
/-- what a2b_base64 gives of four signs of a row -/
def dec64 : List Int → List Int
  | [c0, c1, c2, c3] => if c2 = 61 then [b64V c0 * 4 + b64V c1 / 16] else if c3 = 61 then [b64V c0 * 4 + b64V c1 / 16, b64V c1 % 16 * 16 + b64V c2 / 4] else [b64V c0 * 4 + b64V c1 / 16, b64V c1 % 16 * 16 + b64V c2 / 4, b64V c2 % 4 * 64 + b64V c3]
  | _ => []
def okSix (c : Int) : Bool := c != 61 && decide (0 ≤ b64V c) && decide (b64V c < 64)
def ok64L : List Int → Bool
  | [c0, c1, c2, c3] => okSix c0 && okSix c1 && (if c2 = 61 then c3 == 61 else okSix c2 && (if c3 = 61 then true else okSix c3))
  | _ => false
theorem f_64 : allRows.all (fun r => (fun l => ok64L l && dec64 l == movedI r) ((c64B r).map fun c => ((c.toNat : Nat) : Int))) = true := by decide +kernel
theorem f_in : allRows.all (fun r => (movedI r).all fun n => decide (0 ≤ n) && decide (n < 256)) = true := by decide +kernel
end
section
theorem ints_of : ∀ {vs : List Value} {ns : List Int}, vs.length = ns.length → (∀ j v, vs[j]? = some v → ∃ u, v = Value.int (ns.getD j 0) u) → IntsAre vs ns
  | [], [], _, _ => .nil
  | [], _ :: _, h, _ => nomatch h
  | _ :: _, [], h, _ => nomatch h
  | v :: r, n :: t, h, hv => by
    obtain ⟨u, e⟩ := hv 0 v rfl
    have e' : v = .int n u := e
    subst e'
    exact .cons n u (ints_of (Nat.succ.inj h) fun j x hx => hv (j + 1) x hx)
theorem ints_bytes {x : Array UInt8} {acc : Array Value} (h : ItemsOf (R.ByteAt x) acc x.size) : IntsAre acc.toList (KBw.bInts x) := by
  refine ints_of (by rw [Array.length_toList, h.1, KBw.ints_length]) fun j v hj => ?_
  obtain ⟨c, u, hc, rfl⟩ := h.2 j v (by rw [← Array.getElem?_toList]; exact hj)
  have := KBw.ints_get hc
  exact ⟨u, by rw [List.getD_eq_getElem?_getD, this]; rfl⟩
section
variable {w : World} {p : Program} {loose : List Str} {mean : ExcName → Option Value} {mg mb : Str → Option Value} {base : Heap} {outer : List Env} {dp un : Nat} {gd : Option (List Code)} {g : Heap} {C : Addr} {m : Str → Option Value} {s₃ : Heap} {s : Shared} {prog : Program} {A : Around} {E : Value → Shared → Prop} {Q : Value → Shared → Prop}
theorem El.listBytes {ns : List Int} {t : Tok} (e : El w p loose mean mg mb base outer dp un gd g C m s₃ s.heap) (hr : R.InB ns) (hn : ns.length ≤ 3) (hh : A.handled = none)
    (h : ∀ D h' tk, NewL (fun its => IntsAre its.toList ns) s₃ h' (.ref D) → El w p loose mean mg mb base outer dp un gd g C m s₃ h' → Q (.ref D) { s with heap := h', toks := tk }) :
    wpAny (model prog w) A (PySem.call (.type "list") [.bytes (byteArr ns) t]) Q E s := by
  refine R.call_list_bytes hh (byteArr ns) t (fun h' tk acc c' hk hS hit => ?_) (by rw [byteArr_size, sizeLine_eq]; omega)
  have hi := ints_bytes hit
  rw [KBa.ints_make hr] at hi
  refine h _ h' tk ⟨_, acc, rfl, ?_, listOf_is hS, hi⟩ (e.next hk)
  cases e1 : s₃.get? s.heap.objs.size with
  | none => rfl
  | some o => exact absurd (Heap.lt_size (e.k2 _ _ e1)) (Nat.lt_irrefl _)
end
theorem pop_list {n : Nat} {l : List Int} (h : l.length = n + 1) : ∃ a t, l = a :: t ∧ t.length = n := by
  obtain _ | ⟨a, t⟩ := l
  · exact absurd h (Nat.succ_ne_zero _).symm
  · exact ⟨a, t, rfl, Nat.succ.inj h⟩
theorem hexA_of (w : World) {b : Array UInt8} {l r : List Int} (hb : KBw.bInts b = l) (h : hexOk l r = true) (t : Tok) : Ctr w 139 [.bytes b t] [] 3 (fun _ => True) (fun _ v _ => ∃ u, v = .bytes (byteArr r) u) := by
  simp only [hexOk, Bool.and_eq_true, Bool.or_eq_true, beq_iff_eq] at h
  obtain ⟨⟨hlen, hall⟩, rfl⟩ := h
  have hall : ∀ c ∈ l, 0 ≤ hexV c ∧ hexV c < 16 := fun c hc => by
    have := List.all_eq_true.mp hall c hc
    simpa only [Bool.and_eq_true, decide_eq_true_eq] using this
  rcases hlen with (h0 | h0) | h0
  · obtain ⟨c0, l1, rfl, h1⟩ := pop_list h0; obtain ⟨c1, l2, rfl, h2⟩ := pop_list h1
    obtain rfl := List.eq_nil_of_length_eq_zero h2
    exact a2bhex_1 w _ _ _ _ rfl (hall _ (.head _)).1 (hall _ (.head _)).2 rfl (hall _ (.tail _ (.head _))).1 (hall _ (.tail _ (.head _))).2 b hb t
  · obtain ⟨c0, l1, rfl, h1⟩ := pop_list h0; obtain ⟨c1, l2, rfl, h2⟩ := pop_list h1; obtain ⟨c2, l3, rfl, h3⟩ := pop_list h2; obtain ⟨c3, l4, rfl, h4⟩ := pop_list h3
    obtain rfl := List.eq_nil_of_length_eq_zero h4
    exact a2bhex_2 w _ _ _ _ _ _ _ _ rfl (hall _ (.head _)).1 (hall _ (.head _)).2 rfl (hall _ (.tail _ (.head _))).1 (hall _ (.tail _ (.head _))).2 rfl (hall _ (.tail _ (.tail _ (.head _)))).1 (hall _ (.tail _ (.tail _ (.head _)))).2 rfl (hall _ (.tail _ (.tail _ (.tail _ (.head _))))).1 (hall _ (.tail _ (.tail _ (.tail _ (.head _))))).2 b hb t
  · obtain ⟨c0, l1, rfl, h1⟩ := pop_list h0; obtain ⟨c1, l2, rfl, h2⟩ := pop_list h1; obtain ⟨c2, l3, rfl, h3⟩ := pop_list h2; obtain ⟨c3, l4, rfl, h4⟩ := pop_list h3; obtain ⟨c4, l5, rfl, h5⟩ := pop_list h4; obtain ⟨c5, l6, rfl, h6⟩ := pop_list h5
    obtain rfl := List.eq_nil_of_length_eq_zero h6
    exact a2bhex_3 w _ _ _ _ _ _ _ _ _ _ _ _ rfl (hall _ (.head _)).1 (hall _ (.head _)).2 rfl (hall _ (.tail _ (.head _))).1 (hall _ (.tail _ (.head _))).2 rfl (hall _ (.tail _ (.tail _ (.head _)))).1 (hall _ (.tail _ (.tail _ (.head _)))).2 rfl (hall _ (.tail _ (.tail _ (.tail _ (.head _))))).1 (hall _ (.tail _ (.tail _ (.tail _ (.head _))))).2 rfl (hall _ (.tail _ (.tail _ (.tail _ (.tail _ (.head _)))))).1 (hall _ (.tail _ (.tail _ (.tail _ (.tail _ (.head _)))))).2 rfl (hall _ (.tail _ (.tail _ (.tail _ (.tail _ (.tail _ (.head _))))))).1 (hall _ (.tail _ (.tail _ (.tail _ (.tail _ (.tail _ (.head _))))))).2 b hb t
theorem decA_of (w : World) {b : Array UInt8} {l r : List Int} (hb : KBw.bInts b = l) (h : ok64L l = true) (hd : dec64 l = r) (t : Tok) : Ctr w 108 [.bytes b t] [(Str.ofString "strict_mode", .bool false)] 3 (fun _ => True) (fun _ v _ => ∃ u, v = .bytes (byteArr r) u) := by
  unfold ok64L at h
  split at h
  · rename_i c0 c1 c2 c3
    subst hd
    simp only [Bool.and_eq_true, okSix, bne_iff_ne, ne_eq, decide_eq_true_eq] at h
    obtain ⟨⟨⟨⟨a1, a2⟩, a3⟩, ⟨b1, b2⟩, b3⟩, h⟩ := h
    by_cases e2 : c2 = 61
    · rw [if_pos e2, beq_iff_eq] at h
      subst e2 h
      have e : dec64 [c0, c1, 61, 61] = [b64V c0 * 4 + b64V c1 / 16] := by unfold dec64; exact if_pos rfl
      rw [e]
      exact a2bb64_1 w _ _ _ _ rfl a1 a2 a3 rfl b1 b2 b3 b hb t
    · rw [if_neg e2] at h
      simp only [Bool.and_eq_true, bne_iff_ne, ne_eq, decide_eq_true_eq] at h
      obtain ⟨⟨⟨d1, d2⟩, d3⟩, h⟩ := h
      by_cases e3 : c3 = 61
      · subst e3
        have e : dec64 [c0, c1, c2, 61] = [b64V c0 * 4 + b64V c1 / 16, b64V c1 % 16 * 16 + b64V c2 / 4] := by unfold dec64; exact (if_neg e2).trans (if_pos rfl)
        rw [e]
        exact a2bb64_2 w _ _ _ _ _ _ rfl a1 a2 a3 rfl b1 b2 b3 rfl d1 d2 d3 b hb t
      · rw [if_neg e3] at h
        simp only [Bool.and_eq_true, bne_iff_ne, ne_eq, decide_eq_true_eq] at h
        obtain ⟨⟨g1, g2⟩, g3⟩ := h
        have e : dec64 [c0, c1, c2, c3] = [b64V c0 * 4 + b64V c1 / 16, b64V c1 % 16 * 16 + b64V c2 / 4, b64V c2 % 4 * 64 + b64V c3] := by unfold dec64; exact (if_neg e2).trans (if_neg e3)
        rw [e]
        exact a2bb64_3 w _ _ _ _ _ _ _ _ rfl a1 a2 a3 rfl b1 b2 b3 rfl d1 d2 d3 rfl g1 g2 g3 b hb t
  · cases h
theorem c16_bytes {r : List Int} (hr : r ∈ allRows) : (C16 r).cps.map (·.toUInt8) = (c16B r).toArray := by
  apply Array.toList_inj.mp
  rw [Array.toList_map, c16_list hr]
  rfl
theorem c64_bytes {r : List Int} (hr : r ∈ allRows) : (C64 r).cps.map (·.toUInt8) = (c64B r).toArray := by
  apply Array.toList_inj.mp
  rw [Array.toList_map, c64_list hr]
  rfl
theorem hexA (w : World) {r : List Int} (hr : r ∈ allRows) (t : Tok) : Ctr w 139 [.bytes (hexUp r).toArray t] [] 3 (fun _ => True) (fun _ v _ => ∃ u, v = .bytes (byteArr r) u) :=
  hexA_of w (KBw.ints_list _) (all_rows (p := fun r => hexOk ((hexUp r).map fun c => ((c.toNat : Nat) : Int)) r) f_hex hr) t
theorem decA (w : World) {r : List Int} (hr : r ∈ allRows) (t : Tok) : Ctr w 108 [.bytes (c64B r).toArray t] [(Str.ofString "strict_mode", .bool false)] 3 (fun _ => True) (fun _ v _ => ∃ u, v = .bytes (byteArr (movedI r)) u) := by
  have h := all_rows (p := fun r => (fun l => ok64L l && dec64 l == movedI r) ((c64B r).map fun c => ((c.toNat : Nat) : Int))) f_64 hr
  simp only [Bool.and_eq_true, beq_iff_eq] at h
  exact decA_of w (KBw.ints_list _) h.1 h.2 t

theorem hexOk_val {l r : List Int} (h : hexOk l r = true) : hexR l = r := by
  simp only [hexOk, Bool.and_eq_true] at h
  exact eq_of_beq h.2
def un16 (x : Str) : List Int := hexR (((x.cps.map (·.toUInt8)).toList.map Builtin.Bytes.toUpper).map fun c => ((c.toNat : Nat) : Int))
def un64 (x : Str) : List Int := dec64 ((x.cps.map (·.toUInt8)).toList.map fun c => ((c.toNat : Nat) : Int))
theorem un16_c {r : List Int} (hr : r ∈ allRows) : un16 (C16 r) = r := by
  unfold un16
  rw [c16_bytes hr]
  have h1 := eq_of_beq (all_rows (p := fun r => (c16B r).map Builtin.Bytes.toUpper == hexUp r) f_up hr)
  show hexR (((c16B r).map _).map _) = r
  rw [h1]
  exact hexOk_val (all_rows (p := fun r => hexOk ((hexUp r).map fun c => ((c.toNat : Nat) : Int)) r) f_hex hr)
theorem un64_c {r : List Int} (hr : r ∈ allRows) : un64 (C64 r) = movedI r := by
  unfold un64
  rw [c64_bytes hr]
  have h := all_rows (p := fun r => (fun l => ok64L l && dec64 l == movedI r) ((c64B r).map fun c => ((c.toNat : Nat) : Int))) f_64 hr
  simp only [Bool.and_eq_true, beq_iff_eq] at h
  exact h.2
theorem rows_strs {g : Str → List Int} {h : Heap} : ∀ {vs ys : List Value} {ns : List Str}, StrsAre vs ns → Paired (fun v y => OldL (fun its => ∀ x t, v = Value.str x t → IntsAre its.toList (g x)) h y) vs ys → Paired (RowAt h) ys (ns.map g) := by
  intro vs ys ns p
  induction p generalizing ys with
  | nil => intro q; cases q; exact .nil
  | cons y t r ih =>
    intro q
    cases q with
    | cons h' t' =>
      obtain ⟨T, its, e, hl, hi⟩ := h'
      exact .cons ⟨T, its, e, hl, hi y t rfl⟩ (ih t')
theorem rows_rows {news : List (Addr × Obj)} {g : List Int → List Int} {h : Heap} : ∀ {vs ys : List Value} {rs : List (List Int)}, Paired (RowOf news) vs rs → Paired (fun v y => OldL (fun its => ∀ r, RowOf news v r → IntsAre its.toList (g r)) h y) vs ys → Paired (RowAt h) ys (rs.map g) := by
  intro vs ys rs p
  induction p generalizing ys with
  | nil => intro q; cases q; exact .nil
  | cons hr r ih =>
    intro q
    cases q with
    | cons h' t' =>
      obtain ⟨T, its, e, hl, hi⟩ := h'
      exact .cons ⟨T, its, e, hl, hi _ hr⟩ (ih t')
theorem rows_now {h₀ h : Heap} {L : Addr} {news : List (Addr × Obj)} {vs : List Value} {rs : List (List Int)} (N : News h₀ L h news) (p : Paired (RowOf news) vs rs) : Paired (RowAt h) vs rs := p.mono fun _ _ x => rowOf_list N x
theorem un16_all {rs : List (List Int)} (hrs : ∀ r ∈ rs, r ∈ allRows) : (rs.map C16).map un16 = rs := by
  rw [List.map_map]
  have : rs.map (un16 ∘ C16) = rs.map id := List.map_congr_left fun r hr => un16_c (hrs r hr)
  rw [this, List.map_id]
theorem un64_all {rs : List (List Int)} (hrs : ∀ r ∈ rs, r ∈ allRows) : (rs.map C64).map un64 = rs.map movedI := by
  rw [List.map_map]
  exact List.map_congr_left fun r hr => un64_c (hrs r hr)
theorem mv_in {r : List Int} (hr : r ∈ allRows) : R.InB (movedI r) := by
  have h := all_rows (p := fun r => (movedI r).all fun n => decide (0 ≤ n) && decide (n < 256)) f_in hr
  simp only [List.all_eq_true, Bool.and_eq_true, decide_eq_true_eq] at h
  exact h
theorem mv_len {r : List Int} (hr : r ∈ allRows) : (movedI r).length ≤ 3 := by
  rcases row_cases hr with ⟨a, _, rfl⟩ | ⟨a, b, _, _, rfl⟩ | ⟨a, b, c, _, _, _, rfl⟩
  · exact (by decide : 1 ≤ 3)
  · exact (by decide : 2 ≤ 3)
  · exact (by decide : 3 ≤ 3)
theorem rowAt_keep {h h' : Heap} (k : Kept h h') {vs : List Value} {rs : List (List Int)} (p : Paired (RowAt h) vs rs) : Paired (RowAt h') vs rs := p.mono fun _ _ ⟨T, its, e, hl, hi⟩ => ⟨T, its, e, isl_keep hl k, hi⟩
end
section
def abc : Str := Str.ofString "abcdef"
def refd (x : Str) : Bool := letBeh x.cps.toList
def inAbc (v : Value) : Bool := match v with
  | .str y _ => !(Builtin.Str.occurrences abc y 0 abc.length 1).isEmpty
  | _ => false
theorem in_abc : ∀ c, c < 127 → (!(Builtin.Str.occurrences abc ⟨#[c]⟩ 0 abc.length 1).isEmpty) = (decide (97 ≤ c) && decide (c ≤ 102)) := by decide +kernel
theorem slice1 {x : Str} (h : x.length ≠ 0) : (Txt.slice x (some 1) none).cps.toList = x.cps.toList.drop 1 := by
  rw [slice_from_eq (b := x.length) (by decide) (by omega) rfl]
  show List.take _ (List.drop 1 x.cps.toList) = _
  refine List.take_of_length_le ?_
  rw [List.length_drop, Array.length_toList]
  have : x.length = x.cps.size := rfl
  omega
/-- the signs found are none just when no sign is a letter -/
theorem signs_out {x : Str} {vs : List Value} {ys : List Value} (hx : ∀ c ∈ x.cps.toList, c < 127) (hlen : vs.length = x.cps.size) (hv : ∀ (j : Nat) (v : Value), vs[j]? = some v → SignAt x j v) (hp : Paired (fun v y => ∀ z t, v = Value.str z t → ∃ u, y = Value.str z u) (vs.filter inAbc) ys) :
    ∃ ws : List Str, StrsAre ys ws ∧ (!ws.isEmpty) = (x.cps.toList.any fun c => decide (97 ≤ c) && decide (c ≤ 102)) ∧ ∀ z ∈ ws, PyData.strOk z = true := by
  have key : ∀ (l : List Nat) (vs ys : List Value), (∀ c ∈ l, c < 127) → vs.length = l.length → (∀ (j : Nat) (v : Value), vs[j]? = some v → ∃ c u, l[j]? = some c ∧ v = .str ⟨#[c]⟩ u) → Paired (fun v y => ∀ z t, v = Value.str z t → ∃ u, y = Value.str z u) (vs.filter inAbc) ys →
      ∃ ws : List Str, StrsAre ys ws ∧ (!ws.isEmpty) = (l.any fun c => decide (97 ≤ c) && decide (c ≤ 102)) ∧ ∀ z ∈ ws, PyData.strOk z = true := by
    intro l
    induction l with
    | nil =>
      intro vs ys _ hlen _ hp
      obtain rfl := List.eq_nil_of_length_eq_zero hlen
      cases hp
      exact ⟨[], .nil, rfl, fun _ h => nomatch h⟩
    | cons c r ih =>
      intro vs ys hc hlen hv hp
      cases vs with
      | nil => cases hlen
      | cons v vs =>
        obtain ⟨c', u, e1, rfl⟩ := hv 0 v rfl
        cases e1
        have hin : inAbc (.str ⟨#[c]⟩ u) = (decide (97 ≤ c) && decide (c ≤ 102)) := in_abc c (hc c (List.Mem.head _))
        have ih' := ih vs
        rw [List.filter_cons, hin] at hp
        rw [List.any_cons]
        cases hb : (decide (97 ≤ c) && decide (c ≤ 102)) with
        | false =>
          rw [hb] at hp
          exact ih' ys (fun d hd => hc d (List.Mem.tail _ hd)) (Nat.succ.inj hlen) (fun j w hw => hv (j + 1) w hw) hp
        | true =>
          rw [hb] at hp
          simp only [if_true] at hp
          cases hp with
          | cons h1 h2 =>
            obtain ⟨ws, a, b, d⟩ := ih' _ (fun d hd => hc d (List.Mem.tail _ hd)) (Nat.succ.inj hlen) (fun j w hw => hv (j + 1) w hw) h2
            obtain ⟨u', rfl⟩ := h1 _ _ rfl
            refine ⟨⟨#[c]⟩ :: ws, .cons _ u' a, rfl, fun z hz => ?_⟩
            rcases List.mem_cons.mp hz with rfl | hz
            · have := hc c (List.Mem.head _)
              show (#[c] : Array Nat).all (· < 0x110000) = true
              simp
              omega
            · exact d z hz
  exact key _ _ _ hx (by rw [hlen, Array.length_toList]) (fun j v hj => by
    obtain ⟨c, u, h1, h2⟩ := hv j v hj
    exact ⟨c, u, by rw [Array.getElem?_toList]; exact h1, h2⟩) hp
section
variable {prog : Program} {w : World} {A : Around} {E : Value → Shared → Prop} {s : Shared} {Q : Value → Shared → Prop} {a b : Addr} {xs : Array Value}
theorem ne_none {ws : List Str} (ha : s.heap.IsList a xs) (hb : s.heap.IsList b #[]) (hx : StrsAre xs.toList ws) (hok : ∀ x ∈ ws, PyData.strOk x = true) (hu : A.units + 64 < cLine) (h : Q (.bool (!ws.isEmpty)) s) :
    wpAny (model prog w) A (compareOp .NotEq (.ref a) (.ref b)) Q E s := by
  obtain ⟨_, r1⟩ := reads_strs (h := s.heap) hx
  have key : ∀ l : List Str, (∀ x ∈ l, PyData.strOk x = true) → PyData.canLayAll0 (l.map PyData.str) = true ∧ PyData.depthAll (l.map PyData.str) ≤ 1 := by
    intro l
    induction l with
    | nil => intro _; exact ⟨rfl, by simp [PyData.depthAll]⟩
    | cons a r ih =>
      intro hl
      obtain ⟨h1, h2⟩ := ih fun x hx => hl x (List.Mem.tail _ hx)
      refine ⟨by simp [PyData.canLayAll0, PyData.canLay0, hl a (List.Mem.head _), h1], ?_⟩
      simp only [List.map_cons, PyData.depthAll, PyData.depth]
      omega
  obtain ⟨h1, h2⟩ := key ws hok
  have hsh : SeqAt.shaped (.list (ws.map PyData.str)) = true := by
    simp only [SeqAt.shaped, PyData.canLay0, PyData.depth, h1, Bool.true_and]
    exact decide_eq_true (by omega)
  refine ne_dataH (reads_at ha r1) (reads_at hb (xs := []) .nil) hsh rfl hu ?_
  have e : (!PyData.eqv (.list (ws.map PyData.str)) (.list [])) = !ws.isEmpty := by
    cases ws with
    | nil => rfl
    | cons _ _ => simp [PyData.eqv, PyData.eqvAll]
  rw [e]; exact h
end
theorem refd_c {r : List Int} (hr : r ∈ allRows) : refd (C16 r) = letBeh (c16L r) := by
  unfold refd
  rw [c16_list hr]
  rfl
theorem c16_le {r : List Int} (hr : r ∈ allRows) : ∀ c ∈ (C16 r).cps.toList, c < 127 := by
  have h := all_rows (p := fun r => okW (T16 r)) t16_ok hr
  unfold okW at h
  simp only [Bool.and_eq_true, decide_eq_true_eq, bne_iff_ne, ne_eq, beq_iff_eq, List.all_eq_true] at h
  obtain ⟨⟨⟨⟨h1, h2⟩, h3⟩, h4⟩, h5⟩ := h
  intro c hc
  rw [c16_list hr] at hc
  have := capL_in h1 c hc
  omega
theorem re_fail {r : List Int} (hr : r ∈ allRows) (hb : ¬ letBeh (c16L r) = true) : c16B r = hexUp r := by
  have h := all_rows (p := fun r => letBeh (c16L r) || c16B r == hexUp r) f_let hr
  rw [Bool.or_eq_true] at h
  rcases h with h | h
  · exact absurd h hb
  · exact eq_of_beq h
theorem re_match {r : List Int} (hr : r ∈ allRows) (hb : letBeh (c16L r) = true) : R.matchedB (R.reM (c16B r).toArray) = true := re_matched hr hb
end
section
local macro_rules | `(tactic| walk_at "eval ListComp") => `(tactic| refine stop ?_)
local macro_rules | `(tactic| walk_at "exec Assign cons ListComp") => `(tactic| refine stop ?_)
local macro_rules | `(tactic| walk_at "compareOp NotEq ref ref") => `(tactic| refine stop ?_)
local macro_rules | `(tactic| walk_at "compareOp Eq ref ref") => `(tactic| refine stop ?_)
local macro_rules | `(tactic| walk_at "execs cons") => `(tactic| ((rename Mark => mk'); clear mk'; refine stop ?_))
local macro_rules | `(tactic| walk_at "eval Name") => `(tactic| k_dflt (refine' fr_name ?kF ?km ?kL ?kk ?kx ?kd ?_; (case kF => assumption); (case km => assumption); (case kL => exact rfl); (case kk => exact rfl); (case kx => exact rfl); (case kd => decide); k_whole))
local macro_rules | `(tactic| walk_at "gotE") => `(tactic| k_dflt (intro v' h' tk' K' P' e'; (have X' := El.kIn e'); (try dsimp only at P'); (try (obtain ⟨u1, e9⟩ := P'; subst e9))))
local macro_rules | `(tactic| walk_at "eval Name") => `(tactic| k_dflt ((first | refine El.ownA ?_ | refine El.cellA ?_ | refine El.globA ?_ | refine El.bltA ?_); k_whole))
section
local macro_rules | `(tactic| walk_at "call ref") => `(tactic| (k_dflt (refine ctr_useA (line_ctr _ _ _ _ (by assumption) (by assumption) (by assumption)) ?_ (by exact listOf_is (News.get (by assumption) (by assumption)))); walk_at "got"))
local macro_rules | `(tactic| walk_at "call ref") => `(tactic| (k_dflt (refine ctr_useA (capwords_ctr _ _ (by assumption) _ (by assumption) (by assumption) (by assumption) (by assumption) _) ?_ (by trivial)); walk_at "got"))
local macro_rules | `(tactic| walk_at "call builtin:str.split") => `(tactic| refine stop ?_)
section
local macro_rules | `(tactic| walk_at "call ref") => `(tactic| (k_dflt (refine El.callA (b64dec _ _ (by assumption) (by assumption) (by assumption) _ (by assumption) _) ?_ (by trivial)); walk_at "gotE"))
local macro_rules | `(tactic| walk_at "call ref") => `(tactic| (k_dflt (refine El.callA (moved_ctr _ _ _ _ (by assumption) (by assumption)) ?_ (by assumption)); walk_at "gotE"))
local macro_rules | `(tactic| walk_at "call type:list") => `(tactic| ((try dsimp only); k_dflt (refine' El.listBytes ?ke ?kr ?kn ?kh ?_; (case ke => assumption); (case kr => exact mv_in (by assumption)); (case kn => exact mv_len (by assumption)); (case kh => exact rfl); intro D' h' t' n' e'; (have X' := El.kIn e'))))
set_option maxHeartbeats 1000000 in
theorem law9 (w : World) (p : Program) (loose : List Str) (mean : ExcName → Option Value) (mg mb : Str → Option Value) (h₀ : Heap) (dp un : Nat) (gd : Option (List Code)) (s : Shared) (P : Flow → Shared → Prop) (E : Value → Shared → Prop) (L fa : Addr) (cd : Value) (sc : Scope) (hsc : sc = lawScope) (bd : List Stmt) (hbd : bd = (lawBody.drop 9)) (m : Str → Option Value) (news : List (Addr × Obj)) (X : (hd.heap_39 w.params).In h₀) (T : Top p loose mean mg mb h₀) (B : Below (Ar dp un gd []) h₀ [] h₀) (hdp : dp + 20 < recursionLimit) (hun : un + 200 < cLine) (F : Fr h₀ L s.heap m) (N : News h₀ L s.heap news) (DR : Addr) (rs : List (List Int)) (h1 : m (Str.ofString "rows") = some (.ref DR)) (hR : RowsOf news DR rs) (hrs : ∀ r ∈ rs, r ∈ allRows) (hn0 : 7 ≤ rs.length) (hn1 : rs.length ≤ 14) (DL : Addr) (h3 : m (Str.ofString "letters") = some (.ref DL)) (hL : TextsOf news DL (rs.map T64)) (hP : ∀ h' tk, (∃ m', Fr h₀ L h' m') → P (.ret (.bool true)) { s with heap := h', toks := tk }) :
    wpAny (model PySem.Challenge.rw_qh0002_01.row.prog w) (Ar (dp + 1) (un + 3) gd [envOf (Str.ofString "law") sc L fa cd]) (execs bd (envOf (Str.ofString "law") sc L fa cd)) P E s := by
  conv at hsc => rhs; whnf
  conv at hbd => rhs; whnf
  subst hsc hbd
  revert X
  k_fill
  intro X
  w_on
  obtain ⟨itr, kr, hDR, hpR⟩ := hR
  obtain ⟨its, k, hDn, hst⟩ := hL
  have hw : ∀ x ∈ rs.map T64, WordOk x := fun x hx => by
    obtain ⟨r, hr, rfl⟩ := List.mem_map.mp hx
    exact ok64 (hrs r hr)
  have hn : (rs.map T64).length ≤ 14 := by rw [List.length_map]; exact hn1
  have hn20 : (rs.map T64).length ≤ 20 := by omega
  have hn1000 : (rs.map T64).length ≤ 1000 := by omega
  have hln : ∀ x ∈ rs.map T64, x.length ≤ 100 := fun x hx => Nat.le_trans (hw x hx).len (by decide)
  have hlen : ∀ x ∈ rs.map T64, x.length ≤ 1000 := fun x hx => Nat.le_trans (hw x hx).len (by decide)
  have hx1 := line_len hw hn
  have hx2 : Txt.words (lineS (rs.map T64)) = rs.map T64 := words_line fun x hx => (hw x hx).plain
  have hok := caps_ok hw hn
  k_steps
  unfold Stop
  refine' lcO_list (fun _ => true) (fun v its => ∀ x t, v = .str x t → IntsAre its.toList (un64 x)) ?hA ?hc ?hcell ?hk ?hnm ?hx ?hs ?_
  case hA => exact rfl
  case hc => exact rfl
  case hcell => decide
  case hk => exact rfl
  case hnm => decide
  case hx => exact rfl
  case hs => intro _; rfl
  k_steps
  unfold Stop
  k_dflt (show wpAny _ _ (call (Value.builtin "str.split") [Value.str _ _, Value.str _ _]) _ _ _)
  rename Fr _ _ _ _ => F1
  rename News _ _ _ _ => N1
  refine splitN1 F1 N1 (by decide) (fun lp h6 k6 ht F2 N2 => ?_) (by rw [sizeLine_eq]; have := caps_len hw hn; omega)
  have hsp : lp.map (·.1) = rs.map C64 := by
    rw [ht]
    unfold capText
    rw [split_join ?hne ?hbl, List.map_map]
    · rfl
    case hne =>
      intro e
      have := congrArg List.length e
      rw [List.length_map, List.length_map] at this
      simp only [List.length_nil] at this
      omega
    case hbl =>
      intro x hx
      obtain ⟨y, hy, rfl⟩ := List.mem_map.mp hx
      exact (hw y hy).blank
  have hst2 := R.strs_values lp
  rw [hsp] at hst2
  clear hw hn hn20 hn1000 hln hlen hx1 hx2 hok ht hsp F1 N1
  k_steps
  have hsz : (strValues lp).toArray.size = rs.length := by rw [List.size_toArray, strs_len hst2, List.length_map]
  refine ⟨_, _, rfl, listOf_is (News.get N2 (List.Mem.head _)), by omega, ?te, ?el, ?fin⟩
  case te => intro C v s₃ m₃ E' _ _ _ _; exact tests_all
  case el =>
    intro C v s₃ m₃ E' hv _ hk hnn hmm
    have hmem := strs_mem hst2 v hv
    obtain ⟨x, t, rfl, hxm⟩ := hmem
    have hxr := List.mem_map.mp hxm
    obtain ⟨r0, hr0, rfl⟩ := hxr
    have hra := hrs r0 hr0
    have hwx := ok64 hra
    have hc1 : ∀ c ∈ (C64 r0).cps, c < 128 := hwx.asc
    have hc2 : (C64 r0).cps.size ≠ 0 := hwx.size
    have hc3 : (C64 r0).cps.size ≤ 1000 := Nat.le_trans hwx.clen (by decide)
    have hA : ∀ t, Ctr w 108 [.bytes ((C64 r0).cps.map (·.toUInt8)) t] [(Str.ofString "strict_mode", .bool false)] 3 (fun _ => True) (fun _ v _ => ∃ u, v = .bytes (byteArr (movedI r0)) u) := fun t => by
      rw [c64_bytes hra]; exact decA w hra t
    refine el_start X T B F2 hk hnn rfl rfl (fun e1 => ?_)
    have Xs := El.kIn e1
    k_steps
    rename El _ _ _ _ _ _ _ _ _ _ _ _ _ _ _ _ => e2
    rename NewL _ _ _ _ => hN
    obtain ⟨T', its', eT, hN1, hN2, hN3⟩ := hN
    refine ⟨⟨T', its', eT, hN1, hN2, fun x' t' e' => ?_⟩, ⟨_, _, rfl, e2.k2⟩⟩
    cases e'
    rw [un64_c hra]
    exact hN3
  case fin =>
    intro D1 h1' tk ys hD1 hpl hpr hkp
    rw [all_true] at hpr
    have hst3 := rows_strs hst2 hpr
    rw [un64_all hrs] at hst3
    have F3 := F2.keeps hkp
    have N3 := News.sub (N2.grown hkp) (fun _ hm => List.Mem.tail _ hm)
    clear F2 N2
    k_steps
    unfold Stop
    refine' lcO_list (fun _ => true) (fun v its => ∀ r, RowOf news v r → IntsAre its.toList (movedI r)) ?hA ?hc ?hcell ?hk ?hnm ?hx ?hs ?_
    case hA => exact rfl
    case hc => exact rfl
    case hcell => decide
    case hk => exact rfl
    case hnm => decide
    case hx => exact rfl
    case hs => intro _; rfl
    k_steps
    have hszr : itr.size = rs.length := by rw [← hpR.length, Array.length_toList]
    refine ⟨_, _, rfl, listOf_is (News.get N3 hDR), by omega, ?te2, ?el2, ?fin2⟩
    case te2 => intro C v s₃ m₃ E' _ _ _ _; exact tests_all
    case el2 =>
      intro C v s₃ m₃ E' hv _ hk hnn hmm
      have hmem := paired_mem hpR v hv
      obtain ⟨r0, hr0, hro⟩ := hmem
      have hra := hrs r0 hr0
      have hT := rowOf_list N3 hro
      obtain ⟨T0, its0, rfl, hT0, hi0⟩ := hT
      have hT3 := isl_keep hT0 hk
      refine el_start X T B F3 hk hnn rfl rfl (fun e1 => ?_)
      have Xs := El.kIn e1
      k_steps
      rename El _ _ _ _ _ _ _ _ _ _ _ _ _ _ _ _ => e2
      rename ∃ D its, _ => hN
      obtain ⟨T', its', rfl, hN1, hN2, hN3⟩ := hN
      refine ⟨⟨T', its', rfl, hN1, hN2, fun r hr => ?_⟩, ⟨_, _, rfl, e2.k2⟩⟩
      have er := rowOf_inj N3 hr hro
      subst er
      exact hN3
    case fin2 =>
      intro D2 h2' tk2 ys2 hD2 hpl2 hpr2 hkp2
      rw [all_true] at hpr2
      have hst4 := rows_rows hpR hpr2
      have F4 := F3.keeps hkp2
      have N4 := N3.grown hkp2
      clear F3 N3
      k_steps
      unfold Stop
      refine eq_rows (isl_keep hpl.isList hkp2) hpl2.isList (rowAt_keep hkp2 hst3) hst4 (by dsimp only [Ar]; omega) ?_
      k_steps
      exact hP _ _ ⟨_, F4⟩
end
section
local macro_rules | `(tactic| walk_at "newList") => `(tactic| ((try dsimp only); k_dflt (refine' El.newList ?ke ?kz ?_; (case ke => assumption); (case kz => exact Nat.le_of_ble_eq_true rfl); intro D' h' K' l' e')))
local macro_rules | `(tactic| walk_at "call ref") => `(tactic| refine stop ?_)
local macro_rules | `(tactic| walk_at "subscriptTail") => `(tactic| (k_dflt (refine El.slice_at rfl rfl (by assumption) (by assumption) ?_; intro h' t' k' e'; (have X' := El.kIn e'))))
local macro_rules | `(tactic| walk_at "compareOp In str str") => `(tactic| (refine PyProof.Rows.in_str ?_))
set_option maxHeartbeats 1000000 in
theorem law8 (w : World) (p : Program) (loose : List Str) (mean : ExcName → Option Value) (mg mb : Str → Option Value) (h₀ : Heap) (dp un : Nat) (gd : Option (List Code)) (s : Shared) (P : Flow → Shared → Prop) (E : Value → Shared → Prop) (L fa : Addr) (cd : Value) (sc : Scope) (hsc : sc = lawScope) (bd : List Stmt) (hbd : bd = (lawBody.drop 8)) (m : Str → Option Value) (news : List (Addr × Obj)) (X : (hd.heap_39 w.params).In h₀) (T : Top p loose mean mg mb h₀) (B : Below (Ar dp un gd []) h₀ [] h₀) (hdp : dp + 20 < recursionLimit) (hun : un + 200 < cLine) (F : Fr h₀ L s.heap m) (N : News h₀ L s.heap news) (DR : Addr) (rs : List (List Int)) (h1 : m (Str.ofString "rows") = some (.ref DR)) (hR : RowsOf news DR rs) (hrs : ∀ r ∈ rs, r ∈ allRows) (hn0 : 7 ≤ rs.length) (hn1 : rs.length ≤ 14) (DL : Addr) (h3 : m (Str.ofString "letters") = some (.ref DL)) (hL : TextsOf news DL (rs.map T64)) (DG : Addr) (h4 : m (Str.ofString "great") = some (.ref DG)) (hG : TextsOf news DG (rs.map C16)) (hP : ∀ h' tk, (∃ m', Fr h₀ L h' m') → P (.ret (.bool true)) { s with heap := h', toks := tk }) :
    wpAny (model PySem.Challenge.rw_qh0002_01.row.prog w) (Ar (dp + 1) (un + 3) gd [envOf (Str.ofString "law") sc L fa cd]) (execs bd (envOf (Str.ofString "law") sc L fa cd)) P E s := by
  conv at hsc => rhs; whnf
  conv at hbd => rhs; whnf
  subst hsc hbd
  revert X
  k_fill
  intro X
  w_on
  obtain ⟨its, k, hDn, hst⟩ := hG
  k_steps
  unfold Stop
  refine' lcT_list L (fun v y => ∀ x t, v = .str x t → y = .bool (refd x)) ?hA ?hc ?hcell ?hk ?hnm ?hx ?hs ?_
  case hA => exact rfl
  case hc => exact rfl
  case hcell => decide
  case hk => exact rfl
  case hnm => decide
  case hx => exact rfl
  case hs => intro _; rfl
  k_steps
  have hsz : its.size = rs.length := by rw [← Array.length_toList, strs_len hst, List.length_map]
  refine ⟨_, _, rfl, listOf_is (News.get N hDn), by omega, Ne.symm (N _ hDn).2.1, F.ns.lt, ?el, ?fin⟩
  case el =>
    intro C v s₃ m₃ E' hv hk hnn hmm
    have hmem := strs_mem hst v hv
    obtain ⟨x, t, rfl, hxm⟩ := hmem
    have hxr := List.mem_map.mp hxm
    obtain ⟨r0, hr0, rfl⟩ := hxr
    have hra := hrs r0 hr0
    have hwx := ok16 hra
    have hc1 : ∀ c ∈ (C16 r0).cps, c < 128 := hwx.asc
    have hc2 : (C16 r0).cps.size ≠ 0 := hwx.size
    have hc3 : (C16 r0).cps.size ≤ 1000 := Nat.le_trans hwx.clen (by decide)
    have hc5 : ((C16 r0).cps.map (·.toUInt8)).size < 2 ^ 60 := by
      have e60 : 2 ^ 60 = 1152921504606846976 := by decide
      rw [Array.size_map, e60]; omega
    have F3 := fr_tn hk F
    refine el_start X T B F3 (kept_refl _) hnn rfl rfl (fun e1 => ?_)
    have Xs := El.kIn e1
    k_steps
    unfold Stop
    by_cases hb : letBeh (c16L r0) = true
    · have hm : R.matchedB (R.reM ((C16 r0).cps.map (·.toUInt8))) = true := by rw [c16_bytes hra]; exact re_match hra hb
      have hD : KtsDicts [L] s₃.heap := fun b hb => by
        obtain ⟨o, es, ep, e, d, _⟩ := F3.ns
        rw [List.mem_singleton.mp hb]
        exact ⟨o, es, ep, e, d⟩
      refine refused_yes w (C16 r0) hc1 hc2 hc3 hc5 hm t p loose mean mg mb h₀ _ _ _ gd _ _ _ X T Xs (e1.T.keeps e1.k) (below_keeps e1.B e1.k) hD (by omega) (by omega) (fun h' g' tk hT hK => ?_)
      refine ⟨fun x' t' e => ?_, ⟨_, _, rfl, (tn_turn hT).trans (tn_kept hK)⟩⟩
      cases e
      rw [refd_c hra, hb]
    · have hf : R.failedB (R.reM ((C16 r0).cps.map (·.toUInt8))) = true := by
        rw [c16_bytes hra, re_fail hra hb]
        exact re_failed hra
      have hA : ∀ t, Ctr w 139 [.bytes ((C16 r0).cps.map (·.toUInt8)) t] [] 3 (fun _ => True) (fun _ v _ => ∃ u, v = .bytes (byteArr r0) u) := fun t => by
        rw [c16_bytes hra, re_fail hra hb]; exact hexA w hra t
      refine El.call e1 (refused_no w (C16 r0) hc1 hc2 hc3 hc5 hf r0 hA t) (by omega) (by omega) trivial (fun v' h' tk' K' P' e' => ?_)
      try dsimp only at P'
      subst P'
      refine ⟨fun x' t' e => ?_, ⟨_, _, rfl, tn_kept K'⟩⟩
      cases e
      rw [refd_c hra]
      rw [Bool.not_eq_true] at hb
      rw [hb]
  case fin =>
    intro D1 h1' tk1 ys1 hpl1 hpr1 hkp1
    have hb1 := strs_bools hst hpr1
    have F2 := fr_tn hkp1 F
    have N2 := news_tn hkp1 N
    clear F N
    k_steps
    unfold Stop
    refine' lc_list (fun _ => true) (fun v y => ∀ x t, v = .str x t → y = .bool (refd x)) ?hA ?hc ?hcell ?hk ?hnm ?hx ?hs ?_
    case hA => exact rfl
    case hc => exact rfl
    case hcell => decide
    case hk => exact rfl
    case hnm => decide
    case hx => exact rfl
    case hs => intro _; rfl
    k_steps
    refine ⟨_, _, rfl, listOf_is (News.get N2 hDn), by omega, ?te2, ?el2, ?fin2⟩
    case te2 => intro C v s₃ m₃ E' _ _ _ _; exact tests_all
    case el2 =>
      intro C v s₃ m₃ E' hv _ hk hnn hmm
      have hmem := strs_mem hst v hv
      obtain ⟨x, t, rfl, hxm⟩ := hmem
      have hxr := List.mem_map.mp hxm
      obtain ⟨r0, hr0, rfl⟩ := hxr
      have hra := hrs r0 hr0
      have hwx := ok16 hra
      have hx1000 : (C16 r0).length ≤ 1000 := Nat.le_trans hwx.clen (by decide)
      have hx0 : (C16 r0).length ≠ 0 := hwx.size
      refine el_start X T B F2 hk hnn rfl rfl (fun e1 => ?_)
      have Xs := El.kIn e1
      k_steps
      unfold Stop
      refine' lc_str inAbc (fun v y => ∀ z t, v = .str z t → ∃ u, y = .str z u) ?hA ?hc ?hcell ?hk ?hnm ?hx ?hs ?_
      case hA => exact rfl
      case hc => exact rfl
      case hcell => decide
      case hk => exact rfl
      case hnm => decide
      case hx => exact rfl
      case hs => intro _; rfl
      k_steps
      rename El _ _ _ _ _ _ _ _ _ _ _ _ _ _ _ _ => e2
      have hsl := slice1 hx0
      refine ⟨_, _, rfl, ?sz3, ?te3, ?el3, ?fin3⟩
      case sz3 =>
        have h2 := Txt.slice_le (C16 r0) (some 1) none
        have h3 : (Txt.slice (C16 r0) (some 1) none).length = (Txt.slice (C16 r0) (some 1) none).cps.size := rfl
        omega
      case te3 =>
        intro C4 v4 s4 m4 E4 hv4 hk4 hn4 hm4
        obtain ⟨c, u, hc, rfl⟩ := hv4
        have e4 := El.inner e2 hk4 hn4
        clear e1 e2
        have X4 := El.kIn e4
        refine wpAny_tests_one ?_
        k_steps
        exact ⟨rfl, ⟨_, _, rfl, e4.k2⟩⟩
      case el3 =>
        intro C4 v4 s4 m4 E4 hv4 hpv4 hk4 hn4 hm4
        obtain ⟨c, u, hc, rfl⟩ := hv4
        have e4 := El.inner e2 hk4 hn4
        clear e1 e2
        have X4 := El.kIn e4
        k_steps
        refine ⟨fun z t e => ?_, ⟨_, _, rfl, e4.k2⟩⟩
        cases e
        exact ⟨_, rfl⟩
      case fin3 =>
        intro D4 h4' tk4 ys4 vs4 hpl4 hlen4 hv4 hpr4 hkp4
        have hso := signs_out (fun c hc => by rw [hsl] at hc; exact c16_le hra c (List.mem_of_mem_drop hc)) hlen4 hv4 hpr4
        obtain ⟨ws, hws, hany, hok⟩ := hso
        have e5 := El.next e2 hkp4
        clear e1 e2
        have X5 := El.kIn e5
        k_steps
        unfold Stop
        rename El _ _ _ _ _ _ _ _ _ _ _ _ _ _ _ _ => e6
        rename Kept h4' _ => K6
        rename Heap.IsList _ _ _ => l6
        refine ne_none (isl_keep hpl4.isList K6) l6 hws hok (by dsimp only [Ar]; omega) ?_
        k_steps
        refine ⟨fun x' t' e => ?_, ⟨_, _, rfl, e6.k2⟩⟩
        cases e
        rw [hany, hsl]
        rfl
    case fin2 =>
      intro D2 h2' tk2 ys2 hD2 hpl2 hpr2 hkp2
      rw [all_true] at hpr2
      have hb2 := strs_bools hst hpr2
      have F3 := F2.keeps hkp2
      have N3 := N2.grown hkp2
      clear F2 N2
      k_steps
      unfold Stop
      refine ne_bools (isl_keep hpl1.isList hkp2) hpl2.isList hb1 hb2 (by dsimp only [Ar]; omega) ?_
      have mk := mark
      k_steps
      unfold Stop
      exact law9 w p loose mean mg mb h₀ dp un gd _ P E L fa cd _ rfl _ rfl _ _ X T B hdp hun F3 N3 DR rs h1 hR hrs hn0 hn1 DL h3 hL (fun h' tk hf => hP h' tk hf)
end
section
local macro_rules | `(tactic| walk_at "call ref") => `(tactic| (k_dflt (refine El.callA (b16dec_cf _ _ (by assumption) (by assumption) (by assumption) _ (by assumption) (by assumption) (by assumption) (by assumption) _ (by assumption) _) ?_ (by trivial)); walk_at "gotE"))
local macro_rules | `(tactic| walk_at "call type:list") => `(tactic| ((try dsimp only); k_dflt (refine' El.listBytes ?ke ?kr ?kn ?kh ?_; (case ke => assumption); (case kr => exact inb_row (by assumption)); (case kn => exact len_row (by assumption)); (case kh => exact rfl); intro D' h' t' n' e'; (have X' := El.kIn e'))))
set_option maxHeartbeats 1000000 in
theorem law7 (w : World) (p : Program) (loose : List Str) (mean : ExcName → Option Value) (mg mb : Str → Option Value) (h₀ : Heap) (dp un : Nat) (gd : Option (List Code)) (s : Shared) (P : Flow → Shared → Prop) (E : Value → Shared → Prop) (L fa : Addr) (cd : Value) (sc : Scope) (hsc : sc = lawScope) (bd : List Stmt) (hbd : bd = (lawBody.drop 7)) (m : Str → Option Value) (news : List (Addr × Obj)) (X : (hd.heap_39 w.params).In h₀) (T : Top p loose mean mg mb h₀) (B : Below (Ar dp un gd []) h₀ [] h₀) (hdp : dp + 20 < recursionLimit) (hun : un + 200 < cLine) (F : Fr h₀ L s.heap m) (N : News h₀ L s.heap news) (DR : Addr) (rs : List (List Int)) (h1 : m (Str.ofString "rows") = some (.ref DR)) (hR : RowsOf news DR rs) (hrs : ∀ r ∈ rs, r ∈ allRows) (hn0 : 7 ≤ rs.length) (hn1 : rs.length ≤ 14) (DL : Addr) (h3 : m (Str.ofString "letters") = some (.ref DL)) (hL : TextsOf news DL (rs.map T64)) (DG : Addr) (h4 : m (Str.ofString "great") = some (.ref DG)) (hG : TextsOf news DG (rs.map C16)) (hP : ∀ h' tk, (∃ m', Fr h₀ L h' m') → P (.ret (.bool true)) { s with heap := h', toks := tk }) :
    wpAny (model PySem.Challenge.rw_qh0002_01.row.prog w) (Ar (dp + 1) (un + 3) gd [envOf (Str.ofString "law") sc L fa cd]) (execs bd (envOf (Str.ofString "law") sc L fa cd)) P E s := by
  conv at hsc => rhs; whnf
  conv at hbd => rhs; whnf
  subst hsc hbd
  revert X
  k_fill
  intro X
  w_on
  obtain ⟨itr, kr, hDR, hpR⟩ := hR
  obtain ⟨its, k, hDn, hst⟩ := hG
  k_steps
  unfold Stop
  refine' lcO_list (fun _ => true) (fun v its => ∀ x t, v = .str x t → IntsAre its.toList (un16 x)) ?hA ?hc ?hcell ?hk ?hnm ?hx ?hs ?_
  case hA => exact rfl
  case hc => exact rfl
  case hcell => decide
  case hk => exact rfl
  case hnm => decide
  case hx => exact rfl
  case hs => intro _; rfl
  k_steps
  have hsz : its.size = rs.length := by rw [← Array.length_toList, strs_len hst, List.length_map]
  refine ⟨_, _, rfl, listOf_is (News.get N hDn), by omega, ?te, ?el, ?fin⟩
  case te => intro C v s₃ m₃ E' _ _ _ _; exact tests_all
  case el =>
    intro C v s₃ m₃ E' hv _ hk hnn hmm
    have hmem := strs_mem hst v hv
    obtain ⟨x, t, rfl, hxm⟩ := hmem
    have hxr := List.mem_map.mp hxm
    obtain ⟨r0, hr0, rfl⟩ := hxr
    have hra := hrs r0 hr0
    have hwx := ok16 hra
    have e16 := c16_bytes hra
    have hc1 : ∀ c ∈ (C16 r0).cps, c < 128 := hwx.asc
    have hc2 : (C16 r0).cps.size ≠ 0 := hwx.size
    have hc3 : (C16 r0).cps.size ≤ 1000 := Nat.le_trans hwx.clen (by decide)
    have hc4 : ((C16 r0).cps.map (·.toUInt8)).size ≤ 1000 := by rw [Array.size_map]; exact hc3
    have hup : ((C16 r0).cps.map (·.toUInt8)).toList.map Builtin.Bytes.toUpper = hexUp r0 := by
      rw [e16]
      have h := all_rows (p := fun r => (c16B r).map Builtin.Bytes.toUpper == hexUp r) f_up hra
      exact eq_of_beq h
    have hc5 : (hexUp r0).toArray.size < 2 ^ 60 := by
      have e1 := (hex_facts hra).2.2.2.2.2.2
      have e60 : 2 ^ 60 = 1152921504606846976 := by decide
      rw [List.size_toArray, e60]; omega
    have hc6 : R.failedB (R.reM (hexUp r0).toArray) = true := re_failed hra
    have hA := fun t => hexA w hra t
    refine el_start X T B F hk hnn rfl rfl (fun e1 => ?_)
    have Xs := El.kIn e1
    k_steps
    rename El _ _ _ _ _ _ _ _ _ _ _ _ _ _ _ _ => e2
    rename NewL _ _ _ _ => hN
    obtain ⟨T', its', eT, hN1, hN2, hN3⟩ := hN
    refine ⟨⟨T', its', eT, hN1, hN2, fun x' t' e' => ?_⟩, ⟨_, _, rfl, e2.k2⟩⟩
    cases e'
    rw [un16_c hra]
    exact hN3
  case fin =>
    intro D' h' tk ys hD' hpl hpr hkp
    rw [all_true] at hpr
    have hst2 := rows_strs hst hpr
    rw [un16_all hrs] at hst2
    have F2 := F.keeps hkp
    have N2 := N.grown hkp
    clear F N
    k_steps
    unfold Stop
    refine ne_rows hpl.isList (listOf_is (News.get N2 hDR)) hst2 (rows_now N2 hpR) (by dsimp only [Ar]; omega) ?_
    have mk := mark
    k_steps
    unfold Stop
    exact law8 w p loose mean mg mb h₀ dp un gd _ P E L fa cd _ rfl _ rfl _ _ X T B hdp hun F2 N2 DR rs h1 ⟨itr, kr, hDR, hpR⟩ hrs hn0 hn1 DL h3 hL DG h4 ⟨its, k, hDn, hst⟩ (fun h' tk hf => hP h' tk hf)
end
section
set_option maxHeartbeats 1000000 in
theorem law6 (w : World) (p : Program) (loose : List Str) (mean : ExcName → Option Value) (mg mb : Str → Option Value) (h₀ : Heap) (dp un : Nat) (gd : Option (List Code)) (s : Shared) (P : Flow → Shared → Prop) (E : Value → Shared → Prop) (L fa : Addr) (cd : Value) (sc : Scope) (hsc : sc = lawScope) (bd : List Stmt) (hbd : bd = (lawBody.drop 6)) (m : Str → Option Value) (news : List (Addr × Obj)) (X : (hd.heap_39 w.params).In h₀) (T : Top p loose mean mg mb h₀) (B : Below (Ar dp un gd []) h₀ [] h₀) (hdp : dp + 20 < recursionLimit) (hun : un + 200 < cLine) (F : Fr h₀ L s.heap m) (N : News h₀ L s.heap news) (DR : Addr) (rs : List (List Int)) (h1 : m (Str.ofString "rows") = some (.ref DR)) (hR : RowsOf news DR rs) (hrs : ∀ r ∈ rs, r ∈ allRows) (hn0 : 7 ≤ rs.length) (hn1 : rs.length ≤ 14) (DF : Addr) (h2 : m (Str.ofString "figures") = some (.ref DF)) (hF : TextsOf news DF (rs.map T16)) (DL : Addr) (h3 : m (Str.ofString "letters") = some (.ref DL)) (hL : TextsOf news DL (rs.map T64)) (hP : ∀ h' tk, (∃ m', Fr h₀ L h' m') → P (.ret (.bool true)) { s with heap := h', toks := tk }) :
    wpAny (model PySem.Challenge.rw_qh0002_01.row.prog w) (Ar (dp + 1) (un + 3) gd [envOf (Str.ofString "law") sc L fa cd]) (execs bd (envOf (Str.ofString "law") sc L fa cd)) P E s := by
  conv at hsc => rhs; whnf
  conv at hbd => rhs; whnf
  subst hsc hbd
  revert X
  k_fill
  intro X
  w_on
  obtain ⟨its, k, hDn, hst⟩ := hF
  have hw : ∀ x ∈ rs.map T16, WordOk x := fun x hx => by
    obtain ⟨r, hr, rfl⟩ := List.mem_map.mp hx
    exact ok16 (hrs r hr)
  have hn : (rs.map T16).length ≤ 14 := by rw [List.length_map]; exact hn1
  have hn20 : (rs.map T16).length ≤ 20 := by omega
  have hn1000 : (rs.map T16).length ≤ 1000 := by omega
  have hln : ∀ x ∈ rs.map T16, x.length ≤ 100 := fun x hx => Nat.le_trans (hw x hx).len (by decide)
  have hlen : ∀ x ∈ rs.map T16, x.length ≤ 1000 := fun x hx => Nat.le_trans (hw x hx).len (by decide)
  have hx1 := line_len hw hn
  have hx2 : Txt.words (lineS (rs.map T16)) = rs.map T16 := words_line fun x hx => (hw x hx).plain
  have hok := caps_ok hw hn
  walk1
  k_steps
  unfold Stop
  k_dflt (show wpAny _ _ (call (Value.builtin "str.split") [Value.str _ _, Value.str _ _]) _ _ _)
  rename Fr _ _ _ _ => F1
  rename News _ _ _ _ => N1
  refine splitN1 F1 N1 (by decide) (fun lp h6 k6 ht F2 N2 => ?_) (by rw [sizeLine_eq]; have := caps_len hw hn; omega)
  have hsp : lp.map (·.1) = rs.map C16 := by
    rw [ht]
    unfold capText
    rw [split_join ?hne ?hbl, List.map_map]
    · rfl
    case hne =>
      intro e
      have := congrArg List.length e
      rw [List.length_map, List.length_map] at this
      simp only [List.length_nil] at this
      omega
    case hbl =>
      intro x hx
      obtain ⟨y, hy, rfl⟩ := List.mem_map.mp hx
      exact (hw y hy).blank
  have hst2 := R.strs_values lp
  rw [hsp] at hst2
  clear hw hn hn20 hn1000 hln hlen hx1 hx2 hok ht hsp F1 N1
  have mk := mark
  k_steps
  unfold Stop
  rename Fr _ _ _ (fun _ => _) => F3
  rename News _ _ _ _ => N3
  exact law7 w p loose mean mg mb h₀ dp un gd _ P E L fa cd _ rfl _ rfl _ _ X T B hdp hun F3 N3 DR rs ((if_neg (by decide)).trans h1) (rowsOf_sub (fun _ hm => List.Mem.tail _ hm) hR) hrs hn0 hn1 DL ((if_neg (by decide)).trans h3) (textsOf_sub (fun _ hm => List.Mem.tail _ hm) hL) _ (if_pos rfl) ⟨_, _, List.Mem.head _, hst2⟩ (fun h' tk hf => hP h' tk hf)
end
section
local macro_rules | `(tactic| walk_at "compareOp NotEq str str") => `(tactic| refine stop ?_)
local macro_rules | `(tactic| walk_at "subscriptTail") => `(tactic| (k_dflt (first | (refine item0 (by assumption) ?_) | (refine El.slice_at rfl rfl (by assumption) (by omega) ?_; intro h' t' k' e'; (have X' := El.kIn e')))))
local macro_rules | `(tactic| walk_at "call builtin:str.upper") => `(tactic| (refine SCL.upper (Nat.le_of_ble_eq_true rfl) ?_; intro _))
local macro_rules | `(tactic| walk_at "call builtin:str.lower") => `(tactic| (refine SCL.lower (lo_fit (by assumption)) ?_; intro _))
local macro_rules | `(tactic| walk_at "binaryOp Add str str") => `(tactic| ((try dsimp only); (refine add_small (up_len _) (lo_len (by assumption)) ?_); intro t' k'))
set_option maxHeartbeats 1000000 in
theorem law5_turn (w : World) (p : Program) (loose : List Str) (mean : ExcName → Option Value) (mg mb : Str → Option Value) (h₀ : Heap) (dp un : Nat) (gd : Option (List Code)) (s : Shared) (P : Flow → Shared → Prop) (E : Value → Shared → Prop) (L fa : Addr) (cd : Value) (sc : Scope) (hsc : sc = lawScope) (bd : List Stmt) (hbd : bd = forBody) (m : Str → Option Value) (news : List (Addr × Obj)) (X : (hd.heap_39 w.params).In h₀) (T : Top p loose mean mg mb h₀) (B : Below (Ar dp un gd []) h₀ [] h₀) (hdp : dp + 20 < recursionLimit) (hun : un + 200 < cLine) (F : Fr h₀ L s.heap m) (N : News h₀ L s.heap news) (D : Addr) (ws : List Str) (hm : m (Str.ofString "words") = some (.ref D)) (hD : TextsOf news D ws) (hw : ∀ x ∈ ws, WordOk x) (hn : ws.length ≤ 14) (hQ : ∀ h' tk, Fr h₀ L h' m → News h₀ L h' news → P .next { s with heap := h', toks := tk }) :
    wpAny (model PySem.Challenge.rw_qh0002_01.row.prog w) (Ar (dp + 1) (un + 3) gd [envOf (Str.ofString "law") sc L fa cd]) (execs bd (envOf (Str.ofString "law") sc L fa cd)) P E s := by
  conv at hsc => rhs; whnf
  conv at hbd => rhs; whnf
  subst hsc hbd
  revert X
  k_fill
  intro X
  w_on
  obtain ⟨its, k, hDn, hst⟩ := hD
  have hn20 : ws.length ≤ 20 := by omega
  have hn1000 : ws.length ≤ 1000 := by omega
  have hln : ∀ x ∈ ws, x.length ≤ 100 := fun x hx => Nat.le_trans (hw x hx).len (by decide)
  have hlen : ∀ x ∈ ws, x.length ≤ 1000 := fun x hx => Nat.le_trans (hw x hx).len (by decide)
  have hx1 := line_len hw hn
  have hx2 : Txt.words (lineS ws) = ws := words_line fun x hx => (hw x hx).plain
  have hok := caps_ok hw hn
  walk1
  k_steps
  unfold Stop
  refine' lc_list (fun _ => true) (fun v y => ∀ x t, v = .str x t → ∃ u, y = .str (capE x) u) ?hA ?hc ?hcell ?hk ?hnm ?hx ?hs ?_
  case hA => exact rfl
  case hc => exact rfl
  case hcell => decide
  case hk => exact rfl
  case hnm => decide
  case hx => exact rfl
  case hs => intro _; rfl
  k_steps
  rename Fr _ _ _ _ => F1
  rename News _ _ _ _ => N1
  have hsz : its.size = ws.length := by rw [← strs_len hst, Array.length_toList]
  refine ⟨_, _, rfl, listOf_is (News.get N1 hDn), by omega, ?te, ?el, ?fin⟩
  case te => intro C v s₃ m₃ E' _ _ _ _; exact tests_all
  case el =>
    intro C v s₃ m₃ E' hv _ hk hnn hmm
    have hmem := strs_mem hst v hv
    obtain ⟨x, t, rfl, hxm⟩ := hmem
    have hwx := hw x hxm
    have hx0 : x.length ≠ 0 := hwx.plain.2
    have hx8 : x.length ≤ 8 := hwx.len
    clear hw hln hlen hx1 hx2 hok hwx
    refine el_start X T B F1 hk hnn rfl rfl (fun e1 => ?_)
    have Xs := El.kIn e1
    k_steps
    rename El _ _ _ _ _ _ _ _ _ _ _ _ _ _ _ _ => e2
    refine ⟨fun x' t' e => ?_, ⟨_, _, rfl, e2.k2⟩⟩
    cases e
    exact ⟨_, rfl⟩
  case fin =>
    intro D' h' tk ys hD' hpl hpr hkp
    rw [all_true] at hpr
    have hst2 := strs_texts hst hpr
    have hcap : ws.map capE = ws.map Txt.capitalize := List.map_congr_left fun x hx => (hw x hx).cap
    rw [hcap] at hst2
    have F2 := F1.keeps hkp
    have N2 := N1.grown hkp
    clear F1 N1
    k_steps
    k_dflt (show wpAny _ _ (call (Value.builtin "str.join") [Value.str _ _, Value.ref _]) _ _ _)
    refine PyProof.Rows.join_listW hpl.isList hst2 (by decide) (caps_weight hw hn) ?_
    intro t' k'
    k_steps
    unfold Stop
    refine ne_str_same ?_
    k_steps
    exact hQ _ _ F2 N2
set_option maxHeartbeats 1000000 in
theorem law5 (w : World) (p : Program) (loose : List Str) (mean : ExcName → Option Value) (mg mb : Str → Option Value) (h₀ : Heap) (dp un : Nat) (gd : Option (List Code)) (s : Shared) (P : Flow → Shared → Prop) (E : Value → Shared → Prop) (L fa : Addr) (cd : Value) (sc : Scope) (hsc : sc = lawScope) (bd : List Stmt) (hbd : bd = (lawBody.drop 5)) (m : Str → Option Value) (news : List (Addr × Obj)) (X : (hd.heap_39 w.params).In h₀) (T : Top p loose mean mg mb h₀) (B : Below (Ar dp un gd []) h₀ [] h₀) (hdp : dp + 20 < recursionLimit) (hun : un + 200 < cLine) (F : Fr h₀ L s.heap m) (N : News h₀ L s.heap news) (DR : Addr) (rs : List (List Int)) (h1 : m (Str.ofString "rows") = some (.ref DR)) (hR : RowsOf news DR rs) (hrs : ∀ r ∈ rs, r ∈ allRows) (hn0 : 7 ≤ rs.length) (hn1 : rs.length ≤ 14) (DF : Addr) (h2 : m (Str.ofString "figures") = some (.ref DF)) (hF : TextsOf news DF (rs.map T16)) (DL : Addr) (h3 : m (Str.ofString "letters") = some (.ref DL)) (hL : TextsOf news DL (rs.map T64)) (hE : PassesOwn (model PySem.Challenge.rw_qh0002_01.row.prog w) (Ar (dp + 1) (un + 3) gd [envOf (Str.ofString "law") sc L fa cd]) (envOf (Str.ofString "law") sc L fa cd) E) (hP : ∀ h' tk, (∃ m', Fr h₀ L h' m') → P (.ret (.bool true)) { s with heap := h', toks := tk }) :
    wpAny (model PySem.Challenge.rw_qh0002_01.row.prog w) (Ar (dp + 1) (un + 3) gd [envOf (Str.ofString "law") sc L fa cd]) (execs bd (envOf (Str.ofString "law") sc L fa cd)) P E s := by
  conv at hsc => rhs; whnf
  conv at hbd => rhs; whnf
  subst hsc hbd
  revert X
  k_fill
  intro X
  w_on
  walk1
  with_unfolding_all refine' For_invVF F ?k1 ?k2 ?_ (hE := hE)
  case k1 => exact rfl
  case k2 => exact rfl
  k_steps
  rename Fr _ _ _ _ => F1
  rename News _ _ _ _ => N1
  k_dflt (refine iter_listUnr (lo := W.listOf #[.ref DF, .ref DL] 0) (vs := [.ref DF, .ref DL]) rfl F1 N1 (List.Mem.head _) rfl rfl ?_)
  intro I hI
  refine ListRest.succ (fun it1 h1' tk1 hit1 F2 N2 => ?_)
  refine law5_turn w p loose mean mg mb h₀ dp un gd _ _ _ L fa cd _ rfl _ rfl _ _ X T B hdp hun F2 N2 DF (rs.map T16) (if_pos rfl) (textsOf_sub (fun _ hm => List.Mem.tail _ (List.Mem.tail _ hm)) hF) (fun x hx => by
    obtain ⟨r, hr, rfl⟩ := List.mem_map.mp hx
    exact ok16 (hrs r hr)) (by rw [List.length_map]; exact hn1) ?_
  intro h' tk' F3 N3
  dsimp only [UnrPost]
  refine UnrEnd.intro F3 N3 (_ :: news) (fun _ hm => hm) (fun p hm => Nat.ne_of_lt (hI p hm)) ⟨List.Mem.head _, ?_⟩
  refine ListRest.succ (fun it2 h2' tk2 hit2 F4 N4 => ?_)
  refine law5_turn w p loose mean mg mb h₀ dp un gd _ _ _ L fa cd _ rfl _ rfl _ _ X T B hdp hun F4 N4 DL (rs.map T64) (if_pos rfl) (textsOf_sub (fun _ hm => List.Mem.tail _ (List.Mem.tail _ hm)) hL) (fun x hx => by
    obtain ⟨r, hr, rfl⟩ := List.mem_map.mp hx
    exact ok64 (hrs r hr)) (by rw [List.length_map]; exact hn1) ?_
  intro h' tk' F5 N5
  dsimp only [UnrPost]
  refine UnrEnd.intro F5 N5 (_ :: news) (fun _ hm => hm) (fun p hm => Nat.ne_of_lt (hI p hm)) ⟨List.Mem.head _, ?_⟩
  refine ListRest.zero (fun h6 tk6 F6 N6 => ?_)
  dsimp only
  have N7 := News.sub N6 (fun _ hm => List.Mem.tail _ hm)
  exact law6 w p loose mean mg mb h₀ dp un gd _ P E L fa cd _ rfl _ rfl _ _ X T B hdp hun F6 N7 DR rs ((if_neg (by decide)).trans ((if_neg (by decide)).trans h1)) hR hrs hn0 hn1 DF ((if_neg (by decide)).trans ((if_neg (by decide)).trans h2)) hF DL ((if_neg (by decide)).trans ((if_neg (by decide)).trans h3)) hL (fun h' tk hf => hP h' tk hf)
end
end
section
local macro_rules | `(tactic| walk_at "call ref") => `(tactic| (k_dflt (refine El.callA (lawb64_ctr _ _ _ _ (by assumption) (by assumption) _) ?_ (by assumption)); walk_at "gotE"))
set_option maxHeartbeats 1000000 in
theorem law4 (w : World) (p : Program) (loose : List Str) (mean : ExcName → Option Value) (mg mb : Str → Option Value) (h₀ : Heap) (dp un : Nat) (gd : Option (List Code)) (s : Shared) (P : Flow → Shared → Prop) (E : Value → Shared → Prop) (L fa : Addr) (cd : Value) (sc : Scope) (hsc : sc = lawScope) (bd : List Stmt) (hbd : bd = (lawBody.drop 4)) (m : Str → Option Value) (news : List (Addr × Obj)) (X : (hd.heap_39 w.params).In h₀) (T : Top p loose mean mg mb h₀) (B : Below (Ar dp un gd []) h₀ [] h₀) (hdp : dp + 20 < recursionLimit) (hun : un + 200 < cLine) (F : Fr h₀ L s.heap m) (N : News h₀ L s.heap news) (DR : Addr) (rs : List (List Int)) (h1 : m (Str.ofString "rows") = some (.ref DR)) (hR : RowsOf news DR rs) (hrs : ∀ r ∈ rs, r ∈ allRows) (hn0 : 7 ≤ rs.length) (hn1 : rs.length ≤ 14) (DF : Addr) (h2 : m (Str.ofString "figures") = some (.ref DF)) (hF : TextsOf news DF (rs.map T16)) (DL : Addr) (h3 : m (Str.ofString "letters") = some (.ref DL)) (hL : TextsOf news DL (rs.map T64)) (hE : PassesOwn (model PySem.Challenge.rw_qh0002_01.row.prog w) (Ar (dp + 1) (un + 3) gd [envOf (Str.ofString "law") sc L fa cd]) (envOf (Str.ofString "law") sc L fa cd) E) (hP : ∀ h' tk, (∃ m', Fr h₀ L h' m') → P (.ret (.bool true)) { s with heap := h', toks := tk }) :
    wpAny (model PySem.Challenge.rw_qh0002_01.row.prog w) (Ar (dp + 1) (un + 3) gd [envOf (Str.ofString "law") sc L fa cd]) (execs bd (envOf (Str.ofString "law") sc L fa cd)) P E s := by
  conv at hsc => rhs; whnf
  conv at hbd => rhs; whnf
  subst hsc hbd
  revert X
  k_fill
  intro X
  w_on
  obtain ⟨its, k, hDR, hpR⟩ := hR
  obtain ⟨itf, kf, hDL, hsL⟩ := hL
  k_steps
  unfold Stop
  refine' lc_list (fun _ => true) (fun v y => ∀ r, RowOf news v r → ∃ u, y = .str (b64S r) u) ?hA ?hc ?hcell ?hk ?hnm ?hx ?hs ?_
  case hA => exact rfl
  case hc => exact rfl
  case hcell => decide
  case hk => exact rfl
  case hnm => decide
  case hx => exact rfl
  case hs => intro _; rfl
  k_steps
  have hsz : its.size = rs.length := by rw [← hpR.length, Array.length_toList]
  refine ⟨_, _, rfl, listOf_is (News.get N hDR), by omega, ?te, ?el, ?fin⟩
  case te => intro C v s₃ m₃ E' _ _ _ _; exact tests_all
  case el =>
    intro C v s₃ m₃ E' hv _ hk hn hm
    have hmem := paired_mem hpR v hv
    obtain ⟨r0, hr0, hro⟩ := hmem
    have hra := hrs r0 hr0
    have hT := rowOf_list N hro
    obtain ⟨T0, its0, rfl, hT0, hi0⟩ := hT
    have hT3 := isl_keep hT0 hk
    refine el_start X T B F hk hn rfl rfl (fun e1 => ?_)
    have Xs := El.kIn e1
    k_steps
    rename El _ _ _ _ _ _ _ _ _ _ _ _ _ _ _ _ => e2
    refine ⟨fun r hr => ?_, ⟨_, _, rfl, e2.k2⟩⟩
    have er := rowOf_inj N hr hro
    subst er
    exact ⟨_, rfl⟩
  case fin =>
    intro D h' tk ys hD hpl hpr hkp
    rw [all_true] at hpr
    have hst := paired_texts hpR hpr
    rw [map_congr_rows hrs (g := T64) (fun r hr => (t64_facts hr).1)] at hst
    have F2 := F.keeps hkp
    have N2 := N.grown hkp
    clear F N
    k_steps
    unfold Stop
    refine ne_texts (listOf_is (News.get N2 hDL)) hpl.isList hsL hst ?ok (by dsimp only [Ar]; omega) ?_
    case ok =>
      intro x hx
      obtain ⟨r, hr, rfl⟩ := List.mem_map.mp hx
      exact (t64_facts (hrs r hr)).2
    have mk := mark
    k_steps
    unfold Stop
    exact law5 w p loose mean mg mb h₀ dp un gd _ P E L fa cd _ rfl _ rfl _ _ X T B hdp hun F2 N2 DR rs h1 ⟨its, k, hDR, hpR⟩ hrs hn0 hn1 DF h2 hF DL h3 ⟨itf, kf, hDL, hsL⟩ hE (fun h' tk hf => hP h' tk hf)
end
section
local macro_rules | `(tactic| walk_at "binaryOp FloorDiv int int") => `(tactic| (refine PyProof.Rows.floordiv_int (by decide) ?_ (Or.inl (PyProof.noPylong_small (by decide)))))
local macro_rules | `(tactic| walk_at "binaryOp Mod int int") => `(tactic| (refine PyProof.Rows.mod_int' (by decide) ?_))
local macro_rules | `(tactic| walk_at "subscriptTail") => `(tactic| ((try dsimp only); k_dflt (refine item_s 16 (by decide +kernel) (by decide) ?_ ?_ ?_); (first | exact (fdiv16 (by assumption) (by assumption)).1 | exact (fmod_pos _ 16 (by decide)).1); (first | exact (fdiv16 (by assumption) (by assumption)).2 | exact (fmod_pos _ 16 (by decide)).2)))
local macro_rules | `(tactic| walk_at "binaryOp Add str str") => `(tactic| ((try dsimp only); (refine add_small (Nat.le_of_ble_eq_true rfl) (Nat.le_of_ble_eq_true rfl) ?_); intro t' k'))
set_option maxHeartbeats 1000000 in
theorem law3 (w : World) (p : Program) (loose : List Str) (mean : ExcName → Option Value) (mg mb : Str → Option Value) (h₀ : Heap) (dp un : Nat) (gd : Option (List Code)) (s : Shared) (P : Flow → Shared → Prop) (E : Value → Shared → Prop) (L fa : Addr) (cd : Value) (sc : Scope) (hsc : sc = lawScope) (bd : List Stmt) (hbd : bd = (lawBody.drop 3)) (m : Str → Option Value) (news : List (Addr × Obj)) (X : (hd.heap_39 w.params).In h₀) (T : Top p loose mean mg mb h₀) (B : Below (Ar dp un gd []) h₀ [] h₀) (hdp : dp + 20 < recursionLimit) (hun : un + 200 < cLine) (F : Fr h₀ L s.heap m) (N : News h₀ L s.heap news) (DR : Addr) (rs : List (List Int)) (h1 : m (Str.ofString "rows") = some (.ref DR)) (hR : RowsOf news DR rs) (hrs : ∀ r ∈ rs, r ∈ allRows) (hn0 : 7 ≤ rs.length) (hn1 : rs.length ≤ 14) (DF : Addr) (h2 : m (Str.ofString "figures") = some (.ref DF)) (hF : TextsOf news DF (rs.map T16)) (DL : Addr) (h3 : m (Str.ofString "letters") = some (.ref DL)) (hL : TextsOf news DL (rs.map T64)) (hE : PassesOwn (model PySem.Challenge.rw_qh0002_01.row.prog w) (Ar (dp + 1) (un + 3) gd [envOf (Str.ofString "law") sc L fa cd]) (envOf (Str.ofString "law") sc L fa cd) E) (hP : ∀ h' tk, (∃ m', Fr h₀ L h' m') → P (.ret (.bool true)) { s with heap := h', toks := tk }) :
    wpAny (model PySem.Challenge.rw_qh0002_01.row.prog w) (Ar (dp + 1) (un + 3) gd [envOf (Str.ofString "law") sc L fa cd]) (execs bd (envOf (Str.ofString "law") sc L fa cd)) P E s := by
  conv at hsc => rhs; whnf
  conv at hbd => rhs; whnf
  subst hsc hbd
  revert X
  k_fill
  intro X
  w_on
  obtain ⟨its, k, hDR, hpR⟩ := hR
  obtain ⟨itf, kf, hDF, hsF⟩ := hF
  k_steps
  unfold Stop
  refine' lc_list (fun _ => true) (fun v y => ∀ r, RowOf news v r → ∃ u, y = .str (J16 r) u) ?hA ?hc ?hcell ?hk ?hnm ?hx ?hs ?_
  case hA => exact rfl
  case hc => exact rfl
  case hcell => decide
  case hk => exact rfl
  case hnm => decide
  case hx => exact rfl
  case hs => intro _; rfl
  k_steps
  have hsz : its.size = rs.length := by rw [← hpR.length, Array.length_toList]
  refine ⟨_, _, rfl, listOf_is (News.get N hDR), by omega, ?te, ?el, ?fin⟩
  case te => intro C v s₃ m₃ E' _ _ _ _; exact tests_all
  case el =>
    intro C v s₃ m₃ E' hv _ hk hn hm
    have hmem := paired_mem hpR v hv
    obtain ⟨r0, hr0, hro⟩ := hmem
    have hra := hrs r0 hr0
    have hT := rowOf_list N hro
    obtain ⟨T0, its0, rfl, hT0, hi0⟩ := hT
    have hT3 := isl_keep hT0 hk
    refine el_start X T B F hk hn rfl rfl (fun e1 => ?_)
    have Xs := El.kIn e1
    k_steps
    unfold Stop
    refine' lc_list (fun _ => true) (fun v y => ∀ x t, v = .int x t → ∃ u, y = .str (hexTwo x) u) ?hA ?hc ?hcell ?hk ?hnm ?hx ?hs ?_
    case hA => exact rfl
    case hc => exact rfl
    case hcell => decide
    case hk => exact rfl
    case hnm => decide
    case hx => exact rfl
    case hs => intro _; rfl
    k_steps
    have hl0 : its0.size = r0.length := by rw [← hi0.length, Array.length_toList]
    have hl3 := len_row hra
    refine ⟨_, _, rfl, hT3, by omega, ?te2, ?el2, ?fin2⟩
    case te2 => intro C v s₃ m₃ E' _ _ _ _; exact tests_all
    case el2 =>
      intro C4 v4 s₄ m₄ E4 hv4 _ hk4 hn4 hm4
      have hmem := ints_mem' hi0 v4 hv4
      obtain ⟨x, t, rfl, hxm⟩ := hmem
      have hxb := inb_row hra x hxm
      obtain ⟨hx0, hx1⟩ := hxb
      have e2 := El.inner e1 hk4 hn4
      clear e1
      have Xs := El.kIn e2
      k_steps
      refine ⟨fun x' t' e => ?_, ⟨_, _, rfl, e2.k2⟩⟩
      cases e
      exact ⟨_, rfl⟩
    case fin2 =>
      intro D h' tk ys hD hpl hpr hkp
      rw [all_true] at hpr
      have e2 := El.next e1 hkp
      have Xs := El.kIn e2
      have hst := ints_texts hi0 hpr
      k_steps
      k_dflt (show wpAny _ _ (call (Value.builtin "str.join") [Value.str _ _, Value.ref _]) _ _ _)
      refine PyProof.Rows.join_listW hpl.isList hst (by decide) ?hw ?_
      case hw =>
        have h1 := sum_le (fun z : Str => z.length) 2 (r0.map hexTwo) (fun z hz => by
          obtain ⟨i, _, rfl⟩ := List.mem_map.mp hz
          exact Nat.le_of_eq (h2_len i))
        rw [List.length_map] at h1 ⊢
        omega
      intro t' k'
      refine ⟨fun r hr => ?_, ⟨_, _, rfl, e2.k2⟩⟩
      have er := rowOf_inj N hr hro
      subst er
      exact ⟨_, rfl⟩
  case fin =>
    intro D h' tk ys hD hpl hpr hkp
    rw [all_true] at hpr
    have hst := paired_texts hpR hpr
    rw [map_congr_rows hrs (g := T16) (fun r hr => (t16_facts hr).1)] at hst
    have F2 := F.keeps hkp
    have N2 := N.grown hkp
    clear F N
    k_steps
    unfold Stop
    refine ne_texts (listOf_is (News.get N2 hDF)) hpl.isList hsF hst ?ok (by dsimp only [Ar]; omega) ?_
    case ok =>
      intro x hx
      obtain ⟨r, hr, rfl⟩ := List.mem_map.mp hx
      exact (t16_facts (hrs r hr)).2
    have mk := mark
    k_steps
    unfold Stop
    exact law4 w p loose mean mg mb h₀ dp un gd _ P E L fa cd _ rfl _ rfl _ _ X T B hdp hun F2 N2 DR rs h1 ⟨its, k, hDR, hpR⟩ hrs hn0 hn1 DF h2 ⟨itf, kf, hDF, hsF⟩ DL h3 hL hE (fun h' tk hf => hP h' tk hf)
end
section
local macro_rules | `(tactic| walk_at "call ref") => `(tactic| (k_dflt (refine El.callA (b16encode_ctr _ _ (by assumption) _) ?_ (by trivial)); walk_at "gotE"))
local macro_rules | `(tactic| walk_at "call ref") => `(tactic| (k_dflt (refine El.callA (b64encode_ctr _ _ (by assumption) _) ?_ (by trivial)); walk_at "gotE"))
local macro_rules | `(tactic| walk_at "call type:bytes") => `(tactic| ((try dsimp only); k_dflt (refine' El.bytes ?ke ?kl ?ki ?kr ?kn ?kh ?_; (case ke => assumption); (case kl => assumption); (case ki => assumption); (case kr => exact inb_row (by assumption)); (case kn => exact len_row (by assumption)); (case kh => exact rfl); intro h' t' k' e'; (have X' := El.kIn e'))))
local macro_rules | `(tactic| walk_at "call type:str") => `(tactic| ((try dsimp only); k_dflt (first | (refine R.str_ascii (by assumption) (by assumption) (by assumption) ?_) | (refine R.str_ascii_arr (by assumption) (by assumption) (by assumption) ?_)); intro t' k'))
section
set_option maxHeartbeats 2000000 in
theorem law2 (w : World) (p : Program) (loose : List Str) (mean : ExcName → Option Value) (mg mb : Str → Option Value) (h₀ : Heap) (dp un : Nat) (gd : Option (List Code)) (s : Shared) (P : Flow → Shared → Prop) (E : Value → Shared → Prop) (L fa : Addr) (cd : Value) (sc : Scope) (hsc : sc = lawScope) (bd : List Stmt) (hbd : bd = (lawBody.drop 2)) (m : Str → Option Value) (news : List (Addr × Obj)) (X : (hd.heap_39 w.params).In h₀) (T : Top p loose mean mg mb h₀) (B : Below (Ar dp un gd []) h₀ [] h₀) (hdp : dp + 20 < recursionLimit) (hun : un + 200 < cLine) (F : Fr h₀ L s.heap m) (N : News h₀ L s.heap news) (DR : Addr) (rs : List (List Int)) (h1 : m (Str.ofString "rows") = some (.ref DR)) (hR : RowsOf news DR rs) (hrs : ∀ r ∈ rs, r ∈ allRows) (hn0 : 7 ≤ rs.length) (hn1 : rs.length ≤ 14) (DF : Addr) (h2 : m (Str.ofString "figures") = some (.ref DF)) (hF : TextsOf news DF (rs.map T16)) (hE : PassesOwn (model PySem.Challenge.rw_qh0002_01.row.prog w) (Ar (dp + 1) (un + 3) gd [envOf (Str.ofString "law") sc L fa cd]) (envOf (Str.ofString "law") sc L fa cd) E) (hP : ∀ h' tk, (∃ m', Fr h₀ L h' m') → P (.ret (.bool true)) { s with heap := h', toks := tk }) :
    wpAny (model PySem.Challenge.rw_qh0002_01.row.prog w) (Ar (dp + 1) (un + 3) gd [envOf (Str.ofString "law") sc L fa cd]) (execs bd (envOf (Str.ofString "law") sc L fa cd)) P E s := by
  conv at hsc => rhs; whnf
  conv at hbd => rhs; whnf
  subst hsc hbd
  revert X
  k_fill
  intro X
  w_on
  obtain ⟨its, k, hDR, hpR⟩ := hR
  k_steps
  unfold Stop
  refine' lcA_list h₀ m news (fun _ => true) (fun v y => ∀ r, RowOf news v r → ∃ u, y = .str (T64 r) u) ?hA ?hsw ?hc ?hcell ?hk ?hnm ?hx ?hy ?hp ?hs ?_
  case hA => exact rfl
  case hsw => with_unfolding_all rfl
  case hc => exact rfl
  case hcell => decide
  case hk => exact rfl
  case hnm => decide
  case hx => exact rfl
  case hy => exact rfl
  case hp => exact rfl
  case hs => intro _; rfl
  k_steps
  have hsz : its.size = rs.length := by rw [← hpR.length, Array.length_toList]
  refine ⟨_, _, rfl, listOf_is (News.get N hDR), by omega, F, N, ?te, ?el, ?fin⟩
  case te => intro C v s₃ m₃ E' _ _ _ _; exact tests_all
  case el =>
    intro C v s₃ m₃ E' hv _ hk hn hm
    have hmem := paired_mem hpR v hv
    obtain ⟨r0, hr0, hro⟩ := hmem
    have hra := hrs r0 hr0
    have hT := rowOf_list N hro
    obtain ⟨T0, its0, rfl, hT0, hi0⟩ := hT
    have hT3 := isl_keep hT0 hk
    have hfx := enc_facts hra
    obtain ⟨hf5, hf6, hf7⟩ := hfx
    refine el_start X T B F hk hn rfl rfl (fun e1 => ?_)
    have Xs := El.kIn e1
    k_steps
    rename El _ _ _ _ _ _ _ _ _ _ _ _ _ _ _ _ => e2
    refine ⟨fun r hr => ?_, ⟨_, _, rfl, e2.k2⟩⟩
    have er := rowOf_inj N hr hro
    subst er
    exact ⟨_, rfl⟩
  case fin =>
    intro D h' tk ys n F2 N2 hpr
    rw [all_true] at hpr
    dsimp only
    exact law3 w p loose mean mg mb h₀ dp un gd _ P E L fa cd _ rfl _ rfl _ _ X T B hdp hun F2 N2 DR rs ((if_neg (by decide)).trans h1) ⟨its, k, List.Mem.tail _ hDR, hpR.mono fun _ _ z => rowOf_sub (fun _ hm => List.Mem.tail _ hm) z⟩ hrs hn0 hn1 DF ((if_neg (by decide)).trans h2) (textsOf_sub (fun _ hm => List.Mem.tail _ hm) hF) D (if_pos rfl) ⟨ys, n, List.Mem.head _, paired_texts hpR hpr⟩ hE (fun h' tk hf => hP h' tk hf)
end
section
set_option maxHeartbeats 2000000 in
theorem law1 (w : World) (p : Program) (loose : List Str) (mean : ExcName → Option Value) (mg mb : Str → Option Value) (h₀ : Heap) (dp un : Nat) (gd : Option (List Code)) (s : Shared) (P : Flow → Shared → Prop) (E : Value → Shared → Prop) (L fa : Addr) (cd : Value) (sc : Scope) (hsc : sc = lawScope) (bd : List Stmt) (hbd : bd = (lawBody.drop 1)) (m : Str → Option Value) (news : List (Addr × Obj)) (X : (hd.heap_39 w.params).In h₀) (T : Top p loose mean mg mb h₀) (B : Below (Ar dp un gd []) h₀ [] h₀) (hdp : dp + 20 < recursionLimit) (hun : un + 200 < cLine) (F : Fr h₀ L s.heap m) (N : News h₀ L s.heap news) (DR : Addr) (rs : List (List Int)) (h1 : m (Str.ofString "rows") = some (.ref DR)) (hR : RowsOf news DR rs) (hrs : ∀ r ∈ rs, r ∈ allRows) (hn0 : 7 ≤ rs.length) (hn1 : rs.length ≤ 14) (hE : PassesOwn (model PySem.Challenge.rw_qh0002_01.row.prog w) (Ar (dp + 1) (un + 3) gd [envOf (Str.ofString "law") sc L fa cd]) (envOf (Str.ofString "law") sc L fa cd) E) (hP : ∀ h' tk, (∃ m', Fr h₀ L h' m') → P (.ret (.bool true)) { s with heap := h', toks := tk }) :
    wpAny (model PySem.Challenge.rw_qh0002_01.row.prog w) (Ar (dp + 1) (un + 3) gd [envOf (Str.ofString "law") sc L fa cd]) (execs bd (envOf (Str.ofString "law") sc L fa cd)) P E s := by
  conv at hsc => rhs; whnf
  conv at hbd => rhs; whnf
  subst hsc hbd
  revert X
  k_fill
  intro X
  w_on
  obtain ⟨its, k, hDR, hpR⟩ := hR
  k_steps
  unfold Stop
  refine' lcA_list h₀ m news (fun _ => true) (fun v y => ∀ r, RowOf news v r → ∃ u, y = .str (T16 r) u) ?hA ?hsw ?hc ?hcell ?hk ?hnm ?hx ?hy ?hp ?hs ?_
  case hA => exact rfl
  case hsw => with_unfolding_all rfl
  case hc => exact rfl
  case hcell => decide
  case hk => exact rfl
  case hnm => decide
  case hx => exact rfl
  case hy => exact rfl
  case hp => exact rfl
  case hs => intro _; rfl
  k_steps
  have hsz : its.size = rs.length := by rw [← hpR.length, Array.length_toList]
  refine ⟨_, _, rfl, listOf_is (News.get N hDR), by omega, F, N, ?te, ?el, ?fin⟩
  case te => intro C v s₃ m₃ E' _ _ _ _; exact tests_all
  case el =>
    intro C v s₃ m₃ E' hv _ hk hn hm
    have hmem := paired_mem hpR v hv
    obtain ⟨r0, hr0, hro⟩ := hmem
    have hra := hrs r0 hr0
    have hT := rowOf_list N hro
    obtain ⟨T0, its0, rfl, hT0, hi0⟩ := hT
    have hT3 := isl_keep hT0 hk
    have hfx := hex_facts hra
    obtain ⟨hf1, hf2, hf3, hf4, hf5, hf6, hf7⟩ := hfx
    refine el_start X T B F hk hn rfl rfl (fun e1 => ?_)
    have Xs := El.kIn e1
    k_steps
    rename El _ _ _ _ _ _ _ _ _ _ _ _ _ _ _ _ => e2
    refine ⟨fun r hr => ?_, ⟨_, _, rfl, e2.k2⟩⟩
    have er := rowOf_inj N hr hro
    subst er
    exact ⟨_, rfl⟩
  case fin =>
    intro D h' tk ys n F2 N2 hpr
    rw [all_true] at hpr
    dsimp only
    exact law2 w p loose mean mg mb h₀ dp un gd _ P E L fa cd _ rfl _ rfl _ _ X T B hdp hun F2 N2 DR rs ((if_neg (by decide)).trans h1) ⟨its, k, List.Mem.tail _ hDR, hpR.mono fun _ _ z => rowOf_sub (fun _ hm => List.Mem.tail _ hm) z⟩ hrs hn0 hn1 D (if_pos rfl) ⟨ys, n, List.Mem.head _, paired_texts hpR hpr⟩ hE (fun h' tk hf => hP h' tk hf)
end
end
section
local macro_rules | `(tactic| walk_at "call ref") => `(tactic| (k_dflt (refine El.callA (octets_ctr _ _ _) ?_ (by trivial)); walk_at "gotE"))
set_option maxHeartbeats 2000000 in
theorem law0 (w : World) (p : Program) (loose : List Str) (mean : ExcName → Option Value) (mg mb : Str → Option Value) (h₀ : Heap) (dp un : Nat) (gd : Option (List Code)) (s : Shared) (P : Flow → Shared → Prop) (E : Value → Shared → Prop) (L fa : Addr) (cd : Value) (sc : Scope) (hsc : sc = lawScope) (bd : List Stmt) (hbd : bd = lawBody) (m : Str → Option Value) (news : List (Addr × Obj)) (X : (hd.heap_39 w.params).In h₀) (T : Top p loose mean mg mb h₀) (B : Below (Ar dp un gd []) h₀ [] h₀) (hdp : dp + 20 < recursionLimit) (hun : un + 200 < cLine) (F : Fr h₀ L s.heap m) (N : News h₀ L s.heap news) (l : Addr) (vs : List Value) (ns : List Int) (hm : m (Str.ofString "script") = some (.ref l)) (hl : h₀.IsList l vs.toArray) (hi : IntsAre vs ns) (hn : ns.length ≤ 63) (hE : PassesOwn (model PySem.Challenge.rw_qh0002_01.row.prog w) (Ar (dp + 1) (un + 3) gd [envOf (Str.ofString "law") sc L fa cd]) (envOf (Str.ofString "law") sc L fa cd) E) (hP : ∀ h' tk, (∃ m', Fr h₀ L h' m') → P (.ret (.bool true)) { s with heap := h', toks := tk }) :
    wpAny (model PySem.Challenge.rw_qh0002_01.row.prog w) (Ar (dp + 1) (un + 3) gd [envOf (Str.ofString "law") sc L fa cd]) (execs bd (envOf (Str.ofString "law") sc L fa cd)) P E s := by
  conv at hsc => rhs; whnf
  conv at hbd => rhs; whnf
  subst hsc hbd
  revert X
  k_fill
  intro X
  w_on
  k_steps
  unfold Stop
  refine' lcOA_list h₀ m [] (fun _ => true) RowG ?hA ?hsw ?hc ?hcell ?hk ?hnm ?hx ?hy ?hp ?hs ?_
  case hA => exact rfl
  case hsw => with_unfolding_all rfl
  case hc => exact rfl
  case hcell => decide
  case hk => exact rfl
  case hnm => decide
  case hx => exact rfl
  case hy => exact rfl
  case hp => exact rfl
  case hs => intro _; rfl
  k_steps
  rename Fr _ _ _ _ => F1
  rename News _ _ _ _ => N1
  rename IntsAre _ (List.take 7 ns ++ _) => hi1
  have hsz := hi1.length
  rw [List.length_append, List.length_take] at hsz
  simp only [List.length_cons, List.length_nil] at hsz
  refine ⟨_, _, rfl, listOf_is (News.get N1 (List.Mem.head _)), ?sz, F1, News.nil, ?te, ?el, ?fin⟩
  case sz =>
    rw [List.size_toArray, hsz]
    omega
  case te => intro C v s₃ m₃ E' _ _ _ _; exact tests_all
  case el =>
    intro C v s₃ m₃ E' hv _ hk hn hm
    obtain ⟨x, t, rfl⟩ := ints_mem hi1 v hv
    refine el_start X T B F1 hk hn rfl rfl (fun e1 => ?_)
    have Xs := El.kIn e1
    k_steps
    rename ∃ l its ns, _ => P1
    rename El _ _ _ _ _ _ _ _ _ _ _ _ _ _ _ _ => e2
    obtain ⟨T', its, r, rfl, h1, h2, h3, h4⟩ := P1
    exact ⟨⟨T', its, rfl, h1, h2.isList, r, h4, h3⟩, ⟨_, _, rfl, e2.k2⟩⟩
  case fin =>
    intro D h' tk ys n tl F2 N2 hpr
    rw [all_true] at hpr
    have hx := rows_out hpr
    obtain ⟨rs, hp1, hp2, hp3⟩ := hx
    have hlen : rs.length = min 7 ns.length + 7 := by rw [hp3]; exact hsz
    dsimp only
    exact law1 w p loose mean mg mb h₀ dp un gd _ P E L fa cd _ rfl _ rfl _ _ X T B hdp hun F2 N2 D rs (if_pos rfl) ⟨ys, n, List.Mem.head _, hp1.mono fun _ _ z => rowOf_sub (fun _ hm => List.Mem.tail _ hm) z⟩ hp2 (by omega) (by omega) hE (fun h' tk hf => hP h' tk hf)
end
end
end
end
end Mine
set_option maxHeartbeats 8000000 in
theorem PySem.Challenge.cw_qh0002_01_holds : PySem.Challenge.rw_qh0002_01.Holds := by
  exact Mine.hd (by
  k_fill
  intro w s₀ s₁ mg mb G Y fa o pm cd doc dV kV ho hd hcd hD hmg hg args vals as hpre hlay hrd hwl hlo
  have KX := kIn_of Y
  refine Ground.open G ?_
  intro T B D TE TW
  try (refine guard_noD D (by decide +kernel) ?_; clear D)
  obtain ⟨_, _, M⟩ := bmod_of_top T
  have TA := at_of_top T
  try (obtain ⟨_, _, he, B0⟩ := based_of_top T rfl hmg ho hd; have he' : cd = _ := he; subst he'; clear he)
  clear hmg
  wrow_args hpre hlay hrd hwl hlo
  all_goals (
    refine enter_call ?_
    w_top on
    try refine codeAny_mono ?_ (fun _ _ g => GoodW.toG g)
    have K0 := below_caller (Top.heap T)
    w_call any ho hd hcd hD T F
    clear hd TA
    k_drop)
  rename Fr _ _ _ _ => F
  rename News _ _ _ [] => N
  rename Heap.IsList _ _ _ => hl
  rename IntsAre _ _ => hi
  rename Below _ _ _ _ => B
  rename Top _ _ _ _ _ _ => T
  rename Frag.In _ _ => X
  refine Mine.law0 _ _ _ _ _ _ _ _ _ _ _ _ _ _ _ _ _ rfl _ rfl _ _ X T B (by decide) (by decide) F N _ _ _ rfl hl hi (by omega) (by passes_own) (fun h' tk hf => ?_)
  obtain ⟨m', F'⟩ := hf
  dsimp only
  w_on
  k_steps
  all_goals (try k_data)
  all_goals w_report)
