import PyProof.Rows.All
import Wide.All
import OpenK.AllK
import Wide.FinOn
import Lean
import PySem.Challenge.RW_fz0005_01
open PySem PySem.W PyProof.Rows PySem.Spec PySem.Calls
set_option Elab.async false
set_option rowWalk.seconds 0
set_option maxRecDepth 100000
set_option maxHeartbeats 8000000

namespace Mine

/-- all that stood in h stands in h' -/
def Kept (h h' : Heap) : Prop := ∀ b o, h.get? b = some o → h'.get? b = some o
theorem Kept.rfl' {h : Heap} : Kept h h := fun _ _ e => e
theorem Kept.trans {a b c : Heap} (x : Kept a b) (y : Kept b c) : Kept a c := fun k o e => y k o (x k o e)
theorem Kept.of_fr {h₀ h : Heap} {L : Addr} {m : Str → Option Value} (F : Fr h₀ L h m) : Kept h₀ h := F.keep
theorem Kept.fr {h₀ h h' : Heap} {L : Addr} {m : Str → Option Value} (k : Kept h h') (F : Fr h₀ L h m) : Fr h₀ L h' m :=
  ⟨F.ns.keeps k, fun b o e => k b o (F.keep b o e), F.above⟩
theorem Kept.news {h₀ h h' : Heap} {L : Addr} {news : List (Addr × Obj)} (k : Kept h h') (N : News h₀ L h news) : News h₀ L h' news :=
  fun p hp => ⟨k _ _ (N p hp).1, (N p hp).2⟩

abbrev At (dp : Nat) (fr : Option (List Env)) (gd : Option (List Code)) (un : Nat) : Around := { handled := none, depth := dp, frames := fr, guards := gd, units := un }

def Back (Q : Value → Shared → Prop) (v : Value) (s' : Shared) : Prop := Q v s'
theorem Back.of {Q : Value → Shared → Prop} {v : Value} {s' : Shared} (h : Q v s') : Back Q v s' := h

/-- a call that changes nothing of what stood -/
theorem own_call {prog : Program} {w : World} {A : Around} {s : Shared} {K : Frag} {Q E : Value → Shared → Prop} {name qual : Str} {params : Arguments} {body : List Stmt} {scope : Scope}
    {dV kV doc pm cdv ct oc : Value} {an od : Option Addr} {osl : Array (Option Value)} {f : Addr} {args : List Value} {binds : List (Str × Value)}
    (X : K.In s.heap) (hlim : s.heap.NoLimit)
    (ho : K.lookup f = some ⟨oc, od, .func (fnOf name qual params body scope dV kV doc pm an cdv ct), osl⟩) (hcd : codeIn K cdv qual = true) (hroom : A.depth < recursionLimit)
    (hbind : BindsTo s (fnOf name qual params body scope dV kV doc pm an cdv ct) ⟨args, []⟩ binds) (hloc : ∀ y ∈ binds, scope.names.lookup y.1 = some .local)
    (h : ∀ L h₁, Fr s.heap L h₁ (fun y => binds.reverse.lookup y) → News s.heap L h₁ [] →
      wpAny (model prog w) (A.deeper (envOf qual scope L f cdv)) (execs body (envOf qual scope L f cdv))
        (fun fl s' => Back Q (match fl with | .ret v => v | _ => .none) s') (fun _ _ => False)
        { s with heap := h₁, toks := s.toks + binds.length })
    (hcell : ∀ x ∈ scope.names, x.2 ≠ .cell) (hco : scope.isCoroutine = false) (hgen : scope.isGenerator = false) (hk : scope.kind = .function) :
    wpAny (model prog w) A (call (.ref f) args) Q E s := by
  refine wpAny_call ?_
  refine codeAny_call_def (fd := fnOf name qual params body scope dV kV doc pm an cdv ct) (body := body) (binds := binds) hroom (X _ _ ho) rfl hlim (codeRec_of X hcd) rfl hbind hcell hloc (fun h₁ hns hk₁ => ?_) hco hgen hk
  exact wpAny_mono (h s.heap.objs.size h₁ ⟨hns, hk₁, Nat.le_refl _⟩ News.nil) (fun _ _ y => y) fun _ _ y => y.elim

section
variable {h h' : Heap} {s : Shared} {Q : Value → Shared → Prop} {t : Tok} {tk' : Nat}
theorem retB {x y : Array UInt8} (hret : ∀ (t : Tok) (h' : Heap) (tk' : Nat), Kept s.heap h' → Q (.bytes x t) { s with heap := h', toks := tk' }) (e : y = x) (k : Kept s.heap h') : Q (.bytes y t) { s with heap := h', toks := tk' } := by
  subst e
  exact hret t h' tk' k
theorem retS {x y : Str} (hret : ∀ (t : Tok) (h' : Heap) (tk' : Nat), Kept s.heap h' → Q (.str x t) { s with heap := h', toks := tk' }) (e : y = x) (k : Kept s.heap h') : Q (.str y t) { s with heap := h', toks := tk' } := by
  subst e
  exact hret t h' tk' k
theorem retI {x y : Int} (hret : ∀ (t : Tok) (h' : Heap) (tk' : Nat), Kept s.heap h' → Q (.int x t) { s with heap := h', toks := tk' }) (e : y = x) (k : Kept s.heap h') : Q (.int y t) { s with heap := h', toks := tk' } := by
  subst e
  exact hret t h' tk' k
end

theorem isIte {c : Prop} {i : Decidable c} {a b : Prop} (h : @ite Prop c i a b) : @ite Prop c i a b := h

theorem ite_t {c : Prop} {i : Decidable c} {a b : Prop} (hc : c) (h : a) : @ite Prop c i a b := by rw [if_pos hc]; exact h
theorem ite_f {c : Prop} {i : Decidable c} {a b : Prop} (hc : ¬ c) (h : b) : @ite Prop c i a b := by rw [if_neg hc]; exact h
theorem dec_t {p : Prop} {i : Decidable p} (h : p) : @decide p i = true := decide_eq_true h
theorem dec_f {p : Prop} {i : Decidable p} (h : ¬ p) : ¬ (@decide p i = true) := by rw [decide_eq_false h]; exact Bool.false_ne_true
theorem bool_f : ¬ (false = true) := Bool.false_ne_true

/-! the octets of a number -/
def O8 (n : Int) : List Int :=
  if n < 128 then [n] else if n < 2048 then [192 + n / 64, 128 + n % 64]
  else if n < 65536 then [224 + n / 4096, 128 + n / 64 % 64, 128 + n % 64]
  else if n < 2097152 then [240 + n / 262144, 128 + n / 4096 % 64, 128 + n / 64 % 64, 128 + n % 64]
  else if n < 67108864 then [248 + n / 16777216, 128 + n / 262144 % 64, 128 + n / 4096 % 64, 128 + n / 64 % 64, 128 + n % 64]
  else [252 + n / 1073741824, 128 + n / 16777216 % 64, 128 + n / 262144 % 64, 128 + n / 4096 % 64, 128 + n / 64 % 64, 128 + n % 64]
theorem bor_nat {c : Int} {k : Nat} (h : ∀ m : Nat, m < k → Builtin.bitOr c (m : Int) = c + (m : Int)) {x : Int} (h0 : 0 ≤ x) (h1 : x < (k : Int)) : Builtin.bitOr c x = c + x := by
  have e : x = ((x.toNat : Nat) : Int) := by omega
  rw [e]
  exact h x.toNat (by omega)
theorem bor128 {x : Int} (h0 : 0 ≤ x) (h1 : x < 64) : Builtin.bitOr 128 x = 128 + x := bor_nat (k := 64) (by decide +kernel) h0 h1
theorem bor192 {x : Int} (h0 : 0 ≤ x) (h1 : x < 32) : Builtin.bitOr 192 x = 192 + x := bor_nat (k := 32) (by decide +kernel) h0 h1
theorem bor224 {x : Int} (h0 : 0 ≤ x) (h1 : x < 16) : Builtin.bitOr 224 x = 224 + x := bor_nat (k := 16) (by decide +kernel) h0 h1
theorem bor240 {x : Int} (h0 : 0 ≤ x) (h1 : x < 8) : Builtin.bitOr 240 x = 240 + x := bor_nat (k := 8) (by decide +kernel) h0 h1
theorem bor248 {x : Int} (h0 : 0 ≤ x) (h1 : x < 4) : Builtin.bitOr 248 x = 248 + x := bor_nat (k := 4) (by decide +kernel) h0 h1
theorem bor252 {x : Int} (h0 : 0 ≤ x) (h1 : x < 2) : Builtin.bitOr 252 x = 252 + x := bor_nat (k := 2) (by decide +kernel) h0 h1
section
variable {prog : Program} {w : World} {A : Around} {E : Value → Shared → Prop} {s : Shared} {Q : Value → Shared → Prop}
theorem or_c {a b c : Int} {t u : Tok} (e : Builtin.bitOr a b = c) (h : Q (.int c s.toks) { s with toks := s.toks + 1 }) : wpAny (model prog w) A (binaryOp .BitOr (.int a t) (.int b u)) Q E s := by
  subst e
  exact or_int h
theorem and_c {a b c : Int} {t u : Tok} (e : Builtin.bitAnd a b = c) (h : Q (.int c s.toks) { s with toks := s.toks + 1 }) : wpAny (model prog w) A (binaryOp .BitAnd (.int a t) (.int b u)) Q E s := by
  subst e
  exact and_int h
theorem rsh_c {a n : Int} {t u : Tok} (d : Int) (hn : 0 ≤ n) (e : (2 : Int) ^ n.toNat = d) (hd : 0 ≤ d) (h : Q (.int (a / d) s.toks) { s with toks := s.toks + 1 }) : wpAny (model prog w) A (binaryOp .RShift (.int a t) (.int n u)) Q E s := by
  refine rshift_int hn ?_
  rw [e, Int.fdiv_eq_ediv_of_nonneg _ hd]
  exact h
end

/-! texts by the list of their signs -/
def SL (l : List Nat) : Str := ⟨l.toArray⟩
theorem SL.cps (l : List Nat) : (SL l).cps = l.toArray := rfl
theorem SL.length (l : List Nat) : (SL l).length = l.length := by simp [SL, Str.length]
theorem SL.inj {a b : List Nat} (h : SL a = SL b) : a = b := by
  have := congrArg (fun x : Str => x.cps.toList) h
  simpa [SL] using this

def Sees (l : List Nat) (i : Int) (r : List Nat) : Prop := 0 ≤ i ∧ l.drop i.toNat = r
theorem Sees.tail {l : List Nat} {i : Int} {c : Nat} {r : List Nat} (h : Sees l i (c :: r)) : Sees l (i + 1) r := by
  obtain ⟨h0, h1⟩ := h
  refine ⟨by omega, ?_⟩
  have e : (i + 1).toNat = i.toNat + 1 := by omega
  rw [e, ← List.drop_drop, h1]
  rfl
theorem Sees.get {l : List Nat} {i : Int} {c : Nat} {r : List Nat} (h : Sees l i (c :: r)) : l[i.toNat]? = some c := by
  have := congrArg (fun x : List Nat => x[0]?) h.2
  simpa using this
theorem Sees.lt {l : List Nat} {i : Int} {c : Nat} {r : List Nat} (h : Sees l i (c :: r)) : i < (l.length : Int) := by
  have := List.getElem?_eq_some_iff.mp h.get
  obtain ⟨hl, _⟩ := this
  have := h.1
  omega
theorem Sees.end {l : List Nat} {i : Int} (h : Sees l i []) : ¬ i < (l.length : Int) := by
  have := List.drop_eq_nil_iff.mp h.2
  have := h.1
  omega
theorem Sees.start (l : List Nat) : Sees l 0 l := ⟨by omega, rfl⟩

section
variable {prog : Program} {w : World} {A : Around} {E : Value → Shared → Prop} {s : Shared} {Q : Value → Shared → Prop}
theorem item_sl {l r : List Nat} {i : Int} {c : Nat} {t u : Tok} {value slice : PySem.Expr} (hS : Sees l i (c :: r)) (hl : l.length < 2 ^ 62) (h : Q (.str (SL [c]) s.toks) { s with toks := s.toks + 1 })
    (hs : subscripted slice false (.str (SL l) t) (.int i u) = operate [.str (SL l) t, .int i u] (getItem (.str (SL l) t) (.int i u)) := by with_unfolding_all rfl)
    (ht : ∀ r, letTemporaryGo value (.str (SL l) t) r = pure () := by intro _; with_unfolding_all rfl) :
    wpAny (model prog w) A (subscriptTail value slice (.str (SL l) t) (.int i u)) Q E s := by
  have h1 := hS.lt
  have h0 := hS.1
  have hg := hS.get
  refine item_str (fitsSsize_of (N := 9223372036854775808) (by omega) (by omega) (Int.le_refl _)) (by rw [SL.length]; omega) (by rw [SL.length]; exact h1) (fun _ => ?_) hs ht
  have e : Txt.item (SL l) i = SL [c] := by
    have hi : i.toNat < l.length := by omega
    have hq : seqIndex? i (SL l).length = some i.toNat := by
      rw [SL.length]
      unfold seqIndex?
      rw [if_neg (show ¬ i < 0 by omega)]
      show (if (decide (0 ≤ i) && decide (i < (l.length : Int))) = true then _ else _) = _
      rw [decide_eq_true h0, decide_eq_true h1]
      rfl
    have hc : (SL l).cps[i.toNat]? = some c := by rw [SL.cps]; simpa using hg
    unfold Txt.item Txt.charAt
    rw [hq, Option.bind_some, hc]
    rfl
  rw [e]
  exact h
theorem eqs {c d : Nat} {y : Str} {b : Bool} {t u : Tok} (hy : y = SL [d]) (hb : (c == d) = b) (h : Q (.bool b) s) : wpAny (model prog w) A (compareOp .Eq (.str (SL [c]) t) (.str y u)) Q E s := by
  refine eq_str ?_
  have e : (SL [c] == y) = b := by
    rw [hy, ← hb]
    by_cases hc : c = d
    · subst hc; simp
    · have : SL [c] ≠ SL [d] := fun e => hc (List.cons.inj (SL.inj e)).1
      rw [beq_eq_false_iff_ne.mpr this, beq_eq_false_iff_ne.mpr hc]
  rw [e]
  exact h
end

/-! what a text of Lua's means -/
def shortTab : List (Nat × Int) := [(97, 7), (98, 8), (102, 12), (110, 10), (114, 13), (116, 9), (118, 11), (92, 92), (34, 34), (39, 39)]
def decV (ds : List Nat) : Nat := ds.foldl (fun a d => a * 10 + (d - 48)) 0
def isHex (c : Nat) : Bool := (48 ≤ c && c ≤ 57) || (97 ≤ c && c ≤ 102) || (65 ≤ c && c ≤ 70)
def hexD (c : Nat) : Nat := if c ≤ 57 then c - 48 else if 97 ≤ c then c - 87 else c - 55
def hexV (ds : List Nat) : Nat := ds.foldl (fun a d => a * 16 + hexD d) 0
def white (c : Nat) : Bool := c == 32 || (9 ≤ c && c ≤ 13)
def digitHead (r : List Nat) : Bool := match r with | [] => false | c :: _ => Unicode.isDigit c
def whiteHead (r : List Nat) : Bool := match r with | [] => false | c :: _ => Unicode.isSpace c && decide (c < 128)
def isDec (c : Nat) : Bool := 48 ≤ c && c ≤ 57

inductive Lex : List Nat → List (List Int) → Prop
  | nil : Lex [] []
  | plain {c : Nat} {r : List Nat} {bs : List (List Int)} : c ≠ 92 → c < 1114112 → Str.isSurrogate c = false → Lex r bs → Lex (c :: r) (O8 c :: bs)
  | short {e : Nat} {v : Int} {r : List Nat} {bs : List (List Int)} : (e, v) ∈ shortTab → Lex r bs → Lex (92 :: e :: r) ([v] :: bs)
  | hex {a b : Nat} {r : List Nat} {bs : List (List Int)} : isHex a = true → isHex b = true → Lex r bs → Lex (92 :: 120 :: a :: b :: r) (O8 (hexV [a, b]) :: bs)
  | dec1 {a : Nat} {r : List Nat} {bs : List (List Int)} : isDec a = true → digitHead r = false → Lex r bs → Lex (92 :: a :: r) (O8 (decV [a]) :: bs)
  | dec2 {a b : Nat} {r : List Nat} {bs : List (List Int)} : isDec a = true → isDec b = true → digitHead r = false → Lex r bs → Lex (92 :: a :: b :: r) (O8 (decV [a, b]) :: bs)
  | dec3 {a b c : Nat} {r : List Nat} {bs : List (List Int)} : isDec a = true → isDec b = true → isDec c = true → Lex r bs → Lex (92 :: a :: b :: c :: r) (O8 (decV [a, b, c]) :: bs)
  | uni {hs : List Nat} {r : List Nat} {bs : List (List Int)} : hs ≠ [] → (∀ c ∈ hs, isHex c = true) → hs.length ≤ 100 → hexV hs ≤ 2147483647 → Lex r bs → Lex (92 :: 117 :: 123 :: (hs ++ 125 :: r)) (O8 (hexV hs) :: bs)
  | gap {ws : List Nat} {r : List Nat} {bs : List (List Int)} : (∀ c ∈ ws, white c = true) → whiteHead r = false → Lex r bs → Lex (92 :: 122 :: (ws ++ r)) bs

inductive BytesAre : List Value → List (List Int) → Prop
  | nil : BytesAre [] []
  | snoc {vs : List Value} {bs : List (List Int)} {b : List Int} {t : Tok} : BytesAre vs bs → BytesAre (vs ++ [.bytes (byteArr b) t]) (bs ++ [b])

theorem execs_tk {M : Model} {A : Around} {E : Value → Shared → Prop} {env : Env} {Q : Flow → Shared → Prop} {st : Stmt} {rest : List Stmt} {hp : Heap} {tk : Nat} (s₀ : Shared)
    (h : ∀ tk' : Nat, wpAny M A (exec st env) (fun f s' => match f with | .next => wpAny M A (execs rest env) Q E s' | f => Q f s') E { heap := hp, gens := s₀.gens, drawn := s₀.drawn, toks := tk', os := s₀.os }) :
    wpAny M A (execs (st :: rest) env) Q E { heap := hp, gens := s₀.gens, drawn := s₀.drawn, toks := tk, os := s₀.os } := wpAny_execs_cons (h tk)

theorem news_head {h₀ h : Heap} {L a : Addr} {o : Obj} {r : List (Addr × Obj)} (_ : News h₀ L h ((a, o) :: r)) : ∃ b, b = a := ⟨a, rfl⟩

end Mine
namespace Mine
open Builtin
theorem slot_join : Slot "bytes" "join" "bytes.join" :=
  .of (owner := "bytes") (n := "join") (by rw [typeLookup_type, builtinLookup_eq_fast]; kernel_rfl) (by decide +kernel) (by decide +kernel) (by decide +kernel)
    (by first | exact .inl (by decide +kernel) | exact .inr (by decide +kernel)) (by rw [isSubtype_type]; kernel_rfl)
theorem type_join : typeOf (.builtin "bytes.join") = pure (.type "method_descriptor") := by show builtinType _ = _; rw [builtinType_eq_fast]; kernel_rfl
theorem entry_join : entryFor table "bytes.join" = some Builtin.«bytes.join» := entryFor_of_tree (by kernel_rfl)
theorem args_join (a b : Value) : argsOk "bytes.join" ⟨[a, b], []⟩ := by
  unfold argsOk; rw [signature?_of (id := "bytes.join") (n := ['n', 'i', 'o', 'j']) (o := ['s', 'e', 't', 'y', 'b']) (by kernel_rfl) FB.owner_bytes]; kernel_rfl
theorem range_loop {σ : Type} {M : Model} {A : Around} {E : Value → Shared → Prop} {f : Nat → σ → Sem (ForInStep σ)} (I : Nat → σ → Prop) {s : Shared} {n : Nat}
    (step : ∀ i c, i < n → I i c → ∃ c', I (i + 1) c' ∧ ∀ Q' : ForInStep σ → Shared → Prop, Q' (.yield c') s → wpAny M A (f i c) Q' E s)
    {c₀ : σ} (h0 : I 0 c₀) {Q : σ → Shared → Prop} (hQ : ∀ c, I n c → Q c s) : wpAny M A (forIn [:n] c₀ f) Q E s := by
  have key : ∀ (k i : Nat) (c : σ), i + k = n → I i c → wpAny M A (forIn (List.range' i k 1) c f) Q E s := by
    intro k
    induction k with
    | zero =>
      intro i c hk hI
      have : i = n := by omega
      subst this
      exact wpAny_pure (hQ c hI)
    | succ k ih =>
      intro i c hk hI
      obtain ⟨c', hI', hs⟩ := step i c (by omega) hI
      rw [List.range'_succ, List.forIn_cons]
      exact wpAny_bind (hs _ (ih (i + 1) c' (by omega) hI'))
  rw [Std.Legacy.Range.forIn_eq_forIn_range']
  have := key n 0 c₀ (by omega) h0
  simpa [Std.Legacy.Range.size] using this
theorem take_eq {id : String} {b : Array UInt8} {t : Tok} : Bytes.takeBuffer? id (.bytes b t) 0 = pure (some (b, none)) := by
  unfold Bytes.takeBuffer?
  rw [show ((0 : Int) == Bytes.fullReadOnly) = false from by decide, KBy.special_eq KBy.look_buffer, KBy.own_buffer, KBy.buffer_eq]
  kernel_rfl
theorem takeQ_eq {id : String} {b : Array UInt8} {t : Tok} : Bytes.takeBufferQuiet? id (.bytes b t) 0 = pure (some (b, none)) := by
  unfold Bytes.takeBufferQuiet?
  rw [take_eq]
  rfl
theorem letgo_wp {M : Model} {A : Around} {E : Value → Shared → Prop} {s : Shared} {Q : Unit → Shared → Prop} {vs keep : List Value} (h : Q () s) : wpAny M A (Bytes.joinLetGo (vs.map fun v => (v, none)) keep) Q E s := by
  induction vs with
  | nil => exact wpAny_pure h
  | cons v r ih =>
    rw [List.map_cons, Bytes.joinLetGo]
    · exact wpAny_bind (wpAny_letGo ih)
    · intro _ e; cases e
theorem BytesAre.length {vs : List Value} {bs : List (List Int)} (h : BytesAre vs bs) : vs.length = bs.length := by
  induction h with
  | nil => rfl
  | snoc _ ih => simp [ih]
theorem BytesAre.get {vs : List Value} {bs : List (List Int)} (h : BytesAre vs bs) : ∀ i, i < vs.length → ∃ b t, vs[i]? = some (.bytes (byteArr b) t) ∧ bs[i]? = some b := by
  induction h with
  | nil => intro i hi; simp at hi
  | snoc h ih =>
    rename_i vs bs b t
    intro i hi
    by_cases e : i < vs.length
    · obtain ⟨b', t', h1, h2⟩ := ih i e
      have := h.length
      exact ⟨b', t', by rw [List.getElem?_append_left e]; exact h1, by rw [List.getElem?_append_left (by omega)]; exact h2⟩
    · have hl := h.length
      have e' : i = vs.length := by simp at hi; omega
      subst e'
      exact ⟨b, t, by simp, by rw [hl]; simp⟩
theorem byteArr_append (a b : List Int) : byteArr (a ++ b) = byteArr a ++ byteArr b := by simp [byteArr]
theorem joined_byteArr (bs : List (List Int)) : Bytes.joined #[] (bs.map byteArr) = byteArr bs.flatten := by
  unfold Bytes.joined
  have key : ∀ (bs : List (List Int)) (k : Nat) (acc : List Int), List.foldl (fun out (x : Array UInt8 × Nat) => match x with | (p, i) => (if i > 0 then out ++ (#[] : Array UInt8) else out) ++ p) (byteArr acc) ((bs.map byteArr).zipIdx k) = byteArr (acc ++ bs.flatten) := by
    intro bs
    induction bs with
    | nil => intro k acc; simp
    | cons b r ih =>
      intro k acc
      rw [List.map_cons, List.zipIdx_cons, List.foldl_cons]
      have e : (if k > 0 then byteArr acc ++ (#[] : Array UInt8) else byteArr acc) ++ byteArr b = byteArr (acc ++ b) := by
        rw [byteArr_append]; split <;> simp
      show List.foldl _ ((if k > 0 then byteArr acc ++ (#[] : Array UInt8) else byteArr acc) ++ byteArr b) _ = _
      rw [e, ih, List.flatten_cons, List.append_assoc]
  have := key bs 0 []
  simpa [byteArr] using this
theorem foldl_size (bs : List (List Int)) (k : Nat) : ((bs.map byteArr).foldl (fun n b => n + b.size) k) = k + bs.flatten.length := by
  induction bs generalizing k with
  | nil => simp
  | cons b r ih => rw [List.map_cons, List.foldl_cons, ih, byteArr_size]; simp; omega
def JI (vs : List Value) (bs : List (List Int)) (i : Nat) (c : Array (Array UInt8) × List (Value × Option Value)) : Prop :=
  c.1 = ((bs.take i).map byteArr).toArray ∧ c.2 = (vs.take i).map fun v => (v, none)
theorem wpAny_eq_tree {α : Type} {M : Model} {A : Around} {E : Value → Shared → Prop} {s : Shared} {Q : α → Shared → Prop} {t t' : Sem α} (e : t = t') (h : wpAny M A t' Q E s) : wpAny M A t Q E s := e ▸ h
set_option maxHeartbeats 4000000 in
theorem join_meets {a : Addr} {t : Tok} {vs : List Value} {bs : List (List Int)} (hb : BytesAre vs bs) :
    Meets («bytes.join» ⟨[.bytes #[] t, .ref a], []⟩) (fun _ R s => s.heap.IsList a vs.toArray ∧ bs.flatten.length ≤ 100000 ∧ ∀ t' k, R (.ok (.ret (.bytes (byteArr bs.flatten) t'))) { s with toks := k }) := by
  refine .of_wp fun prog w A R s hS => ?_
  obtain ⟨hl, hz, h⟩ := hS
  unfold «bytes.join» Bytes.joinM
  dsimp only
  refine wpAny_bind (wpAny_of_eq (show selfAndOne _ ⟨[Value.bytes #[] t, Value.ref a], []⟩ = pure (Value.bytes #[] t, Value.ref a) from rfl) ?_)
  dsimp only
  refine PySem.bm_if_true (by decide) ?_
  refine wpAny_bind ?_
  unfold Bytes.joinItems
  refine wpAny_bind (wpAny_typeOf hl.typeIs ?_)
  refine PySem.bm_if_true (by decide) (wpAny_pure ?_)
  obtain ⟨o, ho, hoc, n, hod⟩ := hl
  refine wpAny_bind (wpAny_seqItems ho hod ?_)
  dsimp only
  refine PySem.bm_if_true (by decide) ?_
  have hlen := hb.length
  by_cases hone : ∃ x, vs = [x]
  · obtain ⟨x, hvx⟩ := hone
    subst hvx
    obtain ⟨b, t', h1, h2⟩ := hb.get 0 (by simp)
    have hx1 : x = .bytes (byteArr b) t' := by simpa using h1
    subst hx1
    have hbs : bs = [b] := by
      cases bs with
      | nil => simp at h2
      | cons c r =>
        have : r = [] := by simpa using hlen
        subst this
        simpa using h2
    subst hbs
    refine wpAny_bind (wpAny_typeOf (typeIs_bytes _ _ _) ?_)
    refine PySem.bm_if_true (by decide) ?_
    refine wpAny_bind (wpAny_rule (wpAny_pure ⟨_, rfl, ?_⟩))
    have e : [b].flatten = b := by simp
    have := h t' s.toks
    rw [e] at this
    exact this
  · have hnoref : ∀ v ∈ vs, v.onHeap = false := by
      intro v hv
      obtain ⟨k, hk⟩ := List.getElem?_of_mem hv
      have hkl : k < vs.length := (List.getElem?_eq_some_iff.mp hk).1
      obtain ⟨b, t', h1, _⟩ := hb.get k hkl
      rw [h1] at hk
      cases hk
      rfl
    rcases vs with _ | ⟨x, _ | ⟨y, r⟩⟩
    · refine wpAny_bind (range_loop (c₀ := (#[], [])) (JI [] bs) ?step ⟨by simp, by simp⟩ ?done)
      case step =>
        generalize ([] : List Value) = vs at *
        rintro i ⟨ps, tk⟩ hi ⟨hp, ht⟩
        dsimp only at hp ht
        have hi' : i < vs.length := by simpa using hi
        obtain ⟨b, t', h1, h2⟩ := hb.get i hi'
        refine ⟨(ps.push (byteArr b), tk ++ [(.bytes (byteArr b) t', none)]), ⟨?_, ?_⟩, ?_⟩
        · show ps.push (byteArr b) = _
          rw [List.take_add_one, h2, hp]
          simp
        · show tk ++ [(Value.bytes (byteArr b) t', none)] = _
          rw [List.take_add_one, h1, ht]
          simp
        · intro Q' hQ
          have hg : vs.toArray.getD i Value.none = .bytes (byteArr b) t' := by
            simp [Array.getD_eq_getD_getElem?, h1]
          have hno : (tk.any fun x => x.1.onHeap) = false := by
            rw [ht, List.any_map, List.any_eq_false]
            intro v hv
            rw [Function.comp_apply, hnoref v (List.mem_of_mem_take hv)]
            exact Bool.false_ne_true
          refine wpAny_bind (wpAny_seqItems ho hod ?_)
          dsimp only
          rw [hg, hno]
          refine PySem.bm_if_false (by decide) ?_
          refine wpAny_bind (wpAny_holding (wpAny_of_eq takeQ_eq ?_))
          dsimp only
          refine wpAny_bind (wpAny_seqItems ho hod ?_)
          dsimp only
          refine PySem.bm_if_false (by simp) ?_
          exact wpAny_pure hQ
      case done =>
        generalize ([] : List Value) = vs at *
        rintro ⟨ps, tk⟩ ⟨hp, ht⟩
        dsimp only at hp ht
        have e1 : vs.toArray.size = vs.length := by simp
        rw [e1, hlen, List.take_length] at hp
        rw [e1, List.take_length] at ht
        dsimp only
        refine wpAny_bind (wpAny_of_eq (show Bytes.payload (.bytes #[] t) = pure #[] from rfl) ?_)
        refine PySem.bm_if_false ?_ ?_
        · rw [hp, List.foldl_toArray]
          have hf := foldl_size bs ((#[] : Array UInt8).size * (((bs.map byteArr).toArray).size - 1))
          have z : (#[] : Array UInt8).size * (((bs.map byteArr).toArray).size - 1) = 0 := by simp
          rw [z] at hf
          rw [z, hf]
          exact KBy.tooLong_not (by omega)
        · refine wpAny_bind ?_
          have e2 : Bytes.joined #[] ps.toList = byteArr bs.flatten := by rw [hp]; exact joined_byteArr bs
          show wpAny _ _ (mkBytes (Bytes.joined #[] ps.toList)) _ _ _
          rw [e2]
          refine wpAny_mkBytes ?_ (by rw [byteArr_size, sizeLine_eq]; omega)
          refine wpAny_bind (wpAny_holding (wpAny_point ?_))
          rw [ht]
          refine wpAny_bind (letgo_wp ?_)
          exact wpAny_pure ⟨_, rfl, h _ _⟩
    · exact absurd ⟨x, rfl⟩ hone
    · refine wpAny_bind (range_loop (c₀ := (#[], [])) (JI (x :: y :: r) bs) ?step ⟨by simp, by simp⟩ ?done)
      case step =>
        generalize x :: y :: r = vs at *
        rintro i ⟨ps, tk⟩ hi ⟨hp, ht⟩
        dsimp only at hp ht
        have hi' : i < vs.length := by simpa using hi
        obtain ⟨b, t', h1, h2⟩ := hb.get i hi'
        refine ⟨(ps.push (byteArr b), tk ++ [(.bytes (byteArr b) t', none)]), ⟨?_, ?_⟩, ?_⟩
        · show ps.push (byteArr b) = _
          rw [List.take_add_one, h2, hp]
          simp
        · show tk ++ [(Value.bytes (byteArr b) t', none)] = _
          rw [List.take_add_one, h1, ht]
          simp
        · intro Q' hQ
          have hg : vs.toArray.getD i Value.none = .bytes (byteArr b) t' := by
            simp [Array.getD_eq_getD_getElem?, h1]
          have hno : (tk.any fun x => x.1.onHeap) = false := by
            rw [ht, List.any_map, List.any_eq_false]
            intro v hv
            rw [Function.comp_apply, hnoref v (List.mem_of_mem_take hv)]
            exact Bool.false_ne_true
          refine wpAny_bind (wpAny_seqItems ho hod ?_)
          dsimp only
          rw [hg, hno]
          refine PySem.bm_if_false (by decide) ?_
          refine wpAny_bind (wpAny_holding (wpAny_of_eq takeQ_eq ?_))
          dsimp only
          refine wpAny_bind (wpAny_seqItems ho hod ?_)
          dsimp only
          refine PySem.bm_if_false (by simp) ?_
          exact wpAny_pure hQ
      case done =>
        generalize x :: y :: r = vs at *
        rintro ⟨ps, tk⟩ ⟨hp, ht⟩
        dsimp only at hp ht
        have e1 : vs.toArray.size = vs.length := by simp
        rw [e1, hlen, List.take_length] at hp
        rw [e1, List.take_length] at ht
        dsimp only
        refine wpAny_bind (wpAny_of_eq (show Bytes.payload (.bytes #[] t) = pure #[] from rfl) ?_)
        refine PySem.bm_if_false ?_ ?_
        · rw [hp, List.foldl_toArray]
          have hf := foldl_size bs ((#[] : Array UInt8).size * (((bs.map byteArr).toArray).size - 1))
          have z : (#[] : Array UInt8).size * (((bs.map byteArr).toArray).size - 1) = 0 := by simp
          rw [z] at hf
          rw [z, hf]
          exact KBy.tooLong_not (by omega)
        · refine wpAny_bind ?_
          have e2 : Bytes.joined #[] ps.toList = byteArr bs.flatten := by rw [hp]; exact joined_byteArr bs
          show wpAny _ _ (mkBytes (Bytes.joined #[] ps.toList)) _ _ _
          rw [e2]
          refine wpAny_mkBytes ?_ (by rw [byteArr_size, sizeLine_eq]; omega)
          refine wpAny_bind (wpAny_holding (wpAny_point ?_))
          rw [ht]
          refine wpAny_bind (letgo_wp ?_)
          exact wpAny_pure ⟨_, rfl, h _ _⟩

section
variable {prog : Program} {w : World} {A : Around} {E : Value → Shared → Prop} {s : Shared} {Q : Value → Shared → Prop}
theorem call_join {a : Addr} {t : Tok} {vs : List Value} {bs : List (List Int)} (hb : BytesAre vs bs) (hl : s.heap.IsList a vs.toArray) (hz : bs.flatten.length ≤ 100000)
    (h : ∀ t' k, Q (.bytes (byteArr bs.flatten) t') { s with toks := k }) : wpAny (model prog w) A (call (.builtin "bytes.join") [.bytes #[] t, .ref a]) Q E s :=
  call_meets slot_join (typeIs_bytes _ _ _) entry_join (args_join _ _) (join_meets hb) ⟨hl, hz, h⟩
theorem get_join {M : Model} {pl : Sem Bool} {b : Array UInt8} {t : Tok} {Q : Value × List Value → Shared → Prop} (h : Q (.builtin "bytes.join", [.bytes b t]) s) : wpAny M A (getMethod (.bytes b t) "join" pl) Q E s :=
  KBd.method_of (.bytes b t) (typeIs_bytes _ _ _) slot_join type_join KBd.noRef h
end
theorem args_encode (a b : Value) : argsOk "str.encode" ⟨[a, b], []⟩ := by
  unfold argsOk; rw [signature?_of (id := "str.encode") (n := ['e', 'd', 'o', 'c', 'n', 'e']) (o := ['r', 't', 's']) (by kernel_rfl) F.owner_str]; kernel_rfl
theorem utf8_o8 {c : Nat} (hc : c < 1114112) : (Str.utf8Of c).toArray = byteArr (O8 c) := by
  have a1 : ((c : Int)).toNat = c := by omega
  have a2 : (192 + (c : Int) / 64).toNat = 0xC0 + c / 64 := by omega
  have a3 : (128 + (c : Int) % 64).toNat = 0x80 + c % 64 := by omega
  have a4 : (224 + (c : Int) / 4096).toNat = 0xE0 + c / 4096 := by omega
  have a5 : (128 + (c : Int) / 64 % 64).toNat = 0x80 + c / 64 % 64 := by omega
  have a6 : (240 + (c : Int) / 262144).toNat = 0xF0 + c / 262144 := by omega
  have a7 : (128 + (c : Int) / 4096 % 64).toNat = 0x80 + c / 4096 % 64 := by omega
  unfold Str.utf8Of O8 byteArr
  by_cases h1 : c < 128
  · have b1 : (c : Int) < 128 := by omega
    simp only [if_pos h1, if_pos b1, List.map_cons, List.map_nil, a1]
  have b1 : ¬ (c : Int) < 128 := by omega
  by_cases h2 : c < 2048
  · have b2 : (c : Int) < 2048 := by omega
    simp only [if_neg h1, if_neg b1, if_pos h2, if_pos b2, List.map_cons, List.map_nil, a2, a3]
  have b2 : ¬ (c : Int) < 2048 := by omega
  by_cases h3 : c < 65536
  · have b3 : (c : Int) < 65536 := by omega
    simp only [if_neg h1, if_neg b1, if_neg h2, if_neg b2, if_pos h3, if_pos b3, List.map_cons, List.map_nil, a3, a4, a5]
  have b3 : ¬ (c : Int) < 65536 := by omega
  have b4 : (c : Int) < 2097152 := by omega
  simp only [if_neg h1, if_neg b1, if_neg h2, if_neg b2, if_neg h3, if_neg b3, if_pos b4, List.map_cons, List.map_nil, a3, a5, a6, a7]
theorem enc_eq (id : String) (self : Value) {c : Nat} (hc : c < 1114112) (hs : Str.isSurrogate c = false) : _codecs.encodeNarrow id _codecs.utf8Codec none self (SL [c]) = pure (byteArr (O8 c)) := by
  rw [← utf8_o8 hc]
  unfold _codecs.encodeNarrow
  simp [SL, Str.length, _codecs.utf8Codec, hs, Std.Legacy.Range.forIn_eq_forIn_range', Std.Legacy.Range.size]
theorem encode_tree (x : Str) (t u : Tok) : «str.encode» ⟨[.str x t, .str (Str.ofString "utf-8") u], []⟩ = (do ret (← _codecs.encodeRoad "str.encode" (.str x t) x (Str.ofString "utf-8") none)) := by
  kernel_rfl

theorem encode_meets {c : Nat} (hc : c < 1114112) (hs : Str.isSurrogate c = false) {t u : Tok} :
    Meets («str.encode» ⟨[.str (SL [c]) t, .str (Str.ofString "utf-8") u], []⟩) (fun _ R s => ∀ t' k, R (.ok (.ret (.bytes (byteArr (O8 c)) t'))) { s with toks := k }) := by
  refine .of_wp fun prog w A R s h => ?_
  rw [encode_tree]
  refine wpAny_bind ?_
  rw [encodeRoad_utf8, enc_eq _ _ hc hs]
  refine wpAny_bind (wpAny_pure ?_)
  refine wpAny_mkBytes (wpAny_pure ⟨_, rfl, h _ _⟩) ?_
  rw [← utf8_o8 hc]
  unfold Str.utf8Of
  split
  · exact Nat.le_of_ble_eq_true rfl
  · split
    · exact Nat.le_of_ble_eq_true rfl
    · split <;> exact Nat.le_of_ble_eq_true rfl
section
variable {prog : Program} {w : World} {A : Around} {E : Value → Shared → Prop} {s : Shared} {Q : Value → Shared → Prop}
theorem get_encode {M : Model} {pl : Sem Bool} {x : Str} {t : Tok} {Q : Value × List Value → Shared → Prop} (h : Q (.builtin "str.encode", [.str x t]) s) : wpAny M A (getMethod (.str x t) "encode" pl) Q E s :=
  GM.of (.str x t) (typeIs_str _ _ _) F.slot_str_encode F.type_str_encode GM.noRef h
theorem call_encode {c : Nat} (hc : c < 1114112) (hs : Str.isSurrogate c = false) {t u : Tok} (h : ∀ t' k, Q (.bytes (byteArr (O8 c)) t') { s with toks := k }) :
    wpAny (model prog w) A (call (.builtin "str.encode") [.str (SL [c]) t, .str (Str.ofString "utf-8") u]) Q E s :=
  call_meets F.slot_str_encode (typeIs_str _ _ _) F.entry_str_encode (args_encode _ _) (encode_meets hc hs) h
theorem len_sl {l : List Nat} {t : Tok} (hl : l.length < 2 ^ 62) (h : Q (.int (l.length : Int) (s.toks + 1)) { s with toks := s.toks + 1 + 1 }) : wpAny (model prog w) A (call (.builtin "len") [.str (SL l) t]) Q E s := by
  refine P.len_str (by rw [SL.length]; omega) ?_
  rw [SL.length]
  exact h
end


section
variable {prog : Program} {w : World} {A : Around} {E : Value → Shared → Prop} {s : Shared} {Q : Value → Shared → Prop} {h₀ : Heap} {L D : Addr} {m : Str → Option Value} {news news' : List (Addr × Obj)}
theorem app_K {vs : List Value} {n : Nat} {x : Value} (F : Fr h₀ L s.heap m) (N : News h₀ L s.heap news) (U : Upd D (W.listOf vs.toArray n) (W.listOf (vs ++ [x]).toArray (n + 1)) news news') (hz : vs.length ≤ 1000000)
    (h : ∀ h', Fr h₀ L h' m → News h₀ L h' news' → Q .none { s with heap := h' }) : wpAny (model prog w) A (call (.builtin "list.append") [.ref D, x]) Q E s := by
  have e : (vs ++ [x]).toArray = vs.toArray.push x := by simp
  rw [e] at U
  exact append_K F N U h (by rw [List.size_toArray, sizeLine_eq]; omega)
end
theorem vlen {vs : List Value} {dn todo bs : List (List Int)} (hb : BytesAre vs dn) (hd : dn ++ todo = bs) (hz : bs.length ≤ 100000) : vs.length ≤ 100000 := by
  have h1 := hb.length
  have h2 := congrArg List.length hd
  simp at h2
  omega


theorem BytesAre.one {vs : List Value} {bs : List (List Int)} {b : List Int} {x : Array UInt8} {t : Tok} (h : BytesAre vs bs) (e : x = byteArr b) : BytesAre (vs ++ [.bytes x t]) (bs ++ [b]) := by
  subst e
  exact .snoc h

end Mine
namespace Mine
open Builtin NumText

theorem isHex_cases {c : Nat} (h : isHex c = true) : (48 ≤ c ∧ c ≤ 57) ∨ (97 ≤ c ∧ c ≤ 102) ∨ (65 ≤ c ∧ c ≤ 70) := by
  simp only [isHex, Bool.or_eq_true, Bool.and_eq_true, decide_eq_true_eq] at h
  omega
theorem hex_digit {c : Nat} (h : isHex c = true) : digit? c = some (hexD c) ∧ hexD c < 16 := by
  rcases isHex_cases h with ⟨h1, h2⟩ | ⟨h1, h2⟩ | ⟨h1, h2⟩
  · unfold digit? hexD
    rw [if_pos (by simp; omega), if_pos h2]
    exact ⟨rfl, by omega⟩
  · unfold digit? hexD
    rw [if_neg (by simp; omega), if_pos (by simp; omega), if_neg (by omega), if_pos h1]
    exact ⟨rfl, by omega⟩
  · unfold digit? hexD
    rw [if_neg (by simp; omega), if_neg (by simp; omega), if_pos (by simp; omega), if_neg (by omega), if_neg (by omega)]
    exact ⟨rfl, by omega⟩
theorem hex_step {c : Nat} (h : isHex c = true) (p : Array Nat × Bool) : NumText.step 16 p c = some (p.1.push (hexD c), true) := by
  obtain ⟨h1, h2⟩ := hex_digit h
  unfold NumText.step
  have hne : (c == 95) = false := by
    rcases isHex_cases h with ⟨h1, h2⟩ | ⟨h1, h2⟩ | ⟨h1, h2⟩ <;> (simp; omega)
  rw [hne, h1]
  simp [h2]
theorem hex_fold : ∀ (hs : List Nat) (p : Array Nat × Bool), (∀ c ∈ hs, isHex c = true) → hs ≠ [] → hs.foldlM (NumText.step 16) p = some (p.1 ++ (hs.map hexD).toArray, true)
  | [], _, _, h => absurd rfl h
  | [c], p, hh, _ => by
    rw [List.foldlM_cons, hex_step (hh c (.head _))]
    simp
  | c :: d :: r, p, hh, _ => by
    rw [List.foldlM_cons, hex_step (hh c (.head _))]
    show (d :: r).foldlM (NumText.step 16) _ = _
    rw [hex_fold (d :: r) _ (fun x hx => hh x (.tail _ hx)) (by simp)]
    simp
theorem hex_digits {hs : List Nat} (hh : ∀ c ∈ hs, isHex c = true) (hne : hs ≠ []) : digits? 16 hs = some (hs.map hexD).toArray := by
  unfold digits?
  rw [hex_fold hs _ hh hne]
  simp
theorem blank_hex {c : Nat} (h : isHex c = true) : blank c = false := by
  unfold blank
  rcases isHex_cases h with ⟨h1, h2⟩ | ⟨h1, h2⟩ | ⟨h1, h2⟩ <;> (simp; omega)
theorem dropWhile_first {p : Nat → Bool} {c : Nat} {r : List Nat} (h : p c = false) : (c :: r).dropWhile p = c :: r := by
  rw [List.dropWhile_cons, h]; rfl
theorem drop_ends {hs : List Nat} (hh : ∀ c ∈ hs, isHex c = true) : hs.dropWhile blank = hs := by
  cases hs with
  | nil => rfl
  | cons c r => exact dropWhile_first (blank_hex (hh c (.head _)))
theorem read_hex {hs : List Nat} (hh : ∀ c ∈ hs, isHex c = true) (hne : hs ≠ []) : (int_private% "readNumeral") 0 16 hs = (int_private% "Numeral.value") (hexV hs : Int) := by
  rw [readNumeral_eq, drop_ends hh]
  have hs1 : sign hs = (false, hs) := by
    cases hs with
    | nil => rfl
    | cons c r =>
      have := isHex_cases (hh c (.head _))
      unfold sign
      split
      · rename_i e; injection e with e _; omega
      · rename_i e; injection e with e _; omega
      · rfl
  rw [hs1]
  have hb : based 16 hs = (16, false, hs) := by
    unfold based
    have hp : prefix? hs = none ∨ ∃ p, prefix? hs = some p ∧ p ≠ 16 := by
      unfold prefix?
      split
      · rename_i c r
        have := isHex_cases (hh c (.tail _ (.head _)))
        have h1 : (c == 120 || c == 88) = false := by simp; omega
        rw [h1]
        simp only [Bool.false_eq_true, if_false]
        split
        · exact .inr ⟨8, rfl, by decide⟩
        · split
          · exact .inr ⟨2, rfl, by decide⟩
          · exact .inl rfl
      · exact .inl rfl
    rcases hp with hp | ⟨p, hp, hp16⟩
    · rw [hp]; rfl
    · rw [hp]
      dsimp only
      rw [if_neg]
      simp
      omega
  rw [hb]
  dsimp only
  have hr : (hs.reverse.dropWhile blank).reverse = hs := by
    rw [drop_ends (fun c hc => hh c (List.mem_reverse.mp hc)), List.reverse_reverse]
  rw [hr, hex_digits hh hne]
  unfold judge
  simp only [List.foldl_toArray]
  have e : ((hs.map hexD).foldl (fun acc d => acc * 16 + d) 0) = hexV hs := by
    unfold hexV
    rw [List.foldl_map]
  simp [e]

theorem wp_text16 {M : Model} {A : Around} {E : Value → Shared → Prop} {s : Shared} {Q : Value → Shared → Prop} {v : Value} {text : List Nat} {n : Int}
    (hs : (text.takeWhile (· != 0)).length ≤ 640) (hr : (int_private% "readNumeral") 0 16 (text.takeWhile (· != 0)) = (int_private% "Numeral.value") n)
    (ha : ((text.takeWhile (· != 0)).length == text.length) = true) (h : Q (.int n s.toks) { s with toks := s.toks + 1 }) :
    wpAny M A ((int_private% "intFromText") v text 16) Q E s := by
  obtain ⟨hp, g, d, tk, os⟩ := s
  repeat (any_goals (first
    | assumption
    | (with_reducible refine wpAny_ite_true (decide_eq_true hs) ?_)
    | (with_reducible refine wpAny_ite_true (decide_eq_true ha) ?_)
    | wp_step))
  all_goals (try rw [hr])
  all_goals (try dsimp only)
  repeat (any_goals (first
    | assumption
    | (with_reducible refine wpAny_ite_true (decide_eq_true hs) ?_)
    | (with_reducible refine wpAny_ite_true (decide_eq_true ha) ?_)
    | wp_step))
theorem hex_seen {hs : List Nat} (hh : ∀ c ∈ hs, isHex c = true) : hs.takeWhile (· != 0) = hs := by
  induction hs with
  | nil => rfl
  | cons c r ih =>
    have := isHex_cases (hh c (.head _))
    have h0 : (c != 0) = true := by simp; omega
    rw [List.takeWhile_cons, h0]
    simp only [if_true]
    rw [ih (fun x hx => hh x (.tail _ hx))]
theorem index_int {id : String} {n : Int} {t : Tok} : Int.intIndex id (.int n t) = pure n := by rfl
set_option maxHeartbeats 4000000 in
theorem gives_hex {hs : List Nat} {u v : Tok} (hh : ∀ c ∈ hs, isHex c = true) (hne : hs ≠ []) (hl : hs.length ≤ 600) : Gives (Builtin.«int.__new__» ⟨[.type "int", .str (SL hs) u, .int 16 v], []⟩) (.int (hexV hs)) :=
  .of_wp fun M A E s Q h => by
    have f1 := F.conv_sub_int
    have f2 := F.madeHere_int
    have hs' := hex_seen hh
    have hk1 : (hs.takeWhile (· != 0)).length ≤ 640 := by rw [hs']; omega
    have hk2 : (int_private% "readNumeral") 0 16 (hs.takeWhile (· != 0)) = (int_private% "Numeral.value") (hexV hs : Int) := by rw [hs']; exact read_hex hh hne
    have hk3 : ((hs.takeWhile (· != 0)).length == hs.length) = true := by rw [hs']; simp
    have hasc : (SL hs).cps.all (· < 128) = true := by
      simp only [SL, List.all_toArray, List.all_eq_true, decide_eq_true_eq]
      intro c hc
      have := isHex_cases (hh c hc)
      omega
    unfold Builtin.«int.__new__»
    dsimp only
    refine wpAny_bind (wpAny_of_eq (a := true) rfl ?_)
    refine PySem.bm_if_false rfl ?_
    refine wpAny_bind (wpAny_of_eq f1 ?_)
    refine PySem.bm_if_false rfl ?_
    refine wpAny_bind (wpAny_of_eq f2 ?_)
    refine PySem.bm_if_false rfl ?_
    refine wpAny_ite_false rfl ?_
    refine wpAny_bind (wpAny_of_eq (a := PUnit.unit) rfl ?_)
    refine wpAny_bind ?_
    refine wpAny_of_eq index_int ?_
    refine PySem.bm_if_false rfl ?_
    have hnt : (int_private% "numeralText?") (.str (SL hs) u) = pure (some hs) := by
      show (pure (some (if (SL hs).cps.all (· < 128) then (SL hs).cps.toList else Unicode.numberText (SL hs).cps.toList)) : Sem (Option (List Nat))) = _
      rw [hasc]
      simp [SL]
    refine wpAny_bind (wpAny_of_eq hnt ?_)
    dsimp only
    refine wpAny_bind (wp_text16 hk1 hk2 hk3 ?_)
    refine PySem.bm_if_true rfl ?_
    exact wpAny_pure ⟨_, rfl, h⟩
theorem args_init3 (a b c : Value) : argsOk "object.__init__" ⟨[a, b, c], []⟩ := by
  unfold argsOk; rw [signature?_of (id := "object.__init__") (n := ['_', '_', 't', 'i', 'n', 'i', '_', '_']) (o := ['t', 'c', 'e', 'j', 'b', 'o']) (by kernel_rfl) F.owner_object]; kernel_rfl
theorem int_call16 (a : Value) (v : Tok) : checkTypeCall "int" ⟨[a, .int 16 v], []⟩ = pure () := by kernel_rfl
theorem int_new16 (a : Value) (v : Tok) : checkBuiltinCall "int.__new__" ⟨[.type "int", a, .int 16 v], []⟩ = pure () := by kernel_rfl
section
variable {prog : Program} {w : World} {A : Around} {E : Value → Shared → Prop} {s : Shared} {Q : Value → Shared → Prop}
theorem call_hex {hs : List Nat} {u v : Tok} (hh : ∀ c ∈ hs, isHex c = true) (hne : hs ≠ []) (hl : hs.length ≤ 600) (h : Q (.int (hexV hs) s.toks) { s with toks := s.toks + 1 }) :
    wpAny (model prog w) A (call (.type "int") [.str (SL hs) u, .int 16 v]) Q E s :=
  callType_new F.called_int F.newNe_int (int_call16 _ v) (int_new16 _ v) (fun obj => args_init3 obj _ _) F.entry_int_new (gives_hex hh hne hl).meets (show (Made.int (hexV hs)).post _ s from ⟨rfl, h⟩)
end
end Mine
namespace Mine
open Builtin NumText

theorem slice_sl {l : List Nat} {i j : Int} (h0 : 0 ≤ i) (hij : i ≤ j) (hj : j ≤ (l.length : Int)) : Txt.slice (SL l) (some i) (some j) = SL ((l.drop i.toNat).take (j - i).toNat) := by
  have h := slice_closes (x := SL l) (i := i) (j := j) ⟨h0, hij, by simpa [SL] using hj⟩
  have := eq_of_beq h
  rw [this]
  simp [SL]
theorem Sees.two {l r : List Nat} {i : Int} {a b : Nat} (h : Sees l i (a :: b :: r)) : i + 2 ≤ (l.length : Int) := by
  have h1 := h.tail.lt
  omega
section
variable {prog : Program} {w : World} {A : Around} {E : Value → Shared → Prop} {s : Shared} {Q : Value → Shared → Prop} {h₀ : Heap} {L D : Addr} {m : Str → Option Value} {news news' : List (Addr × Obj)}
theorem slice2 {l r : List Nat} {i j i' : Int} {a b : Nat} {t ui uj : Tok} {value slice : PySem.Expr} (hS : Sees l i (a :: b :: r)) (hi : i' = i) (hj : j = i + 2) (F : Fr h₀ L s.heap m) (N : News h₀ L s.heap news) (hl : l.length ≤ 1000000)
    (h : ∀ h' t' k, Fr h₀ L h' m → News h₀ L h' news → Q (.str (SL [a, b]) t') { s with heap := h', toks := k })
    (hs : subscripted slice false (.str (SL l) t) (.ref s.heap.objs.size) = operate [.ref s.heap.objs.size, .str (SL l) t] (getItem (.str (SL l) t) (.ref s.heap.objs.size)) := by with_unfolding_all rfl)
    (ht : ∀ r, letTemporaryGo value (.str (SL l) t) r = pure () := by intro _; with_unfolding_all rfl) :
    wpAny (model prog w) A (subscriptTail value slice (.str (SL l) t) (.ref s.heap.objs.size)) Q E { s with heap := s.heap.push { cls := .type "slice", data := .fields #[.int i' ui, .int j uj, .none] } } := by
  subst hi hj
  refine slice_strN_ss F N (fun h' t' k F' N' => ?_) hs ht (by rw [SL.length, sizeLine_eq]; omega)
  have e : Txt.slice (SL l) (some i') (some (i' + 2)) = SL [a, b] := by
    rw [slice_sl hS.1 (by omega) hS.two, hS.2]
    have : (i' + 2 - i').toNat = 2 := by omega
    rw [this]
    rfl
  rw [e]
  exact h h' t' k F' N'
theorem call_isdigit {c : Nat} {b : Bool} {t : Tok} (hb : Unicode.isDigit c = b) (h : Q (.bool b) s) : wpAny (model prog w) A (call (.builtin "str.isdigit") [.str (SL [c]) t]) Q E s := by
  refine call_meets F.slot_str_isdigit (typeIs_str _ _ _) F.entry_str_isdigit (F.args_str_isdigit_1 _) (gives_str_isdigit (SL [c]) t).meets ?_
  have e : ((SL [c]).length > 0 && (SL [c]).cps.all Unicode.isDigit) = b := by simp [SL, Str.length, hb]
  rw [e]
  exact h
theorem call_isspace {c : Nat} {b : Bool} {t : Tok} (hb : Unicode.isSpace c = b) (h : Q (.bool b) s) : wpAny (model prog w) A (call (.builtin "str.isspace") [.str (SL [c]) t]) Q E s := by
  refine call_meets F.slot_str_isspace (typeIs_str _ _ _) F.entry_str_isspace (F.args_str_isspace_1 _) (gives_str_isspace (SL [c]) t).meets ?_
  have e : ((SL [c]).length > 0 && (SL [c]).cps.all Unicode.isSpace) = b := by simp [SL, Str.length, hb]
  rw [e]
  exact h
theorem call_isascii {c : Nat} {b : Bool} {t : Tok} (hb : decide (c < 128) = b) (h : Q (.bool b) s) : wpAny (model prog w) A (call (.builtin "str.isascii") [.str (SL [c]) t]) Q E s := by
  refine call_meets F.slot_str_isascii (typeIs_str _ _ _) F.entry_str_isascii (F.args_str_isascii_1 _) (gives_str_isascii (SL [c]) t).meets ?_
  have e : ((SL [c]).cps.all (· < 128)) = b := by simp [SL, hb]
  rw [e]
  exact h
end

/-! texts joined with nothing between -/
theorem strsAre_snoc {vs : List Value} {ys : List Str} {y : Str} {t : Tok} (h : StrsAre vs ys) : StrsAre (vs ++ [.str y t]) (ys ++ [y]) := by
  induction h with
  | nil => exact .cons y t .nil
  | cons z u _ ih => exact .cons z u ih
inductive SgAre : List Value → List Nat → Prop
  | nil : SgAre [] []
  | cons (c : Nat) (t : Tok) {vs : List Value} {cs : List Nat} : SgAre vs cs → SgAre (.str (SL [c]) t :: vs) (c :: cs)
theorem SgAre.strs {vs : List Value} {cs : List Nat} (h : SgAre vs cs) : StrsAre vs (cs.map fun c => SL [c]) := by
  induction h with
  | nil => exact .nil
  | cons c t _ ih => exact .cons _ t ih
theorem SgAre.snoc {vs : List Value} {cs : List Nat} {c : Nat} {t : Tok} (h : SgAre vs cs) : SgAre (vs ++ [.str (SL [c]) t]) (cs ++ [c]) := by
  induction h with
  | nil => exact .cons c t .nil
  | cons d u _ ih => exact .cons d u ih
theorem SgAre.length {vs : List Value} {cs : List Nat} (h : SgAre vs cs) : vs.length = cs.length := by
  induction h with
  | nil => rfl
  | cons d u _ ih => simp [ih]
theorem join_sl (ls : List (List Nat)) : Txt.join ⟨#[]⟩ (ls.map SL) = SL ls.flatten := by
  unfold Txt.join Builtin.Str.glued
  cases ls with
  | nil => rfl
  | cons a r =>
    have key : ∀ (r : List (List Nat)) (acc : List Nat), (r.map SL).foldl (fun acc p => acc ++ (#[] : Array Nat) ++ p.cps) acc.toArray = (acc ++ r.flatten).toArray := by
      intro r
      induction r with
      | nil => intro acc; simp
      | cons b r ih =>
        intro acc
        rw [List.map_cons, List.foldl_cons]
        have e : acc.toArray ++ (#[] : Array Nat) ++ (SL b).cps = (acc ++ b).toArray := by simp [SL]
        rw [e, ih]
        simp
    show Str.mk ((r.map SL).foldl (fun acc p => acc ++ (#[] : Array Nat) ++ p.cps) (SL a).cps) = _
    have := key r a
    rw [show (SL a).cps = a.toArray from rfl, this]
    rfl
theorem sum_len (ls : List (List Nat)) : ((ls.map SL).map (·.length)).sum = ls.flatten.length := by
  induction ls with
  | nil => rfl
  | cons a r ih => simp [SL.length] at ih ⊢; exact ih
section
variable {prog : Program} {w : World} {A : Around} {E : Value → Shared → Prop} {s : Shared} {Q : Value → Shared → Prop}
theorem call_sjoin {D : Addr} {vs : List Value} {ls : List (List Nat)} {y : Str} {t : Tok} (hy : y = ⟨#[]⟩) (hi : StrsAre vs (ls.map SL)) (hl : s.heap.IsList D vs.toArray) (hz : ls.flatten.length ≤ 1000000)
    (h : ∀ t' k, Q (.str (SL ls.flatten) t') { s with toks := k }) : wpAny (model prog w) A (call (.builtin "str.join") [.str y t, .ref D]) Q E s := by
  subst hy
  refine join_list (ys := ls.map SL) hl hi ?_ (fun t' k => ?_)
  · rw [sum_len]
    show _ + (ls.map SL).length * 0 ≤ _
    omega
  · rw [join_sl]
    exact h t' k
theorem flat_single (cs : List Nat) : (cs.map fun c => [c]).flatten = cs := by
  induction cs with
  | nil => rfl
  | cons c r ih => simp; exact ih
theorem call_sjoin1 {D : Addr} {vs : List Value} {cs : List Nat} {y : Str} {t : Tok} (hy : y = ⟨#[]⟩) (hi : SgAre vs cs) (hl : s.heap.IsList D vs.toArray) (hz : cs.length ≤ 1000000)
    (h : ∀ t' k, Q (.str (SL cs) t') { s with toks := k }) : wpAny (model prog w) A (call (.builtin "str.join") [.str y t, .ref D]) Q E s := by
  have hi := hi.strs
  have e : cs.map (fun c => SL [c]) = (cs.map fun c => [c]).map SL := by simp
  rw [e] at hi
  refine call_sjoin hy hi hl (by rw [flat_single]; exact hz) ?_
  rw [flat_single]
  exact h
theorem call_dec {ds : List Nat} {u : Tok} (hh : ∀ c ∈ ds, isDec c = true) (hne : ds ≠ []) (hl : ds.length ≤ 600) (h : Q (.int (decV ds) s.toks) { s with toks := s.toks + 1 }) :
    wpAny (model prog w) A (call (.type "int") [.str (SL ds) u]) Q E s := by
  have hd : AllDigits (SL ds).cps.toList := by
    intro c hc
    have := hh c (by simpa [SL] using hc)
    simp only [isDec, Bool.and_eq_true, decide_eq_true_eq] at this
    exact this
  have e := intText_digits hd (by simpa [SL] using hne) (by rw [SL.length]; omega)
  have e2 : (SL ds).cps.toList = ds := by simp [SL]
  rw [e2] at e
  exact KIN.call_text e (by rw [SL.length]; omega) h
end
theorem dig_dec {c : Nat} (h : isDec c = true) : Unicode.isDigit c = true := by
  simp only [isDec, Bool.and_eq_true, decide_eq_true_eq] at h
  have : ∀ c : Nat, c < 58 → 48 ≤ c → Unicode.isDigit c = true := by decide +kernel
  exact this c (by omega) h.1
theorem space_white {c : Nat} (h : white c = true) : Unicode.isSpace c = true ∧ c < 128 := by
  simp only [white, Bool.or_eq_true, Bool.and_eq_true, decide_eq_true_eq, beq_iff_eq] at h
  have : ∀ c : Nat, c < 33 → (c = 32 ∨ (9 ≤ c ∧ c ≤ 13)) → Unicode.isSpace c = true := by decide +kernel
  exact ⟨this c (by omega) h, by omega⟩
theorem hexD_lt {c : Nat} (h : isHex c = true) : hexD c < 16 := by
  simp only [isHex, Bool.or_eq_true, Bool.and_eq_true, decide_eq_true_eq] at h
  unfold hexD
  split
  · omega
  · split <;> omega
theorem hex2_le {a b : Nat} (ha : isHex a = true) (hb : isHex b = true) : hexV [a, b] ≤ 255 := by
  have h1 := hexD_lt ha
  have h2 := hexD_lt hb
  show (0 * 16 + hexD a) * 16 + hexD b ≤ 255
  omega
section
variable {prog : Program} {w : World} {A : Around} {E : Value → Shared → Prop} {s : Shared} {Q : Value → Shared → Prop}
theorem nes {c d : Nat} {y : Str} {b : Bool} {t u : Tok} (hy : y = SL [d]) (hb : (c == d) = b) (h : Q (.bool (!b)) s) : wpAny (model prog w) A (compareOp .NotEq (.str (SL [c]) t) (.str y u)) Q E s := by
  refine ne_str ?_
  have e : (SL [c] != y) = !b := by
    rw [hy, ← hb]
    by_cases hc : c = d
    · subst hc; simp
    · have : SL [c] ≠ SL [d] := fun e => hc (List.cons.inj (SL.inj e)).1
      rw [bne, beq_eq_false_iff_ne.mpr this, beq_eq_false_iff_ne.mpr hc]
  rw [e]
  exact h
end
theorem decD_le {c : Nat} (h : isDec c = true) : 48 ≤ c ∧ c ≤ 57 := by
  simp only [isDec, Bool.and_eq_true, decide_eq_true_eq] at h
  exact h
theorem dec_le {ds : List Nat} (h : ∀ c ∈ ds, isDec c = true) (hl : ds.length ≤ 3) : decV ds ≤ 999 := by
  have key : ∀ (ds : List Nat) (a : Nat), (∀ c ∈ ds, isDec c = true) → ds.foldl (fun a d => a * 10 + (d - 48)) a ≤ a * 10 ^ ds.length + (10 ^ ds.length - 1) := by
    intro ds
    induction ds with
    | nil => intro a _; simp
    | cons c r ih =>
      intro a hc
      have h1 := decD_le (hc c (.head _))
      have h2 := ih (a * 10 + (c - 48)) (fun x hx => hc x (.tail _ hx))
      rw [List.foldl_cons]
      refine Nat.le_trans h2 ?_
      have h3 : 1 ≤ 10 ^ r.length := Nat.pos_of_ne_zero (by simp)
      have h4 : (a * 10 + (c - 48)) * 10 ^ r.length ≤ (a * 10 + 9) * 10 ^ r.length := Nat.mul_le_mul_right _ (by omega)
      have h5 : (a * 10 + 9) * 10 ^ r.length = a * (10 ^ r.length * 10) + 9 * 10 ^ r.length := by
        rw [Nat.add_mul, Nat.mul_assoc, Nat.mul_comm 10]
      rw [List.length_cons, Nat.pow_succ]
      omega
  have := key ds 0 h
  have h10 : 10 ^ ds.length ≤ 10 ^ 3 := Nat.pow_le_pow_right (by decide) hl
  unfold decV
  omega
theorem hexR {c : Nat} (h : isHex c = true) : 48 ≤ c ∧ c ≤ 102 := by
  simp only [isHex, Bool.or_eq_true, Bool.and_eq_true, decide_eq_true_eq] at h
  omega
end Mine
namespace Mine

/-! a frame read by a fixed list of names -/
inductive InAt : List Str → List (Option Value) → Str → Value → Prop
  | here {x : Str} {ns : List Str} {v : Value} {vs : List (Option Value)} : InAt (x :: ns) (some v :: vs) x v
  | there {x y : Str} {ns : List Str} {v : Value} {o : Option Value} {vs : List (Option Value)} : InAt ns vs x v → InAt (y :: ns) (o :: vs) x v
inductive PutAt : List Str → List (Option Value) → Str → Value → List (Option Value) → Prop
  | here {x : Str} {ns : List Str} {v : Value} {o : Option Value} {vs : List (Option Value)} : PutAt (x :: ns) (o :: vs) x v (some v :: vs)
  | there {x y : Str} {ns : List Str} {v : Value} {o : Option Value} {vs vs' : List (Option Value)} : PutAt ns vs x v vs' → PutAt (y :: ns) (o :: vs) x v (o :: vs')
inductive SubAt : List (Option Value) → List (Option Value) → Prop
  | nil : SubAt [] []
  | keep {o : Option Value} {vs vs' : List (Option Value)} : SubAt vs vs' → SubAt (o :: vs) (o :: vs')
  | drop {o : Option Value} {vs vs' : List (Option Value)} : SubAt vs vs' → SubAt (o :: vs) (none :: vs')
theorem InAt.mem {ns : List Str} {vs : List (Option Value)} {x : Str} {v : Value} (h : InAt ns vs x v) : x ∈ ns := by
  induction h with
  | here => exact .head _
  | there _ ih => exact .tail _ ih
theorem PutAt.mem {ns : List Str} {vs vs' : List (Option Value)} {x : Str} {v : Value} (h : PutAt ns vs x v vs') : x ∈ ns := by
  induction h with
  | here => exact .head _
  | there _ ih => exact .tail _ ih
theorem PutAt.get {ns : List Str} {vs vs' : List (Option Value)} {x : Str} {v : Value} (h : PutAt ns vs x v vs') (nd : ns.Nodup) {y : Str} {u : Value} (hy : InAt ns vs' y u) :
    (y = x ∧ u = v) ∨ (y ≠ x ∧ InAt ns vs y u) := by
  induction h with
  | here =>
    rename_i x ns v o vs
    cases hy with
    | here => exact .inl ⟨rfl, rfl⟩
    | there hy =>
      refine .inr ⟨fun e => ?_, .there hy⟩
      subst e
      exact (List.nodup_cons.mp nd).1 hy.mem
  | there hp ih =>
    rename_i x z ns v o vs vs'
    cases hy with
    | here =>
      refine .inr ⟨fun e => ?_, .here⟩
      subst e
      exact (List.nodup_cons.mp nd).1 hp.mem
    | there hy =>
      rcases ih (List.nodup_cons.mp nd).2 hy with h | ⟨h1, h2⟩
      · exact .inl h
      · exact .inr ⟨h1, .there h2⟩
theorem SubAt.get {vs vs' : List (Option Value)} (h : SubAt vs vs') : ∀ {ns : List Str} {y : Str} {u : Value}, InAt ns vs' y u → InAt ns vs y u := by
  induction h with
  | nil => intro _ _ _ h; exact h
  | keep _ ih =>
    intro ns y u hy
    cases hy with
    | here => exact .here
    | there hy => exact .there (ih hy)
  | drop _ ih =>
    intro ns y u hy
    cases hy with
    | there hy => exact .there (ih hy)

structure Names (scope : Scope) (ns : List Str) : Prop where
  kind : scope.kind = .function
  nd : ns.Nodup
  loc : ∀ x ∈ ns, scope.names.lookup x = some .local
  dbg : ∀ x ∈ ns, (x == ("__debug__" : Str)) = false
structure Rd (scope : Scope) (ns : List Str) (vs : List (Option Value)) (m : Str → Option Value) : Prop where
  nm : Names scope ns
  get : ∀ {x v}, InAt ns vs x v → m x = some v
theorem Rd.sub {scope : Scope} {ns : List Str} {vs vs' : List (Option Value)} {m : Str → Option Value} (R : Rd scope ns vs m) (h : SubAt vs vs') : Rd scope ns vs' m := ⟨R.nm, fun hy => R.get (h.get hy)⟩
theorem Rd.put {scope : Scope} {ns : List Str} {vs vs' : List (Option Value)} {m : Str → Option Value} {x : Str} {v : Value} (R : Rd scope ns vs m) (h : PutAt ns vs x v vs') : Rd scope ns vs' (fun y => if y = x then some v else m y) :=
  ⟨R.nm, fun hy => by
    rcases h.get R.nm.nd hy with ⟨h1, h2⟩ | ⟨h1, h2⟩
    · rw [if_pos h1, h2]
    · rw [if_neg h1]; exact R.get h2⟩
/-- none stands -/
theorem inAt_none {ns : List Str} {k : Nat} {x : Str} {v : Value} (h : InAt ns (List.replicate k none) x v) : False := by
  induction k generalizing ns with
  | zero => cases h
  | succ k ih =>
    rw [List.replicate_succ] at h
    cases h with
    | there h => exact ih h
theorem Rd.start0 {scope : Scope} {ns : List Str} (k : Nat) {m : Str → Option Value} (N : Names scope ns) : Rd scope ns (List.replicate k none) m := ⟨N, fun h => (inAt_none h).elim⟩
theorem Rd.add {scope : Scope} {ns : List Str} {vs vs' : List (Option Value)} {m : Str → Option Value} {x : Str} {v : Value} (R : Rd scope ns vs m) (hm : m x = some v) (h : PutAt ns vs x v vs') : Rd scope ns vs' m :=
  ⟨R.nm, fun hy => by
    rcases h.get R.nm.nd hy with ⟨h1, h2⟩ | ⟨_, h2⟩
    · rw [h1, h2, hm]
    · exact R.get h2⟩

section
variable {M : Model} {A : Around} {E : Value → Shared → Prop} {s : Shared} {name : Str} {scope : Scope} {L a : Addr} {cd : Value} {h₀ : Heap} {m : Str → Option Value} {news : List (Addr × Obj)} {ns : List Str} {vs vs' : List (Option Value)}
theorem nmR {x : Str} {pos : Pos} {v : Value} {Q : Value → Shared → Prop} (F : Fr h₀ L s.heap m) (R : Rd scope ns vs m) (hv : InAt ns vs x v) (h : Q v s) :
    wpAny M A (eval (.Name x pos) (envOf name scope L a cd)) Q E s := ld F (R.get hv) h R.nm.kind (R.nm.loc x hv.mem) (R.nm.dbg x hv.mem)
theorem stR {x : Str} {v : Value} {Q : Unit → Shared → Prop} (s₀ : Shared) {hp : Heap} {tk : Nat} (F : Fr h₀ L hp m) (N : News h₀ L hp news) (R : Rd scope ns vs m) (hv : PutAt ns vs x v vs')
    (h : ∀ (h' : Heap) (m' : Str → Option Value) (tk' : Nat), Fr h₀ L h' m' → News h₀ L h' news → Rd scope ns vs' m' → Q () { heap := h', gens := s₀.gens, drawn := s₀.drawn, toks := tk', os := s₀.os }) :
    wpAny M A (storeName (envOf name scope L a cd) x v) Q E { heap := hp, gens := s₀.gens, drawn := s₀.drawn, toks := tk, os := s₀.os } :=
  stN F N (fun h' F' N' => h h' _ _ F' N' (R.put hv)) R.nm.kind (R.nm.loc x hv.mem)
theorem args1 {env : Env} {e : Expr} {pos : Pos} {Q : List Value → Shared → Prop}
    (h : wpAny M A (eval e env) (fun v s₁ => Q [v] s₁) E s) (he : starEach [e] env = (false, eval e env) :: starEach [] env := by rfl) : wpAny M A (spliced (backTo pos (starEach [e] env))) Q E s :=
  args_cons (wpAny_mono h (fun _ _ q => args_nil q) fun _ _ x => x) he
theorem args2 {env : Env} {e e' : Expr} {pos : Pos} {Q : List Value → Shared → Prop}
    (h : wpAny M A (eval e env) (fun v s₁ => wpAny M A (eval e' env) (fun v' s₂ => Q [v, v'] s₂) E s₁) E s) (he : starEach [e, e'] env = (false, eval e env) :: starEach [e'] env := by rfl) (he' : starEach [e'] env = (false, eval e' env) :: starEach [] env := by rfl) : wpAny M A (spliced (backTo pos (starEach [e, e'] env))) Q E s :=
  args_cons (wpAny_mono h (fun _ _ q => args1 q he') fun _ _ x => x) he
end

/-! a while, by what the names hold -/
def WPost {σ : Type} (h₀ : Heap) (L : Addr) (s₀ : Shared) (scope : Scope) (ns : List Str) (Led : σ → List (Addr × Obj)) (vals : σ → List (Option Value)) (P : σ → Prop) (μ : σ → Nat) (k : Nat) (Q : Flow → Shared → Prop) (f : Flow) (s₂ : Shared) : Prop :=
  match f with
  | .ret v => Q (.ret v) s₂
  | .brk => Q .next s₂
  | _ => ∃ (c : σ) (h' : Heap) (tk : Nat) (m' : Str → Option Value), s₂ = { heap := h', gens := s₀.gens, drawn := s₀.drawn, toks := tk, os := s₀.os } ∧ Fr h₀ L h' m' ∧ News h₀ L h' (Led c) ∧ Rd scope ns (vals c) m' ∧ P c ∧ μ c < k
theorem WPost.next {σ : Type} {h₀ : Heap} {L : Addr} {s₀ : Shared} {scope : Scope} {ns : List Str} {Led : σ → List (Addr × Obj)} {vals : σ → List (Option Value)} {P : σ → Prop} {μ : σ → Nat} {k : Nat} {Q : Flow → Shared → Prop}
    {h' : Heap} {tk : Nat} {m' : Str → Option Value} {news : List (Addr × Obj)} {vs : List (Option Value)} (c : σ) (F : Fr h₀ L h' m') (N : News h₀ L h' news) (R : Rd scope ns vs m') (hN : ∀ p ∈ Led c, p ∈ news) (hR : SubAt vs (vals c)) (hp : P c) (hm : μ c < k) :
    WPost h₀ L s₀ scope ns Led vals P μ k Q .next { heap := h', gens := s₀.gens, drawn := s₀.drawn, toks := tk, os := s₀.os } :=
  ⟨c, h', tk, m', rfl, F, fun p hp => N p (hN p hp), R.sub hR, hp, hm⟩
section
variable {prog : Program} {w : World} {A : Around} {Q : Flow → Shared → Prop} {env : Env} {h₀ : Heap} {L : Addr}
theorem whileR {σ : Type} {test : Expr} {body : List Stmt} {pos : Pos} {m : Str → Option Value} {scope : Scope} {ns : List Str} {vs : List (Option Value)} {news : List (Addr × Obj)} {hp : Heap} {tk : Nat} (s₀ : Shared)
    (Led : σ → List (Addr × Obj)) (vals : σ → List (Option Value)) (P : σ → Prop) (μ : σ → Nat) (c₀ : σ)
    (F : Fr h₀ L hp m) (N : News h₀ L hp news) (R : Rd scope ns vs m) (hN : ∀ p ∈ Led c₀, p ∈ news) (hR : SubAt vs (vals c₀)) (hp₀ : P c₀)
    (turn : ∀ (c : σ) (m' : Str → Option Value) (h : Heap) (tk : Nat), P c → Fr h₀ L h m' → News h₀ L h (Led c) → Rd scope ns (vals c) m' →
      wpAny (model prog w) A (isTrue test env (eval test env)) (fun b s₂ =>
        if b = true then wpAny (model prog w) A (execs body env) (WPost h₀ L s₀ scope ns Led vals P μ (μ c) Q) (fun _ _ => False) s₂ else Q .next s₂) (fun _ _ => False) { heap := h, gens := s₀.gens, drawn := s₀.drawn, toks := tk, os := s₀.os }) :
    wpAny (model prog w) A (exec (.While test body [] pos) env) Q (fun _ _ => False) { heap := hp, gens := s₀.gens, drawn := s₀.drawn, toks := tk, os := s₀.os } := by
  refine While_inv2 (fun n m nx => ∃ c : σ, nx = Led c ∧ μ c = n ∧ Rd scope ns (vals c) m ∧ P c) (n₀ := μ c₀) F (fun p hp => N p (hN p hp)) ⟨c₀, rfl, rfl, R.sub hR, hp₀⟩ ?_ PassesOwn.never
  rintro n m₁ nx h tk' F₁ N₁ ⟨c, rfl, rfl, R₁, hp'⟩
  refine wpAny_mono (turn c m₁ h tk' hp' F₁ N₁ R₁) (fun b s₂ p => ?_) fun _ _ x => x
  cases b with
  | false => simpa using p
  | true =>
    simp only [if_true] at p ⊢
    refine wpAny_mono p (fun f s₃ q => ?_) fun _ _ x => x
    cases f with
    | ret v => exact q
    | brk => exact q
    | next =>
      obtain ⟨c', h', tk', m', rfl, F', N', R', hp9, hm9⟩ := q
      exact ⟨h', tk', m', Led c', μ c', rfl, F', N', hm9, c', rfl, rfl, R', hp9⟩
    | cont =>
      obtain ⟨c', h', tk', m', rfl, F', N', R', hp9, hm9⟩ := q
      exact ⟨h', tk', m', Led c', μ c', rfl, F', N', hm9, c', rfl, rfl, R', hp9⟩
end
theorem enterR {M : Model} {A : Around} {E : Value → Shared → Prop} {s : Shared} {name : Str} {scope : Scope} {L a : Addr} {cd : Value} {h₀ : Heap} {m : Str → Option Value} {body : List Stmt} {Q : Flow → Shared → Prop} {hp : Heap} (ns : List Str) (vs : List (Option Value))
    (_F : Fr h₀ L hp m) (NM : Names scope ns) (hv : vs = List.replicate vs.length none) (h : Rd scope ns vs m → wpAny M A (execs body (envOf name scope L a cd)) Q E s) : wpAny M A (execs body (envOf name scope L a cd)) Q E s := h (by rw [hv]; exact Rd.start0 _ NM)

structure Marks (s : Shared) : Prop where
def Stop (P : Prop) : Prop := P
theorem Stop.of {P : Prop} (h : Stop P) : P := h
theorem Stop.to {P : Prop} (h : P) : Stop P := h
theorem execs_mk {M : Model} {A : Around} {E : Value → Shared → Prop} {env : Env} {Q : Flow → Shared → Prop} {st : Stmt} {rest : List Stmt} {s s₀ : Shared} (_ : Marks s₀) (hs : s = { heap := s.heap, gens := s₀.gens, drawn := s₀.drawn, toks := s.toks, os := s₀.os })
    {hp : Heap} (he : s.heap = hp) (h : ∀ tk' : Nat, wpAny M A (exec st env) (fun f s' => match f with | .next => wpAny M A (execs rest env) Q E s' | f => Q f s') E { heap := hp, gens := s₀.gens, drawn := s₀.drawn, toks := tk', os := s₀.os }) :
    wpAny M A (execs (st :: rest) env) Q E s := by
  subst he
  rw [hs]
  exact wpAny_execs_cons (h _)
section
variable {M : Model} {A : Around} {E : Value → Shared → Prop} {s s₀ : Shared} {name : Str} {scope : Scope} {L a : Addr} {cd : Value} {h₀ : Heap} {m : Str → Option Value} {news : List (Addr × Obj)} {ns : List Str} {vs vs' : List (Option Value)}
theorem stM {x : Str} {v : Value} {Q : Unit → Shared → Prop} (F : Fr h₀ L s.heap m) (N : News h₀ L s.heap news) (R : Rd scope ns vs m) (_ : Marks s₀) (hs : s = { heap := s.heap, gens := s₀.gens, drawn := s₀.drawn, toks := s.toks, os := s₀.os }) (hv : PutAt ns vs x v vs')
    (h : ∀ (h' : Heap) (m' : Str → Option Value) (tk' : Nat), Fr h₀ L h' m' → News h₀ L h' news → Rd scope ns vs' m' → Q () { heap := h', gens := s₀.gens, drawn := s₀.drawn, toks := tk', os := s₀.os }) :
    wpAny M A (storeName (envOf name scope L a cd) x v) Q E s := by
  rw [hs]
  exact stN F N (fun h' F' N' => h h' _ _ F' N' (R.put hv)) R.nm.kind (R.nm.loc x hv.mem)
end

theorem ldnM {M : Model} {A : Around} {E : Value → Shared → Prop} {s : Shared} {name : Str} {scope : Scope} {L a : Addr} {cd : Value} {h₀ : Heap} {m : Str → Option Value} {ns : List Str} {vs : List (Option Value)} {x : Str} {v : Value} {Q : Value → Shared → Prop} (F : Fr h₀ L s.heap m) (R : Rd scope ns vs m) (hv : InAt ns vs x v) (h : Q v s) :
    wpAny M A (loadName (envOf name scope L a cd) x) Q E s := ldn F (R.get hv) h R.nm.kind (R.nm.loc x hv.mem)

theorem WPost.brk' {σ : Type} {h₀ : Heap} {L : Addr} {s₀ : Shared} {scope : Scope} {ns : List Str} {Led : σ → List (Addr × Obj)} {vals : σ → List (Option Value)} {P : σ → Prop} {μ : σ → Nat} {k : Nat} {Q : Flow → Shared → Prop} {s₂ : Shared}
    (h : Q .next s₂) : WPost h₀ L s₀ scope ns Led vals P μ k Q .brk s₂ := h

/-! a call that may turn what the caller has made -/
def BackN (h₀ : Heap) (L : Addr) (m : Str → Option Value) (g : Heap) (Q : Value → Shared → Prop) (v : Value) (s' : Shared) : Prop :=
  ∃ (L' : Addr) (m' : Str → Option Value) (news' : List (Addr × Obj)), Fr g L' s'.heap m' ∧ News g L' s'.heap news' ∧ (Fr h₀ L s'.heap m → News h₀ L s'.heap news' → Q v s')
theorem BackN.of {h₀ g : Heap} {L L' : Addr} {m m' : Str → Option Value} {Q : Value → Shared → Prop} {v : Value} {s' : Shared} {news' : List (Addr × Obj)} (F : Fr g L' s'.heap m') (N : News g L' s'.heap news')
    (h : Fr h₀ L s'.heap m → News h₀ L s'.heap news' → Q v s') : BackN h₀ L m g Q v s' := ⟨L', m', news', F, N, h⟩
theorem own_callN {prog : Program} {w : World} {A : Around} {s : Shared} {K : Frag} {Q E : Value → Shared → Prop} {name qual : Str} {params : Arguments} {body : List Stmt} {scope : Scope}
    {dV kV doc pm cdv ct oc : Value} {an od : Option Addr} {osl : Array (Option Value)} {f : Addr} {args : List Value} {binds : List (Str × Value)} {h₀ : Heap} {L : Addr} {m : Str → Option Value} {news : List (Addr × Obj)}
    (X : K.In h₀) (hlim : h₀.NoLimit) (F : Fr h₀ L s.heap m) (N : News h₀ L s.heap news)
    (ho : K.lookup f = some ⟨oc, od, .func (fnOf name qual params body scope dV kV doc pm an cdv ct), osl⟩) (hcd : codeIn K cdv qual = true) (hroom : A.depth < recursionLimit)
    (hbind : BindsTo s (fnOf name qual params body scope dV kV doc pm an cdv ct) ⟨args, []⟩ binds) (hloc : ∀ y ∈ binds, scope.names.lookup y.1 = some .local)
    (h : ∀ g L' h₁, h₀.StaysIn g → Fr g L' h₁ (fun y => binds.reverse.lookup y) → News g L' h₁ news → K.In g → (∀ p ∈ news, p.1 < L') →
      wpAny (model prog w) (A.deeper (envOf qual scope L' f cdv)) (execs body (envOf qual scope L' f cdv))
        (fun fl s' => BackN h₀ L m g Q (match fl with | .ret v => v | _ => .none) s') (fun _ _ => False)
        { s with heap := h₁, toks := s.toks + binds.length })
    (hcell : ∀ x ∈ scope.names, x.2 ≠ .cell) (hco : scope.isCoroutine = false) (hgen : scope.isGenerator = false) (hk : scope.kind = .function) :
    wpAny (model prog w) A (call (.ref f) args) Q E s := by
  have X' : K.In s.heap := X.keeps F.keep
  have fresh : ∀ b o, h₀.get? b = some o → b ∉ news.map (·.1) := by
    intro b o e hb
    obtain ⟨p, hp, rfl⟩ := List.mem_map.mp hb
    rw [(N p hp).2.2] at e
    cases e
  have st : h₀.StaysIn (hideAll s.heap (news.map (·.1))) := fun b o e => hideAll_get _ (F.keep b o e) (fresh b o e)
  obtain ⟨oL, es, ep, hL, hLd, hLk, hLf⟩ := F.ns
  have hLn : L ∉ news.map (·.1) := by
    intro hb
    obtain ⟨p, hp, e⟩ := List.mem_map.mp hb
    exact (N p hp).2.1 e
  have hLg := hideAll_get (news.map (·.1)) hL hLn
  refine wpAny_call ?_
  refine codeAny_call_def (fd := fnOf name qual params body scope dV kV doc pm an cdv ct) (body := body) (binds := binds) hroom (X' _ _ ho) rfl (hlim.keeps F.keep) (codeRec_of X' hcd) rfl hbind hcell hloc (fun h₁ hns hk₁ => ?_) hco hgen hk
  have turn := h _ s.heap.objs.size h₁ st ⟨hns, fun b o e => hk₁ b o (of_hideAll _ e), Nat.le_of_eq (hideAll_size _ _)⟩
    (fun p hp => ⟨hk₁ _ _ (N p hp).1, Nat.ne_of_lt (Heap.lt_size (N p hp).1), hideAll_none _ (List.mem_map_of_mem hp)⟩) (X.keeps st) (fun p hp => Heap.lt_size (N p hp).1)
  refine wpAny_mono turn (fun fl s' hb => ?_) fun _ _ y => y.elim
  obtain ⟨L', m', news', F', N', k⟩ := hb
  refine k ⟨⟨oL, es, ep, F'.keep L oL hLg, hLd, hLk, hLf⟩, fun b o e => F'.keep b o (st b o e), F.above⟩ fun p hp => ⟨(N' p hp).1, ?_, ?_⟩
  · intro e
    have := (N' p hp).2.2
    rw [e, hLg] at this
    cases this
  · cases q : h₀.get? p.1 with
    | none => rfl
    | some o =>
      have := (N' p hp).2.2
      rw [st _ _ q] at this
      cases this

end Mine
namespace Mine

def FPost {σ : Type} (h₀ : Heap) (L : Addr) (s₀ : Shared) (scope : Scope) (ns : List Str) (Led : σ → List (Addr × Obj)) (own : List (Addr × Obj)) (vals : σ → List (Option Value)) (P : σ → Prop) (Q : Flow → Shared → Prop) (f : Flow) (s₂ : Shared) : Prop :=
  match f with
  | .ret v => Q (.ret v) s₂
  | .brk => Q .next s₂
  | _ => ∃ (c : σ) (h' : Heap) (tk : Nat) (m' : Str → Option Value), s₂ = { heap := h', gens := s₀.gens, drawn := s₀.drawn, toks := tk, os := s₀.os } ∧ Fr h₀ L h' m' ∧ News h₀ L h' (Led c ++ own) ∧ Rd scope ns (vals c) m' ∧ P c
theorem FPost.next {σ : Type} {h₀ : Heap} {L : Addr} {s₀ : Shared} {scope : Scope} {ns : List Str} {Led : σ → List (Addr × Obj)} {own : List (Addr × Obj)} {vals : σ → List (Option Value)} {P : σ → Prop} {Q : Flow → Shared → Prop}
    {h' : Heap} {tk : Nat} {m' : Str → Option Value} {news : List (Addr × Obj)} {vs : List (Option Value)} (c : σ) (F : Fr h₀ L h' m') (N : News h₀ L h' news) (R : Rd scope ns vs m') (hN : ∀ p ∈ Led c ++ own, p ∈ news) (hR : SubAt vs (vals c)) (hp : P c) :
    FPost h₀ L s₀ scope ns Led own vals P Q .next { heap := h', gens := s₀.gens, drawn := s₀.drawn, toks := tk, os := s₀.os } :=
  ⟨c, h', tk, m', rfl, F, fun p hp => N p (hN p hp), R.sub hR, hp⟩
theorem FPost.cont {σ : Type} {h₀ : Heap} {L : Addr} {s₀ : Shared} {scope : Scope} {ns : List Str} {Led : σ → List (Addr × Obj)} {own : List (Addr × Obj)} {vals : σ → List (Option Value)} {P : σ → Prop} {Q : Flow → Shared → Prop}
    {h' : Heap} {tk : Nat} {m' : Str → Option Value} {news : List (Addr × Obj)} {vs : List (Option Value)} (c : σ) (F : Fr h₀ L h' m') (N : News h₀ L h' news) (R : Rd scope ns vs m') (hN : ∀ p ∈ Led c ++ own, p ∈ news) (hR : SubAt vs (vals c)) (hp : P c) :
    FPost h₀ L s₀ scope ns Led own vals P Q .cont { heap := h', gens := s₀.gens, drawn := s₀.drawn, toks := tk, os := s₀.os } :=
  ⟨c, h', tk, m', rfl, F, fun p hp => N p (hN p hp), R.sub hR, hp⟩

section
variable {prog : Program} {w : World} {A : Around} {Q : Flow → Shared → Prop} {h₀ : Heap} {L : Addr} {name : Str} {scope : Scope} {a : Addr} {cd : Value} {s s₀ : Shared}
theorem forR {m : Str → Option Value} {vs : List (Option Value)} {ns : List Str} {x : Str} {px pos : Pos} {iter : Expr} {body : List Stmt} (F : Fr h₀ L s.heap m) (R : Rd scope ns vs m) (hx : x ∈ ns)
    (h : wpAny (model prog w) A (eval iter (envOf name scope L a cd)) (fun xv s₁ => wpAny (model prog w) A (pyIter xv) (fun it s₂ => LoopAtV prog w A h₀ (envOf name scope L a cd) x body Q (fun _ _ => False) it s₂) (fun _ _ => False) s₁) (fun _ _ => False) s)
    (hs : ∀ x, foldedSetIterable iter (envOf name scope L a cd) x = pure x := by intro _; rfl) :
    wpAny (model prog w) A (exec (.For (.Name x px) iter body [] pos) (envOf name scope L a cd)) Q (fun _ _ => False) s :=
  For_invV h₀ (R.nm.loc x hx) (by show (scope.kind == .class || (scope.kind == .module && L != mainGlobals)) = false; rw [R.nm.kind]; rfl) h hs PassesOwn.never
theorem forRange {σ : Type} {x : Str} {body : List Stmt} {r : Addr} {a₀ b₀ : Int} {t₀ u₀ v₀ : Tok} {n : Nat} {m : Str → Option Value} {vs : List (Option Value)} {ns : List Str} {news : List (Addr × Obj)}
    (Led : σ → List (Addr × Obj)) (vals : σ → List (Option Value)) (valsx : σ → Value → List (Option Value)) (P : Nat → σ → Prop) (c₀ : σ) (_ : Marks s₀) (hss : s = { heap := s.heap, gens := s₀.gens, drawn := s₀.drawn, toks := s.toks, os := s₀.os })
    (hh : A.handled = none) (hr : IsRange s.heap r a₀ b₀ 1 t₀ u₀ v₀) (hsmall : Builtin.Range.small a₀ b₀ 1 = true) (hn : Builtin.Range.rangeSize a₀ b₀ 1 = (n : Int))
    (F : Fr h₀ L s.heap m) (N : News h₀ L s.heap news) (R : Rd scope ns vs m) (hN : ∀ p ∈ Led c₀, p ∈ news) (hR : SubAt vs (vals c₀)) (hp₀ : P 0 c₀)
    (hput : ∀ c v, PutAt ns (vals c) x v (valsx c v)) (hcls : ∀ c, ∀ p ∈ Led c, p.2.cls ≠ .type "range_iterator")
    (turn : ∀ (i : Nat) (c : σ) (I : Addr) (it : Obj) (t : Tok) (h : Heap) (tk : Nat) (m' : Str → Option Value), i < n → P i c → it.cls = .type "range_iterator" → (∀ p ∈ Led c, p.1 ≠ I) → Fr h₀ L h m' → News h₀ L h (Led c ++ [(I, it)]) → Rd scope ns (valsx c (.int (a₀ + (i : Int)) t)) m' →
      wpAny (model prog w) A (execs body (envOf name scope L a cd)) (FPost h₀ L s₀ scope ns Led [(I, it)] vals (P (i + 1)) Q) (fun _ _ => False) { heap := h, gens := s₀.gens, drawn := s₀.drawn, toks := tk, os := s₀.os })
    (done : ∀ (c : σ) (h : Heap) (tk : Nat) (m' : Str → Option Value), P n c → Fr h₀ L h m' → News h₀ L h (Led c) → Rd scope ns (vals c) m' → Q .next { heap := h, gens := s₀.gens, drawn := s₀.drawn, toks := tk, os := s₀.os }) :
    wpAny (model prog w) A (pyIter (.ref r)) (fun it s₂ => LoopAtV prog w A h₀ (envOf name scope L a cd) x body Q (fun _ _ => False) it s₂) (fun _ _ => False) s := by
  refine wpAny_pyIter_range hr hsmall ?_
  have W : Walks prog w A s.heap.objs.size [s.heap.objs.size] [s.heap.objs.size] n (fun i v => ∃ t, v = .int (a₀ + i * 1) t) (fun i h => IsRangeIter h s.heap.objs.size (a₀ + (i : Nat) * 1) ((n : Int) - (i : Nat)) 1) := Walks.range hh _ a₀ 1 n
  have hI : h₀.get? s.heap.objs.size = none := by
    cases q : h₀.get? s.heap.objs.size with
    | none => rfl
    | some o => exact absurd (Heap.lt_size (F.keep _ _ q)) (Nat.lt_irrefl _)
  have hLI : L ≠ s.heap.objs.size := Nat.ne_of_lt F.ns.lt
  have push : ∀ b o, s.heap.get? b = some o → (s.heap.push { cls := .type "range_iterator", data := .fields #[rawInt a₀, rawInt (Builtin.Range.rangeSize a₀ b₀ 1), rawInt 1] }).get? b = some o := fun b o e => Heap.get?_push_of_some _ e
  refine ⟨s.heap.objs.size, _, _, n, _, _, m, Led c₀, fun i m₁ nx => ∃ c, nx = Led c ∧ Rd scope ns (vals c) m₁ ∧ P i c, rfl, W, ?_, ?_, ?_, ?_, F.push _, fun p hp => ⟨push _ _ (N p (hN p hp)).1, (N p (hN p hp)).2⟩, ⟨c₀, rfl, R.sub hR, hp₀⟩, ?_, ?_⟩
  · intro e
    exact hLI (List.mem_singleton.mp e)
  · intro b hb
    rw [List.mem_singleton.mp hb]
    exact hI
  · intro p hp hq
    have := (N p (hN p hp)).1
    rw [List.mem_singleton.mp hq] at this
    exact absurd (Heap.lt_size this) (Nat.lt_irrefl _)
  · show IsRangeIter _ _ _ _ _
    rw [hn]
    simpa using Heap.get?_push_size _ rfl
  · rintro i v m₁ nx s₁ own ⟨h, tk, rfl⟩ hi ⟨t, rfl⟩ ⟨c, rfl, R₁, hp⟩ hnw hof hog hon hst F₁ N₁
    obtain ⟨itO, hst', hcl⟩ : ∃ o : Obj, h.get? s.heap.objs.size = some o ∧ o.cls = .type "range_iterator" := ⟨_, hst, rfl⟩
    have hit : (s.heap.objs.size, itO) ∈ own := hon _ (List.mem_singleton.mpr rfl) hI _ hst'
    have hne : ∀ p ∈ Led c, p.1 ≠ s.heap.objs.size := fun p hp e => hnw p hp (List.mem_singleton.mpr e)
    have e1 : a₀ + (i : Int) * 1 = a₀ + (i : Int) := by omega
    rw [e1] at F₁
    have N₂ : News h₀ L h (Led c ++ [(s.heap.objs.size, itO)]) := fun p hp => by
      rcases List.mem_append.mp hp with hp | hp
      · exact N₁ p (List.mem_append.mpr (.inr hp))
      · rw [List.mem_singleton.mp hp]
        exact N₁ _ (List.mem_append.mpr (.inl hit))
    have R₂ := R₁.put (hput c (.int (a₀ + (i : Int)) t))
    have tn := turn i c _ itO t h tk _ hi hp hcl hne F₁ N₂ R₂
    rw [hss]
    refine wpAny_mono tn (fun f s₂ q => ?_) fun _ _ x => x
    have fin : (∃ (c : σ) (h' : Heap) (tk : Nat) (m' : Str → Option Value), s₂ = { heap := h', gens := s₀.gens, drawn := s₀.drawn, toks := tk, os := s₀.os } ∧ Fr h₀ L h' m' ∧ News h₀ L h' (Led c ++ [(s.heap.objs.size, itO)]) ∧ Rd scope ns (vals c) m' ∧ P (i + 1) c) →
        LoopStepU h₀ L [s.heap.objs.size] own (fun m₁ nx => ∃ c, nx = Led c ∧ Rd scope ns (vals c) m₁ ∧ P (i + 1) c) { heap := h, gens := s₀.gens, drawn := s₀.drawn, toks := tk, os := s₀.os } .next s₂ := by
      rintro ⟨c', h', tk', m', rfl, F', N', R', hp'⟩
      have hIt := N' (s.heap.objs.size, itO) (List.mem_append.mpr (.inr (List.mem_singleton.mpr rfl)))
      refine ⟨rfl, h', tk', m', Led c', rfl, F', fun p hp => ?_, fun p hp hq => ?_, ⟨c', rfl, R', hp'⟩⟩
      · rcases List.mem_append.mp hp with hp | hp
        · have e2 : p.1 = s.heap.objs.size := List.mem_singleton.mp (hof p hp)
          have e3 := hog p hp
          rw [e2] at e3
          have e4 : p.2 = itO := Option.some.inj (e3.symm.trans hst')
          have e5 : p = (s.heap.objs.size, itO) := Prod.ext e2 e4
          rw [e5]
          exact hIt
        · exact N' p (List.mem_append.mpr (.inl hp))
      · have e2 : p.1 = s.heap.objs.size := List.mem_singleton.mp hq
        have e3 := (N' p (List.mem_append.mpr (.inl hp))).1
        rw [e2, hIt.1] at e3
        have e4 := Option.some.inj e3
        exact hcls c' p hp (e4 ▸ hcl)
    cases f with
    | ret v => exact .ret q
    | brk => exact .brk q
    | next => exact .next (fin q)
    | cont => exact .cont (fin q)
  · rintro h tk m' nx F' N' _ ⟨c, rfl, R', hp'⟩
    rw [hss]
    exact done c h tk m' hp' F' N' R'
end
end Mine
namespace Mine
section
variable {prog : Program} {w : World} {A : Around} {E : Value → Shared → Prop} {s : Shared} {Q : Value → Shared → Prop}
theorem cat_sl {a b : List Nat} {x y : Str} {t u : Tok} (hx : x = SL a) (hy : y = SL b) (hz : a.length + b.length ≤ 1000000) (h : ∀ t' k, Q (.str (SL (a ++ b)) t') { s with toks := k }) :
    wpAny (model prog w) A (binaryOp .Add (.str x t) (.str y u)) Q E s := by
  subst hx hy
  refine PyProof.Rows.add_str (fun t' k => ?_) (by rw [SL.length, SL.length, sizeLine_eq]; omega)
  have e : SL a ++ SL b = SL (a ++ b) := by
    show Str.mk (a.toArray ++ b.toArray) = _
    simp [SL]
  rw [e]
  exact h t' k
theorem item_at {l : List Nat} {y : Str} {i : Int} {c : Nat} {t u : Tok} {value slice : PySem.Expr} (hy : y = SL l) (h0 : 0 ≤ i) (hc : l[i.toNat]? = some c) (hl : l.length < 2 ^ 62) (h : Q (.str (SL [c]) s.toks) { s with toks := s.toks + 1 })
    (hs : subscripted slice false (.str y t) (.int i u) = operate [.str y t, .int i u] (getItem (.str y t) (.int i u)) := by with_unfolding_all rfl)
    (ht : ∀ r, letTemporaryGo value (.str y t) r = pure () := by intro _; with_unfolding_all rfl) :
    wpAny (model prog w) A (subscriptTail value slice (.str y t) (.int i u)) Q E s := by
  subst hy
  have hlt : i.toNat < l.length := (List.getElem?_eq_some_iff.mp hc).1
  have hS : Sees l i (l.drop i.toNat) := ⟨h0, rfl⟩
  have e : l.drop i.toNat = c :: l.drop (i.toNat + 1) := by
    rw [List.drop_eq_getElem_cons hlt]
    congr 1
    rw [List.getElem?_eq_getElem hlt] at hc
    exact Option.some.inj hc
  rw [e] at hS
  exact item_sl hS hl h hs ht
theorem mod_e {a b : Int} {t u : Tok} (hb : 0 < b) (h : Q (.int (a % b) s.toks) { s with toks := s.toks + 1 }) : wpAny (model prog w) A (binaryOp .Mod (.int a t) (.int b u)) Q E s := by
  refine mod_int' (by omega) ?_
  rw [Int.fmod_eq_emod_of_nonneg _ (by omega)]
  exact h
theorem div_e {a b : Int} {t u : Tok} (hb : 0 < b) (hb2 : b < 1073741824) (h : Q (.int (a / b) s.toks) { s with toks := s.toks + 1 }) : wpAny (model prog w) A (binaryOp .FloorDiv (.int a t) (.int b u)) Q E s := by
  refine floordiv_int (by omega) ?_ (.inl (PyProof.noPylong_small (by omega)))
  rw [Int.fdiv_eq_ediv_of_nonneg _ (by omega)]
  exact h
end
end Mine
namespace Mine
theorem noE {M : Model} {A : Around} {α : Type} {x : Sem α} {Q : α → Shared → Prop} {E : Value → Shared → Prop} {s : Shared} (h : wpAny M A x Q (fun _ _ => False) s) : wpAny M A x Q E s := wpAny_mono h (fun _ _ y => y) (fun _ _ y => y.elim)
theorem fresh_news {h₀ h h' : Heap} {L a : Addr} {m : Str → Option Value} {news : List (Addr × Obj)} {o : Obj} (F : Fr h₀ L h m) (N : News h₀ L h news) (k : Kept h h') (ha : h'.get? a = some o) (hn : h.get? a = none) :
    Fr h₀ L h' m ∧ News h₀ L h' ((a, o) :: news) ∧ ∀ p ∈ news, p.1 ≠ a := by
  refine ⟨Kept.fr k F, fun p hp => ?_, fun p hp e => ?_⟩
  · rcases List.mem_cons.mp hp with rfl | hp
    · refine ⟨ha, ?_, ?_⟩
      · intro e
        obtain ⟨oL, _, _, hL, _⟩ := F.ns
        subst e
        try dsimp only at hn
        rw [hL] at hn
        cases hn
      · cases q : h₀.get? a with
        | none => rfl
        | some o' =>
          have := F.keep _ _ q
          rw [hn] at this
          cases this
    · exact Kept.news k N p hp
  · have := (N p hp).1
    rw [e, hn] at this
    cases this
theorem News.tl {h₀ h : Heap} {L : Addr} {p : Addr × Obj} {news : List (Addr × Obj)} (N : News h₀ L h (p :: news)) : News h₀ L h news := fun q hq => N q (.tail _ hq)
theorem names3 {h₀ h : Heap} {L a b c : Addr} {o p q : Obj} (_ : News h₀ L h [(a, o), (b, p), (c, q)]) : ∃ x y z, x = a ∧ y = b ∧ z = c := ⟨_, _, _, rfl, rfl, rfl⟩
theorem isl_name {h : Heap} {a : Addr} {vs : Array Value} (_ : h.IsList a vs) : ∃ b, b = a := ⟨_, rfl⟩
theorem ints_name {us : List Value} {ns : List Int} (_ : IntsAre us ns) : ∃ b, b = us := ⟨_, rfl⟩

def CPost {σ : Type} (h₀ : Heap) (L : Addr) (s₀ : Shared) (scope : Scope) (ns : List Str) (Led : σ → List (Addr × Obj)) (vals : σ → List (Option Value)) (P : σ → Prop) (f : Flow) (s₂ : Shared) : Prop :=
  f = .next ∧ ∃ (c : σ) (h' : Heap) (tk : Nat) (m' : Str → Option Value), s₂ = { heap := h', gens := s₀.gens, drawn := s₀.drawn, toks := tk, os := s₀.os } ∧ Fr h₀ L h' m' ∧ News h₀ L h' (Led c) ∧ Rd scope ns (vals c) m' ∧ P c
theorem CPost.next {σ : Type} {h₀ : Heap} {L : Addr} {s₀ : Shared} {scope : Scope} {ns : List Str} {Led : σ → List (Addr × Obj)} {vals : σ → List (Option Value)} {P : σ → Prop}
    {h' : Heap} {tk : Nat} {m' : Str → Option Value} {news : List (Addr × Obj)} {vs : List (Option Value)} (c : σ) (F : Fr h₀ L h' m') (N : News h₀ L h' news) (R : Rd scope ns vs m') (hN : ∀ p ∈ Led c, p ∈ news) (hR : SubAt vs (vals c)) (hp : P c) :
    CPost h₀ L s₀ scope ns Led vals P .next { heap := h', gens := s₀.gens, drawn := s₀.drawn, toks := tk, os := s₀.os } :=
  ⟨rfl, c, h', tk, m', rfl, F, fun p hp => N p (hN p hp), R.sub hR, hp⟩
/-- a statement, by what it leaves -/
theorem cutR {M : Model} {A : Around} {E : Value → Shared → Prop} {s s₀ : Shared} {env : Env} {st : Stmt} {rest : List Stmt} {Q : Flow → Shared → Prop} {σ : Type} {h₀ : Heap} {L : Addr} {scope : Scope} {ns : List Str}
    {m : Str → Option Value} {vs : List (Option Value)} (_ : Fr h₀ L s.heap m) (_ : Rd scope ns vs m) (Led : σ → List (Addr × Obj)) (vals : σ → List (Option Value)) (P : σ → Prop) (_ : Marks s₀) (hs : s = { heap := s.heap, gens := s₀.gens, drawn := s₀.drawn, toks := s.toks, os := s₀.os })
    (h1 : ∀ tk, wpAny M A (exec st env) (CPost h₀ L s₀ scope ns Led vals P) E { heap := s.heap, gens := s₀.gens, drawn := s₀.drawn, toks := tk, os := s₀.os })
    (h2 : ∀ (c : σ) (h : Heap) (tk : Nat) (m' : Str → Option Value), P c → Fr h₀ L h m' → News h₀ L h (Led c) → Rd scope ns (vals c) m' → wpAny M A (execs rest env) Q E { heap := h, gens := s₀.gens, drawn := s₀.drawn, toks := tk, os := s₀.os }) :
    wpAny M A (execs (st :: rest) env) Q E s := by
  rw [hs]
  refine wpAny_execs_cons (wpAny_mono (h1 _) (fun f s' q => ?_) fun _ _ x => x)
  obtain ⟨rfl, c, h', tk, m', rfl, F, N, R, hp⟩ := q
  exact h2 c h' tk m' hp F N R
section
variable {prog : Program} {w : World} {A : Around} {E : Value → Shared → Prop} {s : Shared} {h₀ : Heap} {L : Addr}
theorem ne_sameK {a b : Addr} {vs us : List Value} {c d : Nat} {ns : List Int} {news : List (Addr × Obj)} {Q : Value → Shared → Prop} (N : News h₀ L s.heap news) (ha : (a, W.listOf vs.toArray c) ∈ news) (hi : IntsAre vs ns) (hb : (b, W.listOf us.toArray d) ∈ news) (hi' : IntsAre us ns) (hu : A.units + 64 < cLine)
    (h : Q (.bool false) s) : wpAny (model prog w) A (compareOp .NotEq (.ref a) (.ref b)) Q E s :=
  ne_intsK (N.isList ha) hi (N.isList hb) hi' hu (by simpa using h)
theorem eq_sameK {a b : Addr} {vs us : List Value} {c d : Nat} {ns : List Int} {news : List (Addr × Obj)} {Q : Value → Shared → Prop} (N : News h₀ L s.heap news) (ha : (a, W.listOf vs.toArray c) ∈ news) (hi : IntsAre vs ns) (hb : (b, W.listOf us.toArray d) ∈ news) (hi' : IntsAre us ns) (hu : A.units + 64 < cLine)
    (h : Q (.bool true) s) : wpAny (model prog w) A (compareOp .Eq (.ref a) (.ref b)) Q E s :=
  eq_intsK (N.isList ha) hi (N.isList hb) hi' hu (by simpa using h)
end
theorem list_ne_range {its : Array Value} {n : Nat} : (W.listOf its n).cls ≠ .type "range_iterator" := by
  intro e
  have := Value.type.inj e
  exact absurd this (by decide)
theorem o8_oct {n : Int} (h0 : 0 ≤ n) (h1 : n ≤ 2147483647) : ∀ x ∈ O8 n, 0 ≤ x ∧ x < 256 := by
  intro x hx
  unfold O8 at hx
  repeat' split at hx
  all_goals (simp at hx; omega)
end Mine
namespace Mine
theorem ints_last {vs : List Value} {xs : List Int} {c : Int} (h : IntsAre vs (xs ++ [c])) : ∃ us t, vs = us ++ [.int c t] ∧ IntsAre us xs := by
  induction xs generalizing vs with
  | nil =>
    cases h with
    | cons n t h => cases h; exact ⟨[], t, rfl, .nil⟩
  | cons x xs ih =>
    cases h with
    | cons n t h =>
      obtain ⟨us, t', rfl, hu⟩ := ih h
      exact ⟨.int x t :: us, t', rfl, .cons x t hu⟩
theorem ints_snoc {us : List Value} {xs : List Int} {c : Int} {t : Tok} (h : IntsAre us xs) : IntsAre (us ++ [.int c t]) (xs ++ [c]) := by
  induction h with
  | nil => exact .cons _ _ .nil
  | cons n u _ ih => exact .cons n u ih
theorem setL_last (us : List Value) (v x : Value) : ki_setL (us ++ [v]) us.length x = some (us ++ [x]) := by
  induction us with
  | nil => rfl
  | cons u us ih =>
    show (match ki_setL (us ++ [v]) us.length x with | some q => some (u :: q) | none => none) = _
    rw [ih]
    rfl
section
variable {prog : Program} {w : World} {A : Around} {E : Value → Shared → Prop} {s : Shared} {h₀ : Heap} {L D : Addr} {m : Str → Option Value} {news rest : List (Addr × Obj)} {us : List Value} {n : Nat}
theorem get_last {value slice : PySem.Expr} {x : Int} {t u : Tok} {Q : Value → Shared → Prop} (N : News h₀ L s.heap news) (hm : (D, W.listOf (us ++ [Value.int x t]).toArray n) ∈ news) (h : Q (.int x t) s)
    (hs : subscripted slice false (.ref D) (.int (-1) u) = operate [.ref D, .int (-1) u] (getItem (.ref D) (.int (-1) u)) := by with_unfolding_all rfl) :
    wpAny (model prog w) A (subscriptTail value slice (.ref D) (.int (-1) u)) Q E s := by
  refine kde_neg (j := us.length) (v := .int x t) (N.isList hm) (by decide) (by decide) ?_ (by simp) h hs
  have := PySem.seqIndex_neg (k := -1) (n := (us ++ [Value.int x t]).length) (by decide) (by simp; omega)
  rw [this]
  simp
  omega
theorem set_last {v x : Value} {u : Tok} {Q : Unit → Shared → Prop} (F : Fr h₀ L s.heap m) (N : News h₀ L s.heap ((D, W.listOf (us ++ [v]).toArray n) :: rest)) (hne : ∀ p ∈ rest, p.1 ≠ D)
    (h : ∀ h', Fr h₀ L h' m → News h₀ L h' ((D, W.listOf (us ++ [x]).toArray n) :: rest) → Q () { s with heap := h' }) : wpAny (model prog w) A (setItem (.ref D) (.int (-1) u) x) Q E s := by
  refine ki_setNeg (j := us.length) F N (by decide) (by decide) ?_ (by rw [List.toList_toArray]; exact setL_last us v x) (.head hne) h
  have := PySem.seqIndex_neg (k := -1) (n := (us ++ [v]).toArray.size) (by decide) (by simp; omega)
  rw [this]
  simp
  omega
theorem app_last {x : Value} {Q : Value → Shared → Prop} (F : Fr h₀ L s.heap m) (N : News h₀ L s.heap ((D, W.listOf us.toArray n) :: rest)) (hne : ∀ p ∈ rest, p.1 ≠ D) (hz : us.length ≤ 1000000)
    (h : ∀ h', Fr h₀ L h' m → News h₀ L h' ((D, W.listOf (us ++ [x]).toArray (n + 1)) :: rest) → Q .none { s with heap := h' }) : wpAny (model prog w) A (call (.builtin "list.append") [.ref D, x]) Q E s :=
  app_K F N (.head hne) hz h
theorem slice_from {l : List Nat} {i i' : Int} {t ui : Tok} {value slice : PySem.Expr} {Q : Value → Shared → Prop} (hi : i' = i) (h0 : 0 ≤ i) (h1 : i ≤ (l.length : Int)) (F : Fr h₀ L s.heap m) (N : News h₀ L s.heap news) (hl : l.length ≤ 1000000)
    (h : ∀ h' t' k, Fr h₀ L h' m → News h₀ L h' news → Q (.str (SL (l.drop i.toNat)) t') { s with heap := h', toks := k })
    (hs : subscripted slice false (.str (SL l) t) (.ref s.heap.objs.size) = operate [.ref s.heap.objs.size, .str (SL l) t] (getItem (.str (SL l) t) (.ref s.heap.objs.size)) := by with_unfolding_all rfl)
    (ht : ∀ r, letTemporaryGo value (.str (SL l) t) r = pure () := by intro _; with_unfolding_all rfl) :
    wpAny (model prog w) A (subscriptTail value slice (.str (SL l) t) (.ref s.heap.objs.size)) Q E { s with heap := s.heap.push { cls := .type "slice", data := .fields #[.int i' ui, .none, .none] } } := by
  subst hi
  refine slice_strN_sn F N (fun h' t' k F' N' => ?_) hs ht (by rw [SL.length, sizeLine_eq]; omega)
  have e : Txt.slice (SL l) (some i') none = SL (l.drop i'.toNat) := by
    have := eq_of_beq (slice_closes_from (x := SL l) (i := i') ⟨h0, by simpa [SL] using h1⟩)
    rw [this]
    have e2 : (SL l).cps.toList = l := by simp [SL]
    rw [e2, List.take_of_length_le (by rw [List.length_drop]; omega)]
    rfl
  rw [e]
  exact h h' t' k F' N'
theorem in_lit {c : Nat} {y : Str} {b : Bool} {t u : Tok} {Q : Value → Shared → Prop} (hb : (Builtin.Str.occurrences y (SL [c]) 0 y.length 1).isEmpty = !b) (h : Q (.bool b) s) : wpAny (model prog w) A (compareOp .In (.str (SL [c]) u) (.str y t)) Q E s := by
  refine in_str ?_
  rw [hb, Bool.not_not]
  exact h
theorem mul_one {c : Nat} {y : Str} {n : Int} {t u : Tok} {Q : Value → Shared → Prop} (hy : y = SL [c]) (h0 : 0 ≤ n) (h1 : n ≤ 100) (h : ∀ t' k, Q (.str (SL (List.replicate n.toNat c)) t') { s with toks := k }) : wpAny (model prog w) A (binaryOp .Mult (.str y t) (.int n u)) Q E s := by
  subst hy
  refine SB.mul (mulOk_of 1 100 (by simp [SL, Str.length]) (by omega) (by omega) (by decide) (by decide)) (fun t' k => ?_)
  have e : Txt.mul (SL [c]) n = SL (List.replicate n.toNat c) := by
    have key : ∀ m : Nat, ∀ acc : Array Nat, (List.replicate m (SL [c]).cps).foldl (· ++ ·) acc = acc ++ (List.replicate m c).toArray := by
      intro m
      induction m with
      | zero => intro acc; simp
      | succ m ih =>
        intro acc
        rw [List.replicate_succ, List.foldl_cons, ih, List.replicate_succ]
        apply Array.toList_inj.mp
        simp [SL]
    unfold Txt.mul
    by_cases hn : n < 1
    · rw [if_pos hn]
      have : n = 0 := by omega
      subst this
      rfl
    · rw [if_neg hn]
      by_cases h1' : n = 1
      · subst h1'
        rfl
      · rw [if_neg (by simp [SL, Str.length, h1']), key]
        simp [SL]
  rw [e]
  exact h t' k
end
end Mine
namespace Mine

section
variable {prog : Program} {w : World} {A : Around} {Q : Flow → Shared → Prop} {h₀ : Heap} {L : Addr} {name : Str} {scope : Scope} {a : Addr} {cd : Value} {s s₀ : Shared}
theorem forRangeN {σ : Type} {x : Str} {body : List Stmt} {r : Addr} {a₀ b₀ : Int} {t₀ u₀ v₀ : Tok} {n : Nat} {m : Str → Option Value} {vs : List (Option Value)} {ns : List Str} {news : List (Addr × Obj)}
    (Led : σ → List (Addr × Obj)) (vals : σ → List (Option Value)) (valsx : σ → Value → List (Option Value)) (P : Nat → σ → Prop) (c₀ : σ) (_ : Marks s₀) (hss : s = { heap := s.heap, gens := s₀.gens, drawn := s₀.drawn, toks := s.toks, os := s₀.os })
    (hh : A.handled = none) (hr : IsRange s.heap r a₀ b₀ 1 t₀ u₀ v₀) (hsmall : Builtin.Range.small a₀ b₀ 1 = true) (hn : Builtin.Range.rangeSize a₀ b₀ 1 = (n : Int))
    (F : Fr h₀ L s.heap m) (N : News h₀ L s.heap news) (R : Rd scope ns vs m) (hN : ∀ p ∈ Led c₀, p ∈ news) (hR : SubAt vs (vals c₀)) (hp₀ : P 0 c₀)
    (hput : ∀ c v, PutAt ns (vals c) x v (valsx c v)) (hcls : ∀ c, ∀ p ∈ Led c, p.2.cls ≠ .type "range_iterator" ∨ p ∈ news)
    (turn : ∀ (i : Nat) (c : σ) (I : Addr) (it : Obj) (t : Tok) (h : Heap) (tk : Nat) (m' : Str → Option Value), i < n → P i c → it.cls = .type "range_iterator" → (∀ p ∈ Led c, p.1 ≠ I) → Fr h₀ L h m' → News h₀ L h (Led c ++ [(I, it)]) → Rd scope ns (valsx c (.int (a₀ + (i : Int)) t)) m' →
      wpAny (model prog w) A (execs body (envOf name scope L a cd)) (FPost h₀ L s₀ scope ns Led [(I, it)] vals (P (i + 1)) Q) (fun _ _ => False) { heap := h, gens := s₀.gens, drawn := s₀.drawn, toks := tk, os := s₀.os })
    (done : ∀ (c : σ) (h : Heap) (tk : Nat) (m' : Str → Option Value), P n c → Fr h₀ L h m' → News h₀ L h (Led c) → Rd scope ns (vals c) m' → Q .next { heap := h, gens := s₀.gens, drawn := s₀.drawn, toks := tk, os := s₀.os }) :
    wpAny (model prog w) A (pyIter (.ref r)) (fun it s₂ => LoopAtV prog w A h₀ (envOf name scope L a cd) x body Q (fun _ _ => False) it s₂) (fun _ _ => False) s := by
  refine wpAny_pyIter_range hr hsmall ?_
  have W : Walks prog w A s.heap.objs.size [s.heap.objs.size] [s.heap.objs.size] n (fun i v => ∃ t, v = .int (a₀ + i * 1) t) (fun i h => IsRangeIter h s.heap.objs.size (a₀ + (i : Nat) * 1) ((n : Int) - (i : Nat)) 1) := Walks.range hh _ a₀ 1 n
  have hI : h₀.get? s.heap.objs.size = none := by
    cases q : h₀.get? s.heap.objs.size with
    | none => rfl
    | some o => exact absurd (Heap.lt_size (F.keep _ _ q)) (Nat.lt_irrefl _)
  have hLI : L ≠ s.heap.objs.size := Nat.ne_of_lt F.ns.lt
  have push : ∀ b o, s.heap.get? b = some o → (s.heap.push { cls := .type "range_iterator", data := .fields #[rawInt a₀, rawInt (Builtin.Range.rangeSize a₀ b₀ 1), rawInt 1] }).get? b = some o := fun b o e => Heap.get?_push_of_some _ e
  refine ⟨s.heap.objs.size, _, _, n, _, _, m, Led c₀, fun i m₁ nx => ∃ c, nx = Led c ∧ Rd scope ns (vals c) m₁ ∧ P i c, rfl, W, ?_, ?_, ?_, ?_, F.push _, fun p hp => ⟨push _ _ (N p (hN p hp)).1, (N p (hN p hp)).2⟩, ⟨c₀, rfl, R.sub hR, hp₀⟩, ?_, ?_⟩
  · intro e
    exact hLI (List.mem_singleton.mp e)
  · intro b hb
    rw [List.mem_singleton.mp hb]
    exact hI
  · intro p hp hq
    have := (N p (hN p hp)).1
    rw [List.mem_singleton.mp hq] at this
    exact absurd (Heap.lt_size this) (Nat.lt_irrefl _)
  · show IsRangeIter _ _ _ _ _
    rw [hn]
    simpa using Heap.get?_push_size _ rfl
  · rintro i v m₁ nx s₁ own ⟨h, tk, rfl⟩ hi ⟨t, rfl⟩ ⟨c, rfl, R₁, hp⟩ hnw hof hog hon hst F₁ N₁
    obtain ⟨itO, hst', hcl⟩ : ∃ o : Obj, h.get? s.heap.objs.size = some o ∧ o.cls = .type "range_iterator" := ⟨_, hst, rfl⟩
    have hit : (s.heap.objs.size, itO) ∈ own := hon _ (List.mem_singleton.mpr rfl) hI _ hst'
    have hne : ∀ p ∈ Led c, p.1 ≠ s.heap.objs.size := fun p hp e => hnw p hp (List.mem_singleton.mpr e)
    have e1 : a₀ + (i : Int) * 1 = a₀ + (i : Int) := by omega
    rw [e1] at F₁
    have N₂ : News h₀ L h (Led c ++ [(s.heap.objs.size, itO)]) := fun p hp => by
      rcases List.mem_append.mp hp with hp | hp
      · exact N₁ p (List.mem_append.mpr (.inr hp))
      · rw [List.mem_singleton.mp hp]
        exact N₁ _ (List.mem_append.mpr (.inl hit))
    have R₂ := R₁.put (hput c (.int (a₀ + (i : Int)) t))
    have tn := turn i c _ itO t h tk _ hi hp hcl hne F₁ N₂ R₂
    rw [hss]
    refine wpAny_mono tn (fun f s₂ q => ?_) fun _ _ x => x
    have fin : (∃ (c : σ) (h' : Heap) (tk : Nat) (m' : Str → Option Value), s₂ = { heap := h', gens := s₀.gens, drawn := s₀.drawn, toks := tk, os := s₀.os } ∧ Fr h₀ L h' m' ∧ News h₀ L h' (Led c ++ [(s.heap.objs.size, itO)]) ∧ Rd scope ns (vals c) m' ∧ P (i + 1) c) →
        LoopStepU h₀ L [s.heap.objs.size] own (fun m₁ nx => ∃ c, nx = Led c ∧ Rd scope ns (vals c) m₁ ∧ P (i + 1) c) { heap := h, gens := s₀.gens, drawn := s₀.drawn, toks := tk, os := s₀.os } .next s₂ := by
      rintro ⟨c', h', tk', m', rfl, F', N', R', hp'⟩
      have hIt := N' (s.heap.objs.size, itO) (List.mem_append.mpr (.inr (List.mem_singleton.mpr rfl)))
      refine ⟨rfl, h', tk', m', Led c', rfl, F', fun p hp => ?_, fun p hp hq => ?_, ⟨c', rfl, R', hp'⟩⟩
      · rcases List.mem_append.mp hp with hp | hp
        · have e2 : p.1 = s.heap.objs.size := List.mem_singleton.mp (hof p hp)
          have e3 := hog p hp
          rw [e2] at e3
          have e4 : p.2 = itO := Option.some.inj (e3.symm.trans hst')
          have e5 : p = (s.heap.objs.size, itO) := Prod.ext e2 e4
          rw [e5]
          exact hIt
        · exact N' p (List.mem_append.mpr (.inl hp))
      · have e2 : p.1 = s.heap.objs.size := List.mem_singleton.mp hq
        have e3 := (N' p (List.mem_append.mpr (.inl hp))).1
        rw [e2, hIt.1] at e3
        have e4 := Option.some.inj e3
        rcases hcls c' p hp with hx | hx
        · exact hx (e4 ▸ hcl)
        · exact absurd (Heap.lt_size (N p hx).1) (by rw [e2]; exact Nat.lt_irrefl _)
    cases f with
    | ret v => exact .ret q
    | brk => exact .brk q
    | next => exact .next (fin q)
    | cont => exact .cont (fin q)
  · rintro h tk m' nx F' N' _ ⟨c, rfl, R', hp'⟩
    rw [hss]
    exact done c h tk m' hp' F' N' R'
end
end Mine
namespace Mine
/-- an item of a list that a call gave -/
theorem item_call {prog : Program} {w : World} {A : Around} {E : Value → Shared → Prop} {s : Shared} {value slice : PySem.Expr} {l : Addr} {vs : List Value} {k : Int} {u : Tok} {v : Value} {Q : Value → Shared → Prop}
    (hl : s.heap.IsList l vs.toArray) (h0 : 0 ≤ k) (hfit : k < 2 ^ 63) (hx : vs[k.toNat]? = some v) (h : Q v s)
    (hs : subscripted slice false (.ref l) (.int k u) = operate [.ref l, .int k u] (getItem (.ref l) (.int k u)) := by with_unfolding_all rfl) :
    wpAny (model prog w) A (subscriptTail value slice (.ref l) (.int k u)) Q E s :=
  tail_any hl.typeIs slot_list_getitem.lookup (wpAny_getItem_list hl h0 hfit (by simpa using hx) h) hs
end Mine
namespace Mine
section
variable {prog : Program} {w : World} {A : Around} {E : Value → Shared → Prop} {s : Shared} {Q : Value → Shared → Prop}
theorem sl_beq_nil {c : Nat} {r : List Nat} : (SL (c :: r) == SL []) = false := by
  refine beq_eq_false_iff_ne.mpr fun e => ?_
  have := SL.inj e
  cases this
theorem eq_nil_t {y : Str} {t u : Tok} (hy : y = SL []) (h : Q (.bool true) s) : wpAny (model prog w) A (compareOp .Eq (.str (SL []) t) (.str y u)) Q E s := by
  subst hy
  refine eq_str ?_
  simpa using h
theorem eq_nil_f {c : Nat} {r : List Nat} {y : Str} {t u : Tok} (hy : y = SL []) (h : Q (.bool false) s) : wpAny (model prog w) A (compareOp .Eq (.str (SL (c :: r)) t) (.str y u)) Q E s := by
  subst hy
  refine eq_str ?_
  rw [sl_beq_nil]
  exact h
theorem ne_nil_f {y : Str} {t u : Tok} (hy : y = SL []) (h : Q (.bool false) s) : wpAny (model prog w) A (compareOp .NotEq (.str (SL []) t) (.str y u)) Q E s := by
  subst hy
  refine ne_str ?_
  simpa using h
theorem ne_nil_t {c : Nat} {r : List Nat} {y : Str} {t u : Tok} (hy : y = SL []) (h : Q (.bool true) s) : wpAny (model prog w) A (compareOp .NotEq (.str (SL (c :: r)) t) (.str y u)) Q E s := by
  subst hy
  refine ne_str ?_
  have : (SL (c :: r) != SL []) = true := by
    rw [bne, sl_beq_nil]; rfl
  rw [this]
  exact h
end
theorem lit_emp1 : Str.ofString "" = SL [] := by decide +kernel
end Mine
namespace Mine
/-! loops over a made list -/
theorem names2 {h₀ h : Heap} {L a b : Addr} {o p : Obj} (_ : News h₀ L h [(a, o), (b, p)]) : ∃ x y, x = a ∧ y = b := ⟨_, _, rfl, rfl⟩
theorem list_ne {its : Array Value} {n : Nat} {k : String} (h : "list" ≠ k) : (W.listOf its n).cls ≠ .type k := fun e => h (Value.type.inj e)
section
variable {prog : Program} {w : World} {A : Around} {Q : Flow → Shared → Prop} {h₀ : Heap} {L : Addr} {name : Str} {scope : Scope} {a : Addr} {cd : Value} {s s₀ : Shared}
theorem list_own {l I : Addr} {its : Array Value} {h : Heap} {own : List (Addr × Obj)} (hl : h.IsList l its) (hit : ∃ o : Obj, h.get? I = some o ∧ o.cls = .type "list_iterator")
    (hof : ∀ p ∈ own, p.1 ∈ [I, l]) (hog : ∀ p ∈ own, h.get? p.1 = some p.2) (hon : ∀ b ∈ [I, l], h₀.get? b = none → ∀ o, h.get? b = some o → (b, o) ∈ own) (hI : h₀.get? I = none) (hl0 : h₀.get? l = none) :
    ∃ itO lo : Obj, itO.cls = .type "list_iterator" ∧ h.get? I = some itO ∧ (I, itO) ∈ own ∧ (l, lo) ∈ own ∧ ∀ p ∈ own, p ∈ [(l, lo), (I, itO)] := by
  obtain ⟨itO, h1, h2⟩ := hit
  obtain ⟨lo, h3, _⟩ := hl
  refine ⟨itO, lo, h2, h1, hon I (by simp) hI _ h1, hon l (by simp) hl0 _ h3, fun p hp => ?_⟩
  have e := hog p hp
  rcases List.mem_cons.mp (hof p hp) with h | h
  · rw [h, h1] at e
    have : p = (I, itO) := Prod.ext h (Option.some.inj e).symm
    rw [this]; simp
  · have h := List.mem_singleton.mp h
    rw [h, h3] at e
    have : p = (l, lo) := Prod.ext h (Option.some.inj e).symm
    rw [this]; simp
theorem forListL {σ : Type} {x : Str} {body : List Stmt} {l : Addr} {its : List Value} {k : Nat} {m : Str → Option Value} {vs : List (Option Value)} {ns : List Str} {news : List (Addr × Obj)}
    (Led : σ → List (Addr × Obj)) (vals : σ → List (Option Value)) (valsx : σ → Value → List (Option Value)) (P : Nat → σ → Prop) (c₀ : σ) (_ : Marks s₀) (hss : s = { heap := s.heap, gens := s₀.gens, drawn := s₀.drawn, toks := s.toks, os := s₀.os })
    (hh : A.handled = none) (F : Fr h₀ L s.heap m) (N : News h₀ L s.heap news) (R : Rd scope ns vs m) (hl : (l, W.listOf its.toArray k) ∈ news) (hN : ∀ p ∈ Led c₀, p ∈ news) (hR : SubAt vs (vals c₀)) (hp₀ : P 0 c₀)
    (hput : ∀ c v, PutAt ns (vals c) x v (valsx c v)) (hcls : ∀ i c, P i c → ∀ p ∈ Led c, p.2.cls ≠ .type "list_iterator" ∨ p ∈ news)
    (turn : ∀ (i : Nat) (c : σ) (v : Value) (I : Addr) (it lo : Obj) (h : Heap) (tk : Nat) (m' : Str → Option Value), its[i]? = some v → P i c → it.cls = .type "list_iterator" → (∀ p ∈ Led c, p.1 ≠ I) → Fr h₀ L h m' → News h₀ L h (Led c ++ [(l, lo), (I, it)]) → Rd scope ns (valsx c v) m' →
      wpAny (model prog w) A (execs body (envOf name scope L a cd)) (FPost h₀ L s₀ scope ns Led [(l, lo), (I, it)] vals (P (i + 1)) Q) (fun _ _ => False) { heap := h, gens := s₀.gens, drawn := s₀.drawn, toks := tk, os := s₀.os })
    (done : ∀ (c : σ) (h : Heap) (tk : Nat) (m' : Str → Option Value), P its.length c → Fr h₀ L h m' → News h₀ L h (Led c) → Rd scope ns (vals c) m' → Q .next { heap := h, gens := s₀.gens, drawn := s₀.drawn, toks := tk, os := s₀.os }) :
    wpAny (model prog w) A (pyIter (.ref l)) (fun it s₂ => LoopAtV prog w A h₀ (envOf name scope L a cd) x body Q (fun _ _ => False) it s₂) (fun _ _ => False) s := by
  have hlN := N _ hl
  have hls : s.heap.IsList l its.toArray := PySem.IsL.isList (n := k) hlN.1
  have hlt : l < s.heap.objs.size := Heap.lt_size hlN.1
  refine wpAny_pyIter_list hls ?_
  have WW := Walks.list (prog := prog) (w := w) hh s.heap.objs.size l (Nat.ne_of_lt hlt) its.toArray
  rw [show its.toArray.size = its.length by simp] at WW
  have hI : h₀.get? s.heap.objs.size = none := by
    cases q : h₀.get? s.heap.objs.size with
    | none => rfl
    | some o => exact absurd (Heap.lt_size (F.keep _ _ q)) (Nat.lt_irrefl _)
  have hLI : L ≠ s.heap.objs.size := Nat.ne_of_lt F.ns.lt
  refine ⟨_, _, _, its.length, _, _, m, Led c₀, fun i m₁ nx => ∃ c, nx = Led c ∧ Rd scope ns (vals c) m₁ ∧ P i c, rfl, WW, ?_, ?_, ?_, ⟨⟨_, Heap.get?_push_size _ rfl, rfl, rfl⟩, hls.at fun o e => Heap.get?_push_of_some _ e⟩, F.push _, (fun p hp => ⟨Heap.get?_push_of_some _ (N p (hN p hp)).1, (N p (hN p hp)).2⟩), ⟨c₀, rfl, R.sub hR, hp₀⟩, ?_, ?_⟩
  · intro e
    rcases List.mem_cons.mp e with e | e
    · exact hLI e
    · exact hlN.2.1 (List.mem_singleton.mp e).symm
  · intro b hb
    rw [List.mem_singleton.mp hb]
    exact hI
  · intro p hp hq
    have := (N p (hN p hp)).1
    rw [List.mem_singleton.mp hq] at this
    exact absurd (Heap.lt_size this) (Nat.lt_irrefl _)
  · rintro i v m₁ nx s₁ own ⟨h, tk, rfl⟩ hi hv ⟨c, rfl, R₁, hp⟩ hnw hof hog hon hst F₁ N₁
    have hv : its[i]? = some v := by simpa using hv
    have hst1 : ∃ o : Obj, h.get? s.heap.objs.size = some o ∧ o.cls = .type "list_iterator" := by
      obtain ⟨⟨o, h1, h2, _⟩, _⟩ := hst
      exact ⟨o, h1, h2⟩
    obtain ⟨itO, lo, hcl, hst', hit, hlo, hown⟩ := list_own hst.2 hst1 hof hog hon hI hlN.2.2
    have hne : ∀ p ∈ Led c, p.1 ≠ s.heap.objs.size := fun p hp e => hnw p hp (List.mem_singleton.mpr e)
    have N₂ : News h₀ L h (Led c ++ [(l, lo), (s.heap.objs.size, itO)]) := fun p hp => by
      rcases List.mem_append.mp hp with hp | hp
      · exact N₁ p (List.mem_append.mpr (.inr hp))
      · rcases List.mem_cons.mp hp with rfl | hp
        · exact N₁ _ (List.mem_append.mpr (.inl hlo))
        · rw [List.mem_singleton.mp hp]
          exact N₁ _ (List.mem_append.mpr (.inl hit))
    have R₂ := R₁.put (hput c v)
    have tn := turn i c v _ itO lo h tk _ hv hp hcl hne F₁ N₂ R₂
    rw [hss]
    refine wpAny_mono tn (fun f s₂ q => ?_) fun _ _ x => x
    have fin : (∃ (c : σ) (h' : Heap) (tk : Nat) (m' : Str → Option Value), s₂ = { heap := h', gens := s₀.gens, drawn := s₀.drawn, toks := tk, os := s₀.os } ∧ Fr h₀ L h' m' ∧ News h₀ L h' (Led c ++ [(l, lo), (s.heap.objs.size, itO)]) ∧ Rd scope ns (vals c) m' ∧ P (i + 1) c) →
        LoopStepU h₀ L [s.heap.objs.size] own (fun m₁ nx => ∃ c, nx = Led c ∧ Rd scope ns (vals c) m₁ ∧ P (i + 1) c) { heap := h, gens := s₀.gens, drawn := s₀.drawn, toks := tk, os := s₀.os } .next s₂ := by
      rintro ⟨c', h', tk', m', rfl, F', N', R', hp'⟩
      have hIt := N' (s.heap.objs.size, itO) (List.mem_append.mpr (.inr (by simp)))
      refine ⟨rfl, h', tk', m', Led c', rfl, F', fun p hp => ?_, fun p hp hq => ?_, ⟨c', rfl, R', hp'⟩⟩
      · rcases List.mem_append.mp hp with hp | hp
        · exact N' p (List.mem_append.mpr (.inr (hown p hp)))
        · exact N' p (List.mem_append.mpr (.inl hp))
      · have e2 : p.1 = s.heap.objs.size := List.mem_singleton.mp hq
        have e3 := (N' p (List.mem_append.mpr (.inl hp))).1
        rw [e2, hIt.1] at e3
        have e4 := Option.some.inj e3
        rcases hcls _ c' hp' p hp with hx | hx
        · exact hx (e4 ▸ hcl)
        · exact absurd (Heap.lt_size (N p hx).1) (by rw [e2]; exact Nat.lt_irrefl _)
    cases f with
    | ret v => exact .ret q
    | brk => exact .brk q
    | next => exact .next (fin q)
    | cont => exact .cont (fin q)
  · rintro h tk m' nx F' N' _ ⟨c, rfl, R', hp'⟩
    rw [hss]
    exact done c h tk m' hp' F' N' R'
theorem forT {m : Str → Option Value} {vs : List (Option Value)} {ns : List Str} {elts : List Expr} {kt : Nat} {px pos : Pos} {iter : Expr} {body : List Stmt} (_ : Fr h₀ L s.heap m) (_ : Rd scope ns vs m)
    (h : wpAny (model prog w) A (eval iter (envOf name scope L a cd)) (fun xv s₁ => wpAny (model prog w) A (pyIter xv) (fun it s₂ => LoopAtT prog w A h₀ (envOf name scope L a cd) (.Tuple elts kt px) body Q (fun _ _ => False) it s₂) (fun _ _ => False) s₁) (fun _ _ => False) s)
    (hs : ∀ x, foldedSetIterable iter (envOf name scope L a cd) x = pure x := by intro _; rfl) :
    wpAny (model prog w) A (exec (.For (.Tuple elts kt px) iter body [] pos) (envOf name scope L a cd)) Q (fun _ _ => False) s :=
  For_invT h₀ h hs PassesOwn.never
theorem forListT {σ : Type} {target : Expr} {body : List Stmt} {l : Addr} {its : List Value} {k : Nat} {m : Str → Option Value} {vs : List (Option Value)} {ns : List Str} {news : List (Addr × Obj)}
    (Led : σ → List (Addr × Obj)) (vals : σ → List (Option Value)) (P : Nat → σ → Prop) (c₀ : σ) (_ : Marks s₀) (hss : s = { heap := s.heap, gens := s₀.gens, drawn := s₀.drawn, toks := s.toks, os := s₀.os })
    (hh : A.handled = none) (F : Fr h₀ L s.heap m) (N : News h₀ L s.heap news) (R : Rd scope ns vs m) (hl : (l, W.listOf its.toArray k) ∈ news) (hN : ∀ p ∈ Led c₀, p ∈ news) (hR : SubAt vs (vals c₀)) (hp₀ : P 0 c₀)
    (hcls : ∀ i c, P i c → ∀ p ∈ Led c, p.2.cls ≠ .type "list_iterator" ∨ p ∈ news)
    (turn : ∀ (i : Nat) (c : σ) (v : Value) (I : Addr) (it lo : Obj) (s₁ : Shared) (m' : Str → Option Value), Marks s₁ → its[i]? = some v → P i c → it.cls = .type "list_iterator" → (∀ p ∈ Led c, p.1 ≠ I) → Fr h₀ L s₁.heap m' → News h₀ L s₁.heap (Led c ++ [(l, lo), (I, it)]) → Rd scope ns (vals c) m' →
      wpAny (model prog w) A (assign target (envOf name scope L a cd) v) (fun _ s₃ => wpAny (model prog w) A (execs body (envOf name scope L a cd)) (CPost h₀ L s₁ scope ns (fun c => Led c ++ [(l, lo), (I, it)]) vals (P (i + 1))) (fun _ _ => False) s₃) (fun _ _ => False) s₁)
    (done : ∀ (c : σ) (h : Heap) (tk : Nat) (m' : Str → Option Value), P its.length c → Fr h₀ L h m' → News h₀ L h (Led c) → Rd scope ns (vals c) m' → Q .next { heap := h, gens := s₀.gens, drawn := s₀.drawn, toks := tk, os := s₀.os }) :
    wpAny (model prog w) A (pyIter (.ref l)) (fun it s₂ => LoopAtT prog w A h₀ (envOf name scope L a cd) target body Q (fun _ _ => False) it s₂) (fun _ _ => False) s := by
  have hlN := N _ hl
  have hls : s.heap.IsList l its.toArray := PySem.IsL.isList (n := k) hlN.1
  have hlt : l < s.heap.objs.size := Heap.lt_size hlN.1
  refine wpAny_pyIter_list hls ?_
  have WW := Walks.list (prog := prog) (w := w) hh s.heap.objs.size l (Nat.ne_of_lt hlt) its.toArray
  rw [show its.toArray.size = its.length by simp] at WW
  have hI : h₀.get? s.heap.objs.size = none := by
    cases q : h₀.get? s.heap.objs.size with
    | none => rfl
    | some o => exact absurd (Heap.lt_size (F.keep _ _ q)) (Nat.lt_irrefl _)
  have hLI : L ≠ s.heap.objs.size := Nat.ne_of_lt F.ns.lt
  refine ⟨_, _, _, its.length, _, _, m, Led c₀, fun i m₁ nx => ∃ c, nx = Led c ∧ Rd scope ns (vals c) m₁ ∧ P i c, rfl, WW, ?_, ?_, ?_, ⟨⟨_, Heap.get?_push_size _ rfl, rfl, rfl⟩, hls.at fun o e => Heap.get?_push_of_some _ e⟩, F.push _, (fun p hp => ⟨Heap.get?_push_of_some _ (N p (hN p hp)).1, (N p (hN p hp)).2⟩), (fun i s' v Q' st hQ' => letGo_listiter st.1 hQ'), ⟨c₀, rfl, R.sub hR, hp₀⟩, ?_, ?_⟩
  · intro e
    rcases List.mem_cons.mp e with e | e
    · exact hLI e
    · exact hlN.2.1 (List.mem_singleton.mp e).symm
  · intro b hb
    rw [List.mem_singleton.mp hb]
    exact hI
  · intro p hp hq
    have := (N p (hN p hp)).1
    rw [List.mem_singleton.mp hq] at this
    exact absurd (Heap.lt_size this) (Nat.lt_irrefl _)
  · rintro i v m₁ nx s₁ own hi hv ⟨c, rfl, R₁, hp⟩ hnw hof hog hon hst F₁ N₁
    have hv : its[i]? = some v := by simpa using hv
    have hst1 : ∃ o : Obj, s₁.heap.get? s.heap.objs.size = some o ∧ o.cls = .type "list_iterator" := by
      obtain ⟨⟨o, h1, h2, _⟩, _⟩ := hst
      exact ⟨o, h1, h2⟩
    obtain ⟨itO, lo, hcl, hst', hit, hlo, hown⟩ := list_own hst.2 hst1 hof hog hon hI hlN.2.2
    have hne : ∀ p ∈ Led c, p.1 ≠ s.heap.objs.size := fun p hp e => hnw p hp (List.mem_singleton.mpr e)
    have N₂ : News h₀ L s₁.heap (Led c ++ [(l, lo), (s.heap.objs.size, itO)]) := fun p hp => by
      rcases List.mem_append.mp hp with hp | hp
      · exact N₁ p (List.mem_append.mpr (.inr hp))
      · rcases List.mem_cons.mp hp with rfl | hp
        · exact N₁ _ (List.mem_append.mpr (.inl hlo))
        · rw [List.mem_singleton.mp hp]
          exact N₁ _ (List.mem_append.mpr (.inl hit))
    have tn := turn i c v _ itO lo s₁ _ ⟨⟩ hv hp hcl hne F₁ N₂ R₁
    refine wpAny_mono tn (fun _ s₃ q => wpAny_mono q (fun f s₂ q => ?_) fun _ _ x => x) fun _ _ x => x
    obtain ⟨rfl, c', h', tk', m', rfl, F', N', R', hp'⟩ := q
    have hIt := N' (s.heap.objs.size, itO) (List.mem_append.mpr (.inr (by simp)))
    refine ⟨rfl, h', tk', m', Led c', rfl, F', fun p hp => ?_, fun p hp hq => ?_, ⟨c', rfl, R', hp'⟩⟩
    · rcases List.mem_append.mp hp with hp | hp
      · exact N' p (List.mem_append.mpr (.inr (hown p hp)))
      · exact N' p (List.mem_append.mpr (.inl hp))
    · have e2 : p.1 = s.heap.objs.size := List.mem_singleton.mp hq
      have e3 := (N' p (List.mem_append.mpr (.inl hp))).1
      rw [e2, hIt.1] at e3
      have e4 := Option.some.inj e3
      rcases hcls _ c' hp' p hp with hx | hx
      · exact hx (e4 ▸ hcl)
      · exact absurd (Heap.lt_size (N p hx).1) (by rw [e2]; exact Nat.lt_irrefl _)
  · rintro h tk m' nx F' N' _ ⟨c, rfl, R', hp'⟩
    rw [hss]
    exact done c h tk m' hp' F' N' R'
end
end Mine
namespace Mine
section
variable {prog : Program} {w : World} {A : Around} {E : Value → Shared → Prop} {s : Shared} {h₀ : Heap} {L D : Addr} {m : Str → Option Value} {news rest : List (Addr × Obj)}
theorem take1 (l : List Nat) : Txt.slice (SL l) none (some 1) = SL (l.take 1) := by
  cases l with
  | nil => decide +kernel
  | cons c r =>
    have := eq_of_beq (slice_closes_to (x := SL (c :: r)) (j := 1) ⟨by decide, by simp [SL]; omega⟩)
    rw [this]
    simp [SL]
theorem slice_1 {l : List Nat} {i' : Int} {t ui : Tok} {value slice : PySem.Expr} {Q : Value → Shared → Prop} (hi : i' = 1) (F : Fr h₀ L s.heap m) (N : News h₀ L s.heap news) (hl : l.length ≤ 1000000)
    (h : ∀ h' t' k, Fr h₀ L h' m → News h₀ L h' news → Q (.str (SL (l.take 1)) t') { s with heap := h', toks := k })
    (hs : subscripted slice false (.str (SL l) t) (.ref s.heap.objs.size) = operate [.ref s.heap.objs.size, .str (SL l) t] (getItem (.str (SL l) t) (.ref s.heap.objs.size)) := by with_unfolding_all rfl)
    (ht : ∀ r, letTemporaryGo value (.str (SL l) t) r = pure () := by intro _; with_unfolding_all rfl) :
    wpAny (model prog w) A (subscriptTail value slice (.str (SL l) t) (.ref s.heap.objs.size)) Q E { s with heap := s.heap.push { cls := .type "slice", data := .fields #[.none, .int i' ui, .none] } } := by
  subst hi
  refine slice_strN_ns F N (fun h' t' k F' N' => ?_) hs ht (by rw [SL.length, sizeLine_eq]; omega)
  rw [take1]
  exact h h' t' k F' N'
theorem slice_last2 {l : List Nat} {i' : Int} {t ui : Tok} {value slice : PySem.Expr} {Q : Value → Shared → Prop} (hi : i' = -2) (h2 : 2 ≤ l.length) (F : Fr h₀ L s.heap m) (N : News h₀ L s.heap news) (hl : l.length ≤ 1000000)
    (h : ∀ h' t' k, Fr h₀ L h' m → News h₀ L h' news → Q (.str (SL (l.drop (l.length - 2))) t') { s with heap := h', toks := k })
    (hs : subscripted slice false (.str (SL l) t) (.ref s.heap.objs.size) = operate [.ref s.heap.objs.size, .str (SL l) t] (getItem (.str (SL l) t) (.ref s.heap.objs.size)) := by with_unfolding_all rfl)
    (ht : ∀ r, letTemporaryGo value (.str (SL l) t) r = pure () := by intro _; with_unfolding_all rfl) :
    wpAny (model prog w) A (subscriptTail value slice (.str (SL l) t) (.ref s.heap.objs.size)) Q E { s with heap := s.heap.push { cls := .type "slice", data := .fields #[.int i' ui, .none, .none] } } := by
  subst hi
  refine slice_strN_sn F N (fun h' t' k F' N' => ?_) hs ht (by rw [SL.length, sizeLine_eq]; omega)
  have e : Txt.slice (SL l) (some (-2)) none = SL (l.drop (l.length - 2)) := by
    have := eq_of_beq (slice_closes_from_neg (x := SL l) (i := -2) (a := -2 + (SL l).length) (b := (SL l).length) (by decide) (by rw [SL.length]; omega) rfl rfl)
    rw [this]
    have e2 : (SL l).cps.toList = l := by simp [SL]
    rw [e2, SL.length, show (-2 + (l.length : Int)).toNat = l.length - 2 by omega, List.take_of_length_le (by rw [List.length_drop]; omega)]
    rfl
  rw [e]
  exact h h' t' k F' N'
theorem pow2_e {k : Int} {t u : Tok} {Q : Value → Shared → Prop} (h0 : 0 ≤ k) (h1 : k ≤ 31) (h : ∀ p : Int, 0 < p → p ≤ 2147483648 → Q (.int p s.toks) { s with toks := s.toks + 1 }) : wpAny (model prog w) A (binaryOp .Pow (.int 2 t) (.int k u)) Q E s := by
  refine PyProof.Rows.pow_int_small h0 (by omega) (by decide) (h _ (Int.pow_pos (by decide)) ?_)
  have h2 : 2 ^ k.toNat ≤ 2 ^ 31 := Nat.pow_le_pow_right (by decide) (by omega)
  have h3 : ((2 ^ k.toNat : Nat) : Int) ≤ ((2 ^ 31 : Nat) : Int) := Int.ofNat_le.mpr h2
  rw [Int.natCast_pow, Int.natCast_pow] at h3
  exact h3
theorem call_isdigit0 {t : Tok} {Q : Value → Shared → Prop} (h : Q (.bool false) s) : wpAny (model prog w) A (call (.builtin "str.isdigit") [.str (SL []) t]) Q E s := by
  refine call_meets F.slot_str_isdigit (typeIs_str _ _ _) F.entry_str_isdigit (F.args_str_isdigit_1 _) (gives_str_isdigit (SL []) t).meets ?_
  have e : ((SL []).length > 0 && (SL []).cps.all Unicode.isDigit) = false := by simp [SL, Str.length]
  rw [e]
  exact h
end
end Mine
namespace Mine
/-! law 1: the plain part -/
def Ok1 (p : List Nat) (bs : List (List Int)) (f : List Nat) : Prop := p ≠ [] ∧ ∀ r b, (r = [] ∨ r.head? = f.head?) → Lex r b → Lex (p ++ r) (bs ++ b)
abbrev Piece := List Nat × List (List Int)
def txt (ps : List Piece) : List Nat := (ps.map (·.1)).flatten
def oct (ps : List Piece) : List (List Int) := (ps.map (·.2)).flatten
inductive Chain : List Piece → Prop
  | nil : Chain []
  | cons {p : List Nat} {bs : List (List Int)} {ps : List Piece} : Ok1 p bs (txt ps) → Chain ps → Chain ((p, bs) :: ps)
theorem txt_cons (p : Piece) (ps : List Piece) : txt (p :: ps) = p.1 ++ txt ps := rfl
theorem oct_cons (p : Piece) (ps : List Piece) : oct (p :: ps) = p.2 ++ oct ps := rfl
theorem Chain.lex {ps : List Piece} (h : Chain ps) : Lex (txt ps) (oct ps) := by
  induction h with
  | nil => exact .nil
  | cons h _ ih => exact h.2 _ _ (.inr rfl) ih
theorem Chain.take {ps : List Piece} (h : Chain ps) : ∀ k, Chain (ps.take k) := by
  induction h with
  | nil => intro k; rw [List.take_nil]; exact .nil
  | cons h hc ih =>
    rename_i p bs ps
    intro k
    cases k with
    | zero => exact .nil
    | succ k =>
      rw [List.take_succ_cons]
      refine .cons ⟨h.1, fun r b hr hl => ?_⟩ (ih k)
      refine h.2 r b ?_ hl
      rcases hr with hr | hr
      · exact .inl hr
      · cases hc with
        | nil =>
          rw [List.take_nil] at hr
          exact .inr hr
        | cons h2 _ =>
          rename_i q cs qs _
          cases k with
          | zero =>
            left
            cases r with
            | nil => rfl
            | cons x r => simp [txt] at hr
          | succ k =>
            right
            rw [hr, List.take_succ_cons, txt_cons, txt_cons]
            have := h2.1
            dsimp only
            cases q with
            | nil => exact absurd rfl this
            | cons x q => rfl
theorem Chain.drop {ps : List Piece} (h : Chain ps) : ∀ k, Chain (ps.drop k) := by
  induction h with
  | nil => intro k; rw [List.drop_nil]; exact .nil
  | cons h hc ih =>
    intro k
    cases k with
    | zero => exact .cons h hc
    | succ k => exact ih k
theorem txt_cut (ps : List Piece) (k : Nat) : txt (ps.take k) ++ txt (ps.drop k) = txt ps := by
  unfold txt
  rw [← List.flatten_append, ← List.map_append, List.take_append_drop]
theorem oct_cut (ps : List Piece) (k : Nat) : oct (ps.take k) ++ oct (ps.drop k) = oct ps := by
  unfold oct
  rw [← List.flatten_append, ← List.map_append, List.take_append_drop]
theorem o8_byte {n : Int} (h : n < 128) : O8 n = [n] := by simp [O8, h]
theorem o8_len1 (n : Int) : (O8 n).length ≤ 6 := by
  unfold O8
  repeat' split
  all_goals simp
theorem head_dig {r f : List Nat} (h : r = [] ∨ r.head? = f.head?) (hf : digitHead f = false) : digitHead r = false := by
  cases r with
  | nil => rfl
  | cons c r =>
    rcases h with h | h
    · cases h
    · cases f with
      | nil => simp at h
      | cons d f =>
        have : c = d := by simpa using h
        subst this
        exact hf
theorem head_white {r f : List Nat} (h : r = [] ∨ r.head? = f.head?) (hf : whiteHead f = false) : whiteHead r = false := by
  cases r with
  | nil => rfl
  | cons c r =>
    rcases h with h | h
    · cases h
    · cases f with
      | nil => simp at h
      | cons d f =>
        have : c = d := by simpa using h
        subst this
        exact hf
theorem ok_plain {c : Nat} {f : List Nat} (h1 : c ≠ 92) (h2 : c < 1114112) (h3 : Str.isSurrogate c = false) : Ok1 [c] [O8 c] f := ⟨by simp, fun _ _ _ h => .plain h1 h2 h3 h⟩
theorem ok_short {e : Nat} {v : Int} {f : List Nat} (h : (e, v) ∈ shortTab) : Ok1 [92, e] [[v]] f := ⟨by simp, fun _ _ _ x => .short h x⟩
theorem ok_hex {a b : Nat} {n : Int} {f : List Nat} (ha : isHex a = true) (hb : isHex b = true) (hn : (hexV [a, b] : Int) = n) (h128 : n < 128) : Ok1 [92, 120, a, b] [[n]] f := ⟨by simp, fun _ _ _ x => by
  have := Lex.hex ha hb x
  rw [hn, o8_byte h128] at this
  exact this⟩
theorem ok_dec {ds : List Nat} {n : Int} {f : List Nat} (hd : ∀ c ∈ ds, isDec c = true) (hne : ds ≠ []) (hl : ds.length ≤ 3) (hf : ds.length = 3 ∨ digitHead f = false) (hn : (decV ds : Int) = n) (h128 : n < 128) : Ok1 (92 :: ds) [[n]] f :=
  ⟨by simp, fun r b hr x => by
    subst hn
    match ds, hd, hne, hl, hf with
    | [a], hd, _, _, hf =>
      have := Lex.dec1 (hd a (by simp)) (head_dig hr (hf.resolve_left (by simp))) x
      rw [o8_byte h128] at this
      exact this
    | [a, c], hd, _, _, hf =>
      have := Lex.dec2 (hd a (by simp)) (hd c (by simp)) (head_dig hr (hf.resolve_left (by simp))) x
      rw [o8_byte h128] at this
      exact this
    | [a, c, d], hd, _, _, hf =>
      have := Lex.dec3 (hd a (by simp)) (hd c (by simp)) (hd d (by simp)) x
      rw [o8_byte h128] at this
      exact this
    | [], _, hne, _, _ => exact absurd rfl hne
    | _ :: _ :: _ :: _ :: _, _, _, hl, _ => simp at hl⟩
theorem ok_uni {hs : List Nat} {n : Int} {f : List Nat} (hh : ∀ c ∈ hs, isHex c = true) (hne : hs ≠ []) (hl : hs.length ≤ 100) (hn : (hexV hs : Int) = n) (hm : n ≤ 2147483647) : Ok1 (92 :: 117 :: 123 :: (hs ++ [125])) [O8 n] f :=
  ⟨by simp, fun r b _ x => by
    subst hn
    have := Lex.uni hne hh hl (by omega) x
    simpa using this⟩
theorem ok_gap {ws f : List Nat} (hw : ∀ c ∈ ws, white c = true) (hf : whiteHead f = false) : Ok1 (92 :: 122 :: ws) [] f :=
  ⟨by simp, fun r b hr x => by
    have := Lex.gap hw (head_white hr hf) x
    simpa using this⟩

/-! the hex digits that a number has -/
theorem hexV_cons1 (c : Nat) (r : List Nat) : hexV (c :: r) = hexD c * 16 ^ r.length + hexV r := by
  have key : ∀ (r : List Nat) (a : Nat), r.foldl (fun a d => a * 16 + hexD d) a = a * 16 ^ r.length + r.foldl (fun a d => a * 16 + hexD d) 0 := by
    intro r
    induction r with
    | nil => intro a; simp
    | cons d r ih =>
      intro a
      rw [List.foldl_cons, List.foldl_cons, ih, ih (0 * 16 + hexD d), List.length_cons, Nat.pow_succ]
      rw [Nat.add_mul, Nat.zero_mul, Nat.zero_add, Nat.mul_assoc, Nat.mul_comm 16]
      omega
  show (c :: r).foldl _ 0 = _
  rw [List.foldl_cons, key]
  simp [hexV]
def HexOf (n : Int) (hs : List Nat) : Prop := hs ≠ [] ∧ (∀ c ∈ hs, isHex c = true) ∧ (hexV hs : Int) = n ∧ (hs.length ≤ 1 ∨ (16 : Int) ^ (hs.length - 1) ≤ n)
/-- half told: n is left of n0 -/
def HexTo (n0 n : Int) (hs : List Nat) : Prop := 0 ≤ n ∧ (∀ c ∈ hs, isHex c = true) ∧ n * 16 ^ hs.length + (hexV hs : Int) = n0 ∧ (hs.length ≤ 1 ∨ (16 : Int) ^ (hs.length - 1) ≤ n0)
theorem HexTo.start {n : Int} (h : 0 ≤ n) : HexTo n n [] := ⟨h, (fun _ h => nomatch h), by simp [hexV], .inl (by simp)⟩
theorem HexTo.done {n0 : Int} {hs : List Nat} (h : HexTo n0 0 hs) (hne : hs ≠ []) : HexOf n0 hs := ⟨hne, h.2.1, by have := h.2.2.1; rw [Int.zero_mul] at this; omega, h.2.2.2⟩
theorem HexTo.more {n0 n : Int} {hs : List Nat} {c : Nat} (h : HexTo n0 n hs) (hc : isHex c = true) (hd : (hexD c : Int) = n % 16) (hp : n > 0 ∨ hs = []) : HexTo n0 (n / 16) (c :: hs) := by
  obtain ⟨h0, h1, h2, h3⟩ := h
  refine ⟨by omega, ?_, ?_, ?_⟩
  · intro x hx
    rcases List.mem_cons.mp hx with rfl | hx
    · exact hc
    · exact h1 x hx
  · rw [hexV_cons1, List.length_cons]
    push_cast
    rw [hd, Int.pow_succ, ← h2]
    have e : n / 16 * (16 ^ hs.length * 16) = (n / 16 * 16) * 16 ^ hs.length := by
      rw [Int.mul_comm ((16 : Int) ^ hs.length) 16, Int.mul_assoc]
    rw [e, ← Int.add_assoc, ← Int.add_mul]
    congr 2
    omega
  · rcases hp with hp | hp
    · right
      rw [List.length_cons, Nat.add_sub_cancel]
      have h16 : (0 : Int) < 16 ^ hs.length := Int.pow_pos (by decide)
      have h5 : 1 * (16 : Int) ^ hs.length ≤ n * 16 ^ hs.length := Int.mul_le_mul_of_nonneg_right (by omega) (by omega)
      omega
    · left
      subst hp
      simp
theorem HexOf.len {n : Int} {hs : List Nat} (h : HexOf n hs) {k : Nat} (hk : 1 ≤ k) (hn : n < 16 ^ k) : hs.length ≤ k := by
  rcases h.2.2.2 with h | h
  · omega
  · by_cases hl : hs.length ≤ k
    · exact hl
    · have h2 : 16 ^ k ≤ 16 ^ (hs.length - 1) := Nat.pow_le_pow_right (by decide) (by omega)
      have h3 : ((16 ^ k : Nat) : Int) ≤ ((16 ^ (hs.length - 1) : Nat) : Int) := Int.ofNat_le.mpr h2
      push_cast at h3
      omega
theorem HexTo.len {n0 n : Int} {hs : List Nat} (h : HexTo n0 n hs) {k : Nat} (hk : 1 ≤ k) (hn : n0 < 16 ^ k) : hs.length ≤ k := by
  rcases h.2.2.2 with h | h
  · omega
  · by_cases hl : hs.length ≤ k
    · exact hl
    · have h2 : 16 ^ k ≤ 16 ^ (hs.length - 1) := Nat.pow_le_pow_right (by decide) (by omega)
      have h3 : ((16 ^ k : Nat) : Int) ≤ ((16 ^ (hs.length - 1) : Nat) : Int) := Int.ofNat_le.mpr h2
      push_cast at h3
      omega
theorem hexV_zeros (k : Nat) (hs : List Nat) : hexV (List.replicate k 48 ++ hs) = hexV hs := by
  induction k with
  | zero => rfl
  | succ k ih =>
    rw [List.replicate_succ, List.cons_append, hexV_cons1, ih]
    simp [hexD]
theorem isHex48 : isHex 48 = true := rfl
theorem zeros_hex (k : Nat) {hs : List Nat} (h : ∀ c ∈ hs, isHex c = true) : ∀ c ∈ List.replicate k 48 ++ hs, isHex c = true := by
  intro c hc
  rcases List.mem_append.mp hc with hc | hc
  · rw [(List.mem_replicate.mp hc).2]; rfl
  · exact h c hc
/-- the last two of 0 and the digits of a small number -/
theorem hex_two {n : Int} {hs : List Nat} (h : HexOf n hs) (h1 : n < 128) : ∃ a b, (48 :: hs).drop ((48 :: hs).length - 2) = [a, b] ∧ isHex a = true ∧ isHex b = true ∧ (hexV [a, b] : Int) = n := by
  have hl := h.len (k := 2) (by decide) (by omega)
  obtain ⟨hne, hh, hv, _⟩ := h
  match hs, hne, hl, hh, hv with
  | [a], _, _, hh, hv => exact ⟨48, a, rfl, rfl, hh a (by simp), by rw [← hv, show ([48, a] : List Nat) = List.replicate 1 48 ++ [a] from rfl, hexV_zeros]⟩
  | [a, b], _, _, hh, hv => exact ⟨a, b, rfl, hh a (by simp), hh b (by simp), hv⟩
  | [], hne, _, _, _ => exact absurd rfl hne
  | _ :: _ :: _ :: _, _, hl, _, _ => simp at hl

/-! the octets, by the text of the law -/
theorem decV_zeros (ds : List Nat) : decV (48 :: ds) = decV ds := rfl
/-- the turns of the law's loop: number, room, told -/
def octTurn (n0 : Int) : Nat → Int × Int × List Int
  | 0 => (n0, 64, [])
  | 1 => (n0 / 64, 32, [128 + n0 % 64])
  | 2 => (n0 / 64 / 64, 16, [128 + n0 / 64 % 64, 128 + n0 % 64])
  | 3 => (n0 / 64 / 64 / 64, 8, [128 + n0 / 64 / 64 % 64, 128 + n0 / 64 % 64, 128 + n0 % 64])
  | 4 => (n0 / 64 / 64 / 64 / 64, 4, [128 + n0 / 64 / 64 / 64 % 64, 128 + n0 / 64 / 64 % 64, 128 + n0 / 64 % 64, 128 + n0 % 64])
  | _ => (n0 / 64 / 64 / 64 / 64 / 64, 2, [128 + n0 / 64 / 64 / 64 / 64 % 64, 128 + n0 / 64 / 64 / 64 % 64, 128 + n0 / 64 / 64 % 64, 128 + n0 / 64 % 64, 128 + n0 % 64])
theorem octTurn_end {n0 : Int} (h0 : 128 ≤ n0) (h1 : n0 ≤ 2147483647) {i : Nat} (hi : i ≤ 5) (hm : i = 0 ∨ (octTurn n0 (i - 1)).2.1 ≤ (octTurn n0 (i - 1)).1) (he : (octTurn n0 i).1 < (octTurn n0 i).2.1) :
    (256 - 2 * (octTurn n0 i).2.1 + (octTurn n0 i).1) :: (octTurn n0 i).2.2 = O8 n0 := by
  have hc : i = 0 ∨ i = 1 ∨ i = 2 ∨ i = 3 ∨ i = 4 ∨ i = 5 := by omega
  unfold O8
  rcases hc with rfl | rfl | rfl | rfl | rfl | rfl
  · simp [octTurn] at he; omega
  · simp [octTurn] at he hm ⊢
    rw [if_neg (by omega), if_pos (by omega)]
  · simp [octTurn] at he hm ⊢
    rw [if_neg (by omega), if_neg (by omega), if_pos (by omega)]
    simp; omega
  · simp [octTurn] at he hm ⊢
    rw [if_neg (by omega), if_neg (by omega), if_neg (by omega), if_pos (by omega)]
    simp; omega
  · simp [octTurn] at he hm ⊢
    rw [if_neg (by omega), if_neg (by omega), if_neg (by omega), if_neg (by omega), if_pos (by omega)]
    simp; omega
  · simp [octTurn] at he hm ⊢
    rw [if_neg (by omega), if_neg (by omega), if_neg (by omega), if_neg (by omega), if_neg (by omega)]
    simp; omega
theorem octTurn_stop {n0 : Int} (h1 : n0 ≤ 2147483647) : (octTurn n0 5).1 < (octTurn n0 5).2.1 := by
  simp [octTurn]; omega
theorem octTurn_next (n0 : Int) {i : Nat} (hi : i < 5) : octTurn n0 (i + 1) = ((octTurn n0 i).1 / 64, (if (octTurn n0 i).2.1 < 64 then (octTurn n0 i).2.1 / 2 else 32), (128 + (octTurn n0 i).1 % 64) :: (octTurn n0 i).2.2) := by
  have hc : i = 0 ∨ i = 1 ∨ i = 2 ∨ i = 3 ∨ i = 4 := by omega
  rcases hc with rfl | rfl | rfl | rfl | rfl <;> rfl
theorem octTurn_room (n0 : Int) {i : Nat} (hi : i ≤ 5) : 2 ≤ (octTurn n0 i).2.1 ∧ (octTurn n0 i).2.1 ≤ 64 ∧ (octTurn n0 i).2.2.length = i := by
  have hc : i = 0 ∨ i = 1 ∨ i = 2 ∨ i = 3 ∨ i = 4 ∨ i = 5 := by omega
  rcases hc with rfl | rfl | rfl | rfl | rfl | rfl <;> exact ⟨by simp [octTurn], by simp [octTurn], rfl⟩
end Mine
namespace Mine
open_top top1 for PySem.Challenge.rw_fz0005_01
end Mine
namespace Mine

abbrev Prog1 : Program := PySem.Challenge.rw_fz0005_01.prog
abbrev PureCall1 (kd ku : Nat) (f : Addr) (vs : List Value) (R : Tok → Value) : Prop :=
  ∀ (w : World) (p : Program) (loose : List Str) (mean : ExcName → Option Value) (mg mb : Str → Option Value)
    (dp un : Nat) (fr : Option (List Env)) (gd : Option (List Code)) (s : Shared) (Q E : Value → Shared → Prop),
    (Mine.top1.heap_39 w.params).In s.heap → Top p loose mean mg mb s.heap → dp + kd < recursionLimit → un + ku < cLine →
    (∀ t h' tk', Kept s.heap h' → Q (R t) { s with heap := h', toks := tk' }) →
      wpAny (model Prog1 w) (At dp fr gd un) (call (.ref f) vs) Q E s

abbrev FreshCall1 (kd ku : Nat) (f : Addr) (vs : List Value) (heapOk : Heap → Prop) (R : List Int) : Prop :=
  ∀ (w : World) (p : Program) (loose : List Str) (mean : ExcName → Option Value) (mg mb : Str → Option Value)
    (dp un : Nat) (fr : Option (List Env)) (gd : Option (List Code)) (s : Shared) (Q E : Value → Shared → Prop),
    (Mine.top1.heap_39 w.params).In s.heap → Top p loose mean mg mb s.heap → dp + kd < recursionLimit → un + ku < cLine → heapOk s.heap →
    (∀ (a : Addr) (us : List Value) (k : Nat) (h' : Heap) (tk' : Nat), IntsAre us R → h'.get? a = some (W.listOf us.toArray k) → s.heap.get? a = none → Kept s.heap h' → Q (.ref a) { s with heap := h', toks := tk' }) →
      wpAny (model Prog1 w) (At dp fr gd un) (call (.ref f) vs) Q E s

end Mine
namespace Mine

local macro_rules | `(tactic| walk_at "own at") => `(tactic| with_reducible (repeat (first | exact InAt.here | apply InAt.there)))
local macro_rules | `(tactic| walk_at "own put") => `(tactic| with_reducible (repeat (first | exact PutAt.here | apply PutAt.there)))
local macro_rules | `(tactic| walk_at "own sub") => `(tactic| first | exact SubAt.nil | (refine SubAt.keep ?_; walk_at "own sub") | (refine SubAt.drop ?_; walk_at "own sub"))
local macro_rules | `(tactic| walk_at "Back") => `(tactic| ((try dsimp only); (refine Back.of (Stop.of ?_))))
local macro_rules | `(tactic| walk_at "exec While") => `(tactic| refine Stop.of ?_)
local macro_rules | `(tactic| walk_at "exec While Compare") => `(tactic| refine Stop.of ?_)
local macro_rules | `(tactic| walk_at "exec While Compare cons nil") => `(tactic| refine Stop.of ?_)
local macro_rules | `(tactic| walk_at "exec While BoolOp") => `(tactic| refine Stop.of ?_)
local macro_rules | `(tactic| walk_at "exec While BoolOp cons nil") => `(tactic| refine Stop.of ?_)
local macro_rules | `(tactic| walk_at "exec While Compare cons") => `(tactic| refine Stop.of ?_)
local macro_rules | `(tactic| walk_at "exec While BoolOp cons") => `(tactic| refine Stop.of ?_)
local macro_rules | `(tactic| walk_at "exec For") => `(tactic| refine Stop.of ?_)
local macro_rules | `(tactic| walk_at "exec For Name") => `(tactic| refine Stop.of ?_)
local macro_rules | `(tactic| walk_at "exec For Name Call") => `(tactic| refine Stop.of ?_)
local macro_rules | `(tactic| walk_at "exec For Name Call cons nil") => `(tactic| refine Stop.of ?_)
local macro_rules | `(tactic| walk_at "exec For Name Name") => `(tactic| refine Stop.of ?_)
local macro_rules | `(tactic| walk_at "exec For Name Name cons nil") => `(tactic| refine Stop.of ?_)
local macro_rules | `(tactic| walk_at "exec For Name Subscript") => `(tactic| refine Stop.of ?_)
local macro_rules | `(tactic| walk_at "exec For Name Subscript cons nil") => `(tactic| refine Stop.of ?_)
local macro_rules | `(tactic| walk_at "exec For Tuple") => `(tactic| refine Stop.of ?_)
local macro_rules | `(tactic| walk_at "exec For Tuple Name") => `(tactic| refine Stop.of ?_)
local macro_rules | `(tactic| walk_at "exec For Tuple Name cons nil") => `(tactic| refine Stop.of ?_)
local macro_rules | `(tactic| walk_at "exec For Name Call cons") => `(tactic| refine Stop.of ?_)
local macro_rules | `(tactic| walk_at "exec For Name Subscript cons") => `(tactic| refine Stop.of ?_)
local macro_rules | `(tactic| walk_at "exec For Tuple Name cons") => `(tactic| refine Stop.of ?_)
local macro_rules | `(tactic| walk_at "WPost") => `(tactic| refine Stop.of ?_)
local macro_rules | `(tactic| walk_at "execs cons") => `(tactic| k_dflt ((refine' execs_mk ?mk ?hs ?he ?_; (case mk => assumption); (case hs => exact rfl); (case he => exact rfl)); intro tkx))
local macro_rules | `(tactic| walk_at "execs nil") => `(tactic| refine wpAny_execs_nil ?_)
local macro_rules | `(tactic| walk_at "exec Assign") => `(tactic| refine wpAny_Assign_Name ?_)
local macro_rules | `(tactic| walk_at "exec If") => `(tactic| refine wpAny_If ?_)
local macro_rules | `(tactic| walk_at "storeName") => `(tactic| k_dflt ((rename Fr _ _ _ _ => F0); (rename News _ _ _ _ => N0); (rename Rd _ _ _ _ => R0); (refine' stM F0 N0 R0 ?mk ?hs ?hv ?_; (case mk => assumption); (case hs => exact rfl); (case hv => with_reducible (repeat (first | exact PutAt.here | apply PutAt.there)))); clear F0 N0 R0; intro h1 m1 tk1 F1 N1 R1))
local macro_rules | `(tactic| walk_at "own room") => `(tactic| first | omega | (dsimp only [At, Around.deeper, Around.in1]; omega))
local macro_rules | `(tactic| walk_at "ite") => `(tactic| first
  | refine ite_t rfl ?_ | refine ite_f bool_f ?_
  | refine ite_t (dec_t (by omega)) ?_ | refine ite_f (dec_f (by omega)) ?_ | refine ite_t (by assumption) ?_ | refine ite_f (by assumption) ?_ | fail "own ite: undecided")
local macro_rules | `(tactic| walk_at "And") => `(tactic| (refine And.intro (Frag.In.keeps (by assumption) (Fr.keep (by assumption))) ?_))
local macro_rules | `(tactic| walk_at "eval Name") => `(tactic| k_dflt (first
  | (refine' name_K ?k0 ?k1 ?k2 ?k3 ?_; (case k0 => with_reducible assumption); (case k1 => k_asm); (case k2 => k_asm); (case k3 => k_is))
  | (refine' name_B ?k0 ?k1 ?k2 ?k3 ?k4 ?k5 ?_; (case k0 => with_reducible assumption); (case k1 => k_asm); (case k2 => k_asm); (case k3 => k_is); (case k4 => boot_by_name); (case k5 => decide))))
local macro_rules | `(tactic| walk_at "eval Name") => `(tactic| with_reducible (refine' nmR ?cF ?cR ?hv ?_; (case cF => assumption); (case cR => assumption); (case hv => ((repeat (first | exact InAt.here | apply InAt.there)); done))))
local macro_rules | `(tactic| walk_at "loadName") => `(tactic| with_reducible (refine' ldnM ?cF ?cR ?hv ?_; (case cF => assumption); (case cR => assumption); (case hv => ((repeat (first | exact InAt.here | apply InAt.there)); done))))
local macro_rules | `(tactic| walk_at "spliced") => `(tactic| first | refine args1 ?_ | refine args2 ?_)
local macro_rules | `(tactic| walk_at "newList") => `(tactic| ((rename Fr _ _ _ _ => F0); (rename News _ _ _ _ => N0); (k_dflt (refine' newList_K F0 N0 ?_)); clear F0 N0; intro l' h' F' N' l1; (try k_lt l1)))

local macro_rules | `(tactic| walk_at "call type:bytes") => `(tactic| ((with_reducible show wpAny _ _ (call (Value.type "bytes") [Value.ref _]) _ _ _); k_dflt (refine' KBa.make_K ?kbaF ?kbaN ?kbah ?kbal ?kbai ?kbar ?kban ?_; (case kbaF => assumption); (case kbaN => assumption); (case kbah => rfl); (case kbal => is_list); (case kbai => l_ints); (case kban => simp only [List.length_cons, List.length_nil]; decide); (case kbar => ((intro x hx; simp only [List.mem_cons, List.not_mem_nil, or_false] at hx; constructor <;> omega)))); intro _ _ _ F' N' kbaIn))
local macro_rules | `(tactic| walk_at "binaryOp RShift int int") => `(tactic| first
  | refine rsh_c 64 (by decide) (by decide) (by decide) ?_ | refine rsh_c 4096 (by decide) (by decide) (by decide) ?_ | refine rsh_c 262144 (by decide) (by decide) (by decide) ?_
  | refine rsh_c 16777216 (by decide) (by decide) (by decide) ?_ | refine rsh_c 1073741824 (by decide) (by decide) (by decide) ?_)
local macro_rules | `(tactic| walk_at "binaryOp BitAnd int int") => `(tactic| refine and_c (PyProof.Rows.bitAnd_m6 _) ?_)
local macro_rules | `(tactic| walk_at "binaryOp BitOr int int") => `(tactic| first
  | refine or_c (bor128 (by omega) (by omega)) ?_ | refine or_c (bor192 (by omega) (by omega)) ?_ | refine or_c (bor224 (by omega) (by omega)) ?_
  | refine or_c (bor240 (by omega) (by omega)) ?_ | refine or_c (bor248 (by omega) (by omega)) ?_ | refine or_c (bor252 (by omega) (by omega)) ?_)

theorem ucs (n : Int) (t : Tok) (hn0 : 0 ≤ n) (hn1 : n ≤ 2147483647) : PureCall1 2 20 21 [.int n t] (fun t => .bytes (byteArr (O8 n)) t) := by
  dsimp only [PureCall1]
  intro w p loose mean mg mb dp un fr gd s Q E X T hd hu hret
  have hfill : PySem.Challenge.rw_fz0005_01 = PySem.Challenge.rw_fz0005_01 ∧ Mine.top1.heap_39 w.params = Mine.top1.heap_39 w.params := ⟨rfl, rfl⟩
  revert hfill
  k_fill
  intro _
  refine' own_call (binds := [(Str.ofString "code_point", .int n t)]) ?k1 ?k2 ?k3 ?k4 ?k5 ?k6 ?k7 ?_ ?k8 ?k9 ?k10 ?k11
  case k1 => assumption
  case k2 => exact Top.nolimit (by assumption)
  case k3 => k_is
  case k4 => k_is
  case k5 => (first | omega | (dsimp only [At, Around.deeper]; omega))
  case k6 => exact BindsTo.of_eq rfl
  case k7 => exact locs rfl
  case k8 => decide
  case k9 => exact rfl
  case k10 => exact rfl
  case k11 => exact rfl
  intro L' h₁ F' N'
  have mkS := Marks.mk (s := s)
  dsimp only [List.reverse, List.reverseAux] at F'
  refine enterR [Str.ofString "code_point"] [none] F' ⟨rfl, by decide +kernel, by decide +kernel, by decide +kernel⟩ rfl ?_
  intro R0
  have R0 := Rd.add R0 (x := Str.ofString "code_point") rfl (.here)
  by_cases h0 : n < 128
  · ((try k_fold); (repeat' walk1))
    refine Stop.to ?_
    refine retB (Q := Q) (s := s) hret ?_ (Kept.of_fr (by assumption))
    unfold O8 byteArr
    rw [if_pos h0]
    try rfl
  by_cases h1 : n < 2048
  · ((try k_fold); (repeat' walk1))
    refine Stop.to ?_
    refine retB (Q := Q) (s := s) hret ?_ (Kept.of_fr (by assumption))
    unfold O8 byteArr
    rw [if_neg h0, if_pos h1]
    try rfl
  by_cases h2 : n < 65536
  · ((try k_fold); (repeat' walk1))
    refine Stop.to ?_
    refine retB (Q := Q) (s := s) hret ?_ (Kept.of_fr (by assumption))
    unfold O8 byteArr
    rw [if_neg h0, if_neg h1, if_pos h2]
    try rfl
  by_cases h3 : n < 2097152
  · ((try k_fold); (repeat' walk1))
    refine Stop.to ?_
    refine retB (Q := Q) (s := s) hret ?_ (Kept.of_fr (by assumption))
    unfold O8 byteArr
    rw [if_neg h0, if_neg h1, if_neg h2, if_pos h3]
    try rfl
  by_cases h4 : n < 67108864
  · ((try k_fold); (repeat' walk1))
    refine Stop.to ?_
    refine retB (Q := Q) (s := s) hret ?_ (Kept.of_fr (by assumption))
    unfold O8 byteArr
    rw [if_neg h0, if_neg h1, if_neg h2, if_neg h3, if_pos h4]
    try rfl
  ((try k_fold); (repeat' walk1))
  refine Stop.to ?_
  refine retB (Q := Q) (s := s) hret ?_ (Kept.of_fr (by assumption))
  unfold O8 byteArr
  rw [if_neg h0, if_neg h1, if_neg h2, if_neg h3, if_neg h4]
  try rfl

end Mine
namespace Mine
theorem lit_92 : Str.ofString "\\" = SL [92] := by decide +kernel
theorem lit_97 : Str.ofString "a" = SL [97] := by decide +kernel
theorem lit_98 : Str.ofString "b" = SL [98] := by decide +kernel
theorem lit_102 : Str.ofString "f" = SL [102] := by decide +kernel
theorem lit_110 : Str.ofString "n" = SL [110] := by decide +kernel
theorem lit_114 : Str.ofString "r" = SL [114] := by decide +kernel
theorem lit_116 : Str.ofString "t" = SL [116] := by decide +kernel
theorem lit_118 : Str.ofString "v" = SL [118] := by decide +kernel
theorem lit_34 : Str.ofString "\"" = SL [34] := by decide +kernel
theorem lit_39 : Str.ofString "'" = SL [39] := by decide +kernel
theorem lit_122 : Str.ofString "z" = SL [122] := by decide +kernel
theorem lit_120 : Str.ofString "x" = SL [120] := by decide +kernel
theorem lit_117 : Str.ofString "u" = SL [117] := by decide +kernel
theorem lit_125 : Str.ofString "}" = SL [125] := by decide +kernel
theorem lit_nil : Str.ofString "" = ⟨#[]⟩ := by decide +kernel

local macro_rules | `(tactic| walk_at "own at") => `(tactic| with_reducible (repeat (first | exact InAt.here | apply InAt.there)))
local macro_rules | `(tactic| walk_at "own put") => `(tactic| with_reducible (repeat (first | exact PutAt.here | apply PutAt.there)))
local macro_rules | `(tactic| walk_at "own sub") => `(tactic| first | exact SubAt.nil | (refine SubAt.keep ?_; walk_at "own sub") | (refine SubAt.drop ?_; walk_at "own sub"))
local macro_rules | `(tactic| walk_at "Back") => `(tactic| ((try dsimp only); (refine Back.of (Stop.of ?_))))
local macro_rules | `(tactic| walk_at "exec While") => `(tactic| refine Stop.of ?_)
local macro_rules | `(tactic| walk_at "exec While Compare") => `(tactic| refine Stop.of ?_)
local macro_rules | `(tactic| walk_at "exec While Compare cons nil") => `(tactic| refine Stop.of ?_)
local macro_rules | `(tactic| walk_at "exec While BoolOp") => `(tactic| refine Stop.of ?_)
local macro_rules | `(tactic| walk_at "exec While BoolOp cons nil") => `(tactic| refine Stop.of ?_)
local macro_rules | `(tactic| walk_at "exec While Compare cons") => `(tactic| refine Stop.of ?_)
local macro_rules | `(tactic| walk_at "exec While BoolOp cons") => `(tactic| refine Stop.of ?_)
local macro_rules | `(tactic| walk_at "exec For") => `(tactic| refine Stop.of ?_)
local macro_rules | `(tactic| walk_at "exec For Name") => `(tactic| refine Stop.of ?_)
local macro_rules | `(tactic| walk_at "exec For Name Call") => `(tactic| refine Stop.of ?_)
local macro_rules | `(tactic| walk_at "exec For Name Call cons nil") => `(tactic| refine Stop.of ?_)
local macro_rules | `(tactic| walk_at "exec For Name Name") => `(tactic| refine Stop.of ?_)
local macro_rules | `(tactic| walk_at "exec For Name Name cons nil") => `(tactic| refine Stop.of ?_)
local macro_rules | `(tactic| walk_at "exec For Name Subscript") => `(tactic| refine Stop.of ?_)
local macro_rules | `(tactic| walk_at "exec For Name Subscript cons nil") => `(tactic| refine Stop.of ?_)
local macro_rules | `(tactic| walk_at "exec For Tuple") => `(tactic| refine Stop.of ?_)
local macro_rules | `(tactic| walk_at "exec For Tuple Name") => `(tactic| refine Stop.of ?_)
local macro_rules | `(tactic| walk_at "exec For Tuple Name cons nil") => `(tactic| refine Stop.of ?_)
local macro_rules | `(tactic| walk_at "exec For Name Call cons") => `(tactic| refine Stop.of ?_)
local macro_rules | `(tactic| walk_at "exec For Name Subscript cons") => `(tactic| refine Stop.of ?_)
local macro_rules | `(tactic| walk_at "exec For Tuple Name cons") => `(tactic| refine Stop.of ?_)
local macro_rules | `(tactic| walk_at "WPost") => `(tactic| refine Stop.of ?_)
local macro_rules | `(tactic| walk_at "execs cons") => `(tactic| k_dflt ((refine' execs_mk ?mk ?hs ?he ?_; (case mk => assumption); (case hs => exact rfl); (case he => exact rfl)); intro tkx))
local macro_rules | `(tactic| walk_at "execs nil") => `(tactic| refine wpAny_execs_nil ?_)
local macro_rules | `(tactic| walk_at "exec Assign") => `(tactic| refine wpAny_Assign_Name ?_)
local macro_rules | `(tactic| walk_at "exec If") => `(tactic| refine wpAny_If ?_)
local macro_rules | `(tactic| walk_at "storeName") => `(tactic| k_dflt ((rename Fr _ _ _ _ => F0); (rename News _ _ _ _ => N0); (rename Rd _ _ _ _ => R0); (refine' stM F0 N0 R0 ?mk ?hs ?hv ?_; (case mk => assumption); (case hs => exact rfl); (case hv => with_reducible (repeat (first | exact PutAt.here | apply PutAt.there)))); clear F0 N0 R0; intro h1 m1 tk1 F1 N1 R1))
local macro_rules | `(tactic| walk_at "own room") => `(tactic| first | omega | (dsimp only [At, Around.deeper, Around.in1]; omega))
local macro_rules | `(tactic| walk_at "ite") => `(tactic| first
  | refine ite_t rfl ?_ | refine ite_f bool_f ?_
  | refine ite_t (dec_t (by omega)) ?_ | refine ite_f (dec_f (by omega)) ?_ | refine ite_t (by assumption) ?_ | refine ite_f (by assumption) ?_ | fail "own ite: undecided")
local macro_rules | `(tactic| walk_at "And") => `(tactic| (refine And.intro (Frag.In.keeps (by assumption) (Fr.keep (by assumption))) ?_))
local macro_rules | `(tactic| walk_at "eval Name") => `(tactic| k_dflt (first
  | (refine' name_K ?k0 ?k1 ?k2 ?k3 ?_; (case k0 => with_reducible assumption); (case k1 => k_asm); (case k2 => k_asm); (case k3 => k_is))
  | (refine' name_B ?k0 ?k1 ?k2 ?k3 ?k4 ?k5 ?_; (case k0 => with_reducible assumption); (case k1 => k_asm); (case k2 => k_asm); (case k3 => k_is); (case k4 => boot_by_name); (case k5 => decide))))
local macro_rules | `(tactic| walk_at "eval Name") => `(tactic| with_reducible (refine' nmR ?cF ?cR ?hv ?_; (case cF => assumption); (case cR => assumption); (case hv => ((repeat (first | exact InAt.here | apply InAt.there)); done))))
local macro_rules | `(tactic| walk_at "loadName") => `(tactic| with_reducible (refine' ldnM ?cF ?cR ?hv ?_; (case cF => assumption); (case cR => assumption); (case hv => ((repeat (first | exact InAt.here | apply InAt.there)); done))))
local macro_rules | `(tactic| walk_at "spliced") => `(tactic| first | refine args1 ?_ | refine args2 ?_)
local macro_rules | `(tactic| walk_at "newList") => `(tactic| ((rename Fr _ _ _ _ => F0); (rename News _ _ _ _ => N0); (k_dflt (refine' newList_K F0 N0 ?_)); clear F0 N0; intro l' h' F' N' l1; (try k_lt l1)))

local macro_rules | `(tactic| walk_at "compareOp Eq str str") => `(tactic| (first | refine eqs (b := false) (by first | exact lit_92 | exact lit_97 | exact lit_98 | exact lit_102 | exact lit_110 | exact lit_114 | exact lit_116 | exact lit_118 | exact lit_34 | exact lit_39 | exact lit_122 | exact lit_120 | exact lit_117 | exact lit_125) (beq_eq_false_iff_ne.mpr (by omega)) ?_ | refine eqs (b := true) (by first | exact lit_92 | exact lit_97 | exact lit_98 | exact lit_102 | exact lit_110 | exact lit_114 | exact lit_116 | exact lit_118 | exact lit_34 | exact lit_39 | exact lit_122 | exact lit_120 | exact lit_117 | exact lit_125) (beq_iff_eq.mpr (by omega)) ?_ | fail "eqs"))
local macro_rules | `(tactic| walk_at "compareOp NotEq str str") => `(tactic| (first | refine nes (b := false) (by first | exact lit_92 | exact lit_97 | exact lit_98 | exact lit_102 | exact lit_110 | exact lit_114 | exact lit_116 | exact lit_118 | exact lit_34 | exact lit_39 | exact lit_122 | exact lit_120 | exact lit_117 | exact lit_125) (beq_eq_false_iff_ne.mpr (by omega)) ?_ | refine nes (b := true) (by first | exact lit_92 | exact lit_97 | exact lit_98 | exact lit_102 | exact lit_110 | exact lit_114 | exact lit_116 | exact lit_118 | exact lit_34 | exact lit_39 | exact lit_122 | exact lit_120 | exact lit_117 | exact lit_125) (beq_iff_eq.mpr (by omega)) ?_ | fail "nes"))
local macro_rules | `(tactic| walk_at "subscriptTail Name Name str int") => `(tactic| (refine item_sl (by assumption) (by omega) ?_))
local macro_rules | `(tactic| walk_at "subscriptTail Name BinOp str int") => `(tactic| (refine item_sl (by assumption) (by omega) ?_))
local macro_rules | `(tactic| walk_at "subscriptTail Name Slice str ref") => `(tactic| ((rename Fr _ _ _ _ => F9); (rename News _ _ _ _ => N9); (refine slice2 (s := ⟨_, _, _, _, _⟩) (by assumption) (by omega) (by omega) F9 N9 (by omega) ?_); (clear F9 N9); intro _ _ _ F' N'))
local macro_rules | `(tactic| walk_at "call builtin:len") => `(tactic| ((with_reducible show wpAny _ _ (call (Value.builtin "len") [Value.str (SL _) _]) _ _ _); refine len_sl (by omega) ?_))
local macro_rules | `(tactic| walk_at "getMethod str") => `(tactic| (refine get_encode ?_))
local macro_rules | `(tactic| walk_at "getMethod bytes") => `(tactic| (refine get_join ?_))
local macro_rules | `(tactic| walk_at "call builtin:str.encode") => `(tactic| ((refine call_encode (by assumption) (by assumption) ?_); intro _ _))
local macro_rules | `(tactic| walk_at "call builtin:str.isdigit") => `(tactic| (refine call_isdigit (by assumption) ?_))
local macro_rules | `(tactic| walk_at "call builtin:str.isspace") => `(tactic| (refine call_isspace (by assumption) ?_))
local macro_rules | `(tactic| walk_at "call builtin:str.isascii") => `(tactic| (refine call_isascii (by assumption) ?_))
local macro_rules | `(tactic| walk_at "call builtin:bytes.join") => `(tactic| ((refine call_join (by assumption) (by is_list) (by assumption) ?_); intro _ _))
local macro_rules | `(tactic| walk_at "call builtin:str.join") => `(tactic| ((k_dflt (refine' call_sjoin1 lit_nil ?k1 ?k2 ?k3 ?_; (case k2 => is_list); (case k1 => first | assumption | exact .cons _ _ .nil | exact .cons _ _ (.cons _ _ .nil) | exact .cons _ _ (.cons _ _ (.cons _ _ .nil))); (case k3 => first | omega | (simp; done) | (simp; omega)))); intro _ _))
local macro_rules | `(tactic| walk_at "call type:int") => `(tactic| first | refine call_hex (by assumption) (by assumption) (by omega) ?_ | refine call_dec (by assumption) (by assumption) (by omega) ?_)
local macro_rules | `(tactic| walk_at "call builtin:list.append") => `(tactic| (k_dflt (refine' app_K ?k1 ?k2 ?k3 ?kz ?_; (case k1 => assumption); (case k2 => assumption); (case k3 => k_upd); (case kz => first | omega | (simp; done) | (simp; omega))); intro h' F' N'))
local macro_rules | `(tactic| walk_at "call ref") => `(tactic| (k_dflt (refine' ucs _ _ ?k1 ?k2 _ _ _ _ _ _ _ _ _ _ _ _ _ ?k3 ?k4 ?k5 ?k6 ?_; (case k1 => omega); (case k2 => omega); (case k3 => exact Frag.In.keeps (by assumption) (Fr.keep (by assumption))); (case k4 => exact Top.keeps (by assumption) (Fr.keep (by assumption))); (case k5 => walk_at "own room"); (case k6 => walk_at "own room")); intro t' h' tk' kp; (have F' := Kept.fr kp (by assumption)); (have N' := Kept.news kp (by assumption)); clear kp; (try dsimp only)))
local macro_rules | `(tactic| walk_at "own mem") => `(tactic| ((try dsimp only); exact List.forall_mem_cons.mpr ⟨by k_mem, List.forall_mem_nil _⟩))
local macro_rules | `(tactic| walk_at "own mem2") => `(tactic| ((try dsimp only); exact List.forall_mem_cons.mpr ⟨by k_mem, List.forall_mem_cons.mpr ⟨by k_mem, List.forall_mem_nil _⟩⟩))
structure US where
  i : Int
  t : Tok
  vs : List Value
  n : Nat
  r : List Nat
  todo : List (List Int)
  dn : List (List Int)
structure XS where
  i : Int
  t : Tok
  vs : List Value
  n : Nat
  r : List Nat
  cs : List Nat
theorem unesc (l : List Nat) (bs : List (List Int)) (t : Tok) (hlex : Lex l bs) (hl : l.length ≤ 100000) (hz : bs.flatten.length ≤ 100000) (hz2 : bs.length ≤ 100000) : PureCall1 6 60 28 [.str (SL l) t] (fun t => .bytes (byteArr bs.flatten) t) := by
  dsimp only [PureCall1]
  intro w p loose mean mg mb dp un fr gd s Q E X T hd hu hret
  have hfill : PySem.Challenge.rw_fz0005_01 = PySem.Challenge.rw_fz0005_01 ∧ Mine.top1.heap_39 w.params = Mine.top1.heap_39 w.params := ⟨rfl, rfl⟩
  revert hfill
  k_fill
  intro _
  refine' own_call (binds := [(Str.ofString "s", .str (SL l) t)]) ?k1 ?k2 ?k3 ?k4 ?k5 ?k6 ?k7 ?_ ?k8 ?k9 ?k10 ?k11
  case k1 => assumption
  case k2 => exact Top.nolimit (by assumption)
  case k3 => k_is
  case k4 => k_is
  case k5 => (first | omega | (dsimp only [At, Around.deeper]; omega))
  case k6 => exact BindsTo.of_eq rfl
  case k7 => exact locs rfl
  case k8 => decide
  case k9 => exact rfl
  case k10 => exact rfl
  case k11 => exact rfl
  intro L' h₁ F' N'
  have mkS := Marks.mk (s := s)
  dsimp only [List.reverse, List.reverseAux] at F'
  refine enterR [Str.ofString "i", Str.ofString "unescaped_bytes", Str.ofString "s", Str.ofString "char", Str.ofString "escaped_char", Str.ofString "digits", Str.ofString "hex_chars", Str.ofString "hex_code", Str.ofString "num"] [none, none, none, none, none, none, none, none, none] F' ⟨rfl, by decide +kernel, by decide +kernel, by decide +kernel⟩ rfl ?_
  intro R0
  have R0 := Rd.add R0 (x := Str.ofString "s") rfl (.there (.there (.here)))

  ((try k_fold); (repeat' walk1))
  refine Stop.to ?_
  rename Fr _ _ _ _ => F₁
  rename News _ _ _ _ => N₁
  rename Rd _ _ _ _ => R₁
  obtain ⟨lb, hlb⟩ := news_head N₁
  subst hlb
  refine' whileR (σ := US) s (fun c => [(lb, W.listOf c.vs.toArray c.n)]) (fun c => [some (.int c.i c.t), some (.ref lb), some (.str (SL l) t), none, none, none, none, none, none]) (fun c => Sees l c.i c.r ∧ Lex c.r c.todo ∧ BytesAre c.vs c.dn ∧ c.dn ++ c.todo = bs) (fun c => c.r.length) ⟨0, _, [], 0, l, bs, []⟩ F₁ N₁ R₁ (by walk_at "own mem") (by walk_at "own sub") ⟨Sees.start l, hlex, BytesAre.nil, rfl⟩ ?_
  clear F₁ N₁ R₁
  rintro ⟨i, ti, vs, n, r, todo, dn⟩ m' h tk ⟨hS, hx, hb, hd'⟩ F N R
  dsimp only at hS hx hb hd' F N R
  have hvl := vlen hb hd' hz2
  cases hx
  case nil =>
    have hend := hS.end
    have hdn : dn = bs := by simpa using hd'
    subst hdn
    ((try k_fold); (repeat' walk1))
    refine Stop.to ?_
    exact retB (Q := Q) (s := s) hret rfl (Kept.of_fr (by assumption))
  case plain c r bs' hc hc' hs' hx' =>
    have hlt := hS.lt
    have hS1 := hS.tail
    ((try k_fold); (repeat' walk1))
    refine Stop.to ?_
    rename Fr _ _ _ _ => Fe
    rename News _ _ _ _ => Ne
    rename Rd _ _ _ _ => Re
    exact WPost.next (σ := US) ⟨i + 1, _, vs ++ [_], n + 1, r, bs', dn ++ [O8 c]⟩ Fe Ne Re (by walk_at "own mem") (by walk_at "own sub") ⟨hS1, hx', .snoc hb, by simpa using hd'⟩ (by simp; try omega)
  case short e v r bs' hm hx' =>
    have hlt := hS.lt
    have hS1 := hS.tail
    have hS2 := hS1.tail
    simp only [shortTab, List.mem_cons, Prod.mk.injEq, List.not_mem_nil, or_false] at hm
    rcases hm with ⟨rfl, rfl⟩ | ⟨rfl, rfl⟩ | ⟨rfl, rfl⟩ | ⟨rfl, rfl⟩ | ⟨rfl, rfl⟩ | ⟨rfl, rfl⟩ | ⟨rfl, rfl⟩ | ⟨rfl, rfl⟩ | ⟨rfl, rfl⟩ | ⟨rfl, rfl⟩
    · ((try k_fold); (repeat' walk1))
      refine Stop.to ?_
      rename Fr _ _ _ _ => Fe
      rename News _ _ _ _ => Ne
      rename Rd _ _ _ _ => Re
      exact WPost.next (σ := US) ⟨i + 1 + 1, _, vs ++ [_], n + 1, r, bs', dn ++ [[7]]⟩ Fe Ne Re (by walk_at "own mem") (by walk_at "own sub") ⟨hS2, hx', hb.one (by decide), by simpa using hd'⟩ (by simp; try omega)
    · ((try k_fold); (repeat' walk1))
      refine Stop.to ?_
      rename Fr _ _ _ _ => Fe
      rename News _ _ _ _ => Ne
      rename Rd _ _ _ _ => Re
      exact WPost.next (σ := US) ⟨i + 1 + 1, _, vs ++ [_], n + 1, r, bs', dn ++ [[8]]⟩ Fe Ne Re (by walk_at "own mem") (by walk_at "own sub") ⟨hS2, hx', hb.one (by decide), by simpa using hd'⟩ (by simp; try omega)
    · ((try k_fold); (repeat' walk1))
      refine Stop.to ?_
      rename Fr _ _ _ _ => Fe
      rename News _ _ _ _ => Ne
      rename Rd _ _ _ _ => Re
      exact WPost.next (σ := US) ⟨i + 1 + 1, _, vs ++ [_], n + 1, r, bs', dn ++ [[12]]⟩ Fe Ne Re (by walk_at "own mem") (by walk_at "own sub") ⟨hS2, hx', hb.one (by decide), by simpa using hd'⟩ (by simp; try omega)
    · ((try k_fold); (repeat' walk1))
      refine Stop.to ?_
      rename Fr _ _ _ _ => Fe
      rename News _ _ _ _ => Ne
      rename Rd _ _ _ _ => Re
      exact WPost.next (σ := US) ⟨i + 1 + 1, _, vs ++ [_], n + 1, r, bs', dn ++ [[10]]⟩ Fe Ne Re (by walk_at "own mem") (by walk_at "own sub") ⟨hS2, hx', hb.one (by decide), by simpa using hd'⟩ (by simp; try omega)
    · ((try k_fold); (repeat' walk1))
      refine Stop.to ?_
      rename Fr _ _ _ _ => Fe
      rename News _ _ _ _ => Ne
      rename Rd _ _ _ _ => Re
      exact WPost.next (σ := US) ⟨i + 1 + 1, _, vs ++ [_], n + 1, r, bs', dn ++ [[13]]⟩ Fe Ne Re (by walk_at "own mem") (by walk_at "own sub") ⟨hS2, hx', hb.one (by decide), by simpa using hd'⟩ (by simp; try omega)
    · ((try k_fold); (repeat' walk1))
      refine Stop.to ?_
      rename Fr _ _ _ _ => Fe
      rename News _ _ _ _ => Ne
      rename Rd _ _ _ _ => Re
      exact WPost.next (σ := US) ⟨i + 1 + 1, _, vs ++ [_], n + 1, r, bs', dn ++ [[9]]⟩ Fe Ne Re (by walk_at "own mem") (by walk_at "own sub") ⟨hS2, hx', hb.one (by decide), by simpa using hd'⟩ (by simp; try omega)
    · ((try k_fold); (repeat' walk1))
      refine Stop.to ?_
      rename Fr _ _ _ _ => Fe
      rename News _ _ _ _ => Ne
      rename Rd _ _ _ _ => Re
      exact WPost.next (σ := US) ⟨i + 1 + 1, _, vs ++ [_], n + 1, r, bs', dn ++ [[11]]⟩ Fe Ne Re (by walk_at "own mem") (by walk_at "own sub") ⟨hS2, hx', hb.one (by decide), by simpa using hd'⟩ (by simp; try omega)
    · ((try k_fold); (repeat' walk1))
      refine Stop.to ?_
      rename Fr _ _ _ _ => Fe
      rename News _ _ _ _ => Ne
      rename Rd _ _ _ _ => Re
      exact WPost.next (σ := US) ⟨i + 1 + 1, _, vs ++ [_], n + 1, r, bs', dn ++ [[92]]⟩ Fe Ne Re (by walk_at "own mem") (by walk_at "own sub") ⟨hS2, hx', hb.one (by decide), by simpa using hd'⟩ (by simp; try omega)
    · ((try k_fold); (repeat' walk1))
      refine Stop.to ?_
      rename Fr _ _ _ _ => Fe
      rename News _ _ _ _ => Ne
      rename Rd _ _ _ _ => Re
      exact WPost.next (σ := US) ⟨i + 1 + 1, _, vs ++ [_], n + 1, r, bs', dn ++ [[34]]⟩ Fe Ne Re (by walk_at "own mem") (by walk_at "own sub") ⟨hS2, hx', hb.one (by decide), by simpa using hd'⟩ (by simp; try omega)
    · ((try k_fold); (repeat' walk1))
      refine Stop.to ?_
      rename Fr _ _ _ _ => Fe
      rename News _ _ _ _ => Ne
      rename Rd _ _ _ _ => Re
      exact WPost.next (σ := US) ⟨i + 1 + 1, _, vs ++ [_], n + 1, r, bs', dn ++ [[39]]⟩ Fe Ne Re (by walk_at "own mem") (by walk_at "own sub") ⟨hS2, hx', hb.one (by decide), by simpa using hd'⟩ (by simp; try omega)
  case hex a b r bs' ha hb' hx' =>
    have hlt := hS.lt
    have hS1 := hS.tail
    have hS2 := hS1.tail
    have hS3 := hS2.tail.tail
    have hS4 : Sees l (i + 1 + 2 + 1) r := by
      have e : i + 1 + 2 + 1 = i + 1 + 1 + 1 + 1 := by omega
      rw [e]
      exact hS3
    have hne : [a, b] ≠ [] := by simp
    have hall : ∀ c ∈ [a, b], isHex c = true := by
      intro c hc
      simp only [List.mem_cons, List.not_mem_nil, or_false] at hc
      rcases hc with rfl | rfl <;> assumption
    have hv := hex2_le ha hb'
    have hll : [a, b].length = 2 := rfl
    ((try k_fold); (repeat' walk1))
    refine Stop.to ?_
    rename Fr _ _ _ _ => Fe
    rename News _ _ _ _ => Ne
    rename Rd _ _ _ _ => Re
    exact WPost.next (σ := US) ⟨i + 1 + 2 + 1, _, vs ++ [_], n + 1, r, bs', dn ++ [O8 (hexV [a, b])]⟩ Fe Ne Re (by walk_at "own mem") (by walk_at "own sub") ⟨hS4, hx', .snoc hb, by simpa using hd'⟩ (by simp; try omega)
  case dec1 a r bs' hqa hg hx' =>
    have hlt := hS.lt
    have hS1 := hS.tail
    have hne : [a] ≠ [] := by simp
    have hall : ∀ q ∈ [a], isDec q = true := by
      intro q hq
      simp only [List.mem_cons, List.not_mem_nil, or_false] at hq
      rcases hq with rfl <;> assumption
    have hll : [a].length = 1 := rfl
    have hv := dec_le hall (by rw [hll]; omega)
    have hra := decD_le hqa
    have hua := dig_dec hqa
    have hT0 := hS1.tail
    have hL0 := hS1.lt
    cases r with
    | nil =>
      have hend := hT0.end
      ((try k_fold); (repeat' walk1))
      refine Stop.to ?_
      rename Fr _ _ _ _ => Fe
      rename News _ _ _ _ => Ne
      rename Rd _ _ _ _ => Re
      exact WPost.next (σ := US) ⟨i + 1 + 1, _, vs ++ [_], n + 1, [], bs', dn ++ [O8 (decV [a])]⟩ Fe Ne Re (by walk_at "own mem") (by walk_at "own sub") ⟨hT0, hx', .snoc hb, by simpa using hd'⟩ (by simp; try omega)
    | cons e r =>
      have hge : Unicode.isDigit e = false := hg
      have hlt9 := hT0.lt
      ((try k_fold); (repeat' walk1))
      refine Stop.to ?_
      rename Fr _ _ _ _ => Fe
      rename News _ _ _ _ => Ne
      rename Rd _ _ _ _ => Re
      exact WPost.next (σ := US) ⟨i + 1 + 1, _, vs ++ [_], n + 1, (e :: r), bs', dn ++ [O8 (decV [a])]⟩ Fe Ne Re (by walk_at "own mem") (by walk_at "own sub") ⟨hT0, hx', .snoc hb, by simpa using hd'⟩ (by simp; try omega)
  case dec2 a b r bs' hqa hqb hg hx' =>
    have hlt := hS.lt
    have hS1 := hS.tail
    have hne : [a, b] ≠ [] := by simp
    have hall : ∀ q ∈ [a, b], isDec q = true := by
      intro q hq
      simp only [List.mem_cons, List.not_mem_nil, or_false] at hq
      rcases hq with rfl | rfl <;> assumption
    have hll : [a, b].length = 2 := rfl
    have hv := dec_le hall (by rw [hll]; omega)
    have hra := decD_le hqa
    have hua := dig_dec hqa
    have hT0 := hS1.tail
    have hL0 := hS1.lt
    have hS2 := hS1.tail
    have hrb := decD_le hqb
    have hub := dig_dec hqb
    have hT1 := hS2.tail
    have hL1 := hS2.lt
    cases r with
    | nil =>
      have hend := hT1.end
      ((try k_fold); (repeat' walk1))
      refine Stop.to ?_
      rename Fr _ _ _ _ => Fe
      rename News _ _ _ _ => Ne
      rename Rd _ _ _ _ => Re
      exact WPost.next (σ := US) ⟨i + 1 + 1 + 1, _, vs ++ [_], n + 1, [], bs', dn ++ [O8 (decV [a, b])]⟩ Fe Ne Re (by walk_at "own mem") (by walk_at "own sub") ⟨hT1, hx', .snoc hb, by simpa using hd'⟩ (by simp; try omega)
    | cons e r =>
      have hge : Unicode.isDigit e = false := hg
      have hlt9 := hT1.lt
      ((try k_fold); (repeat' walk1))
      refine Stop.to ?_
      rename Fr _ _ _ _ => Fe
      rename News _ _ _ _ => Ne
      rename Rd _ _ _ _ => Re
      exact WPost.next (σ := US) ⟨i + 1 + 1 + 1, _, vs ++ [_], n + 1, (e :: r), bs', dn ++ [O8 (decV [a, b])]⟩ Fe Ne Re (by walk_at "own mem") (by walk_at "own sub") ⟨hT1, hx', .snoc hb, by simpa using hd'⟩ (by simp; try omega)
  case dec3 a b c r bs' hqa hqb hqc hx' =>
    have hlt := hS.lt
    have hS1 := hS.tail
    have hne : [a, b, c] ≠ [] := by simp
    have hall : ∀ q ∈ [a, b, c], isDec q = true := by
      intro q hq
      simp only [List.mem_cons, List.not_mem_nil, or_false] at hq
      rcases hq with rfl | rfl | rfl <;> assumption
    have hll : [a, b, c].length = 3 := rfl
    have hv := dec_le hall (by rw [hll]; omega)
    have hra := decD_le hqa
    have hua := dig_dec hqa
    have hT0 := hS1.tail
    have hL0 := hS1.lt
    have hS2 := hS1.tail
    have hrb := decD_le hqb
    have hub := dig_dec hqb
    have hT1 := hS2.tail
    have hL1 := hS2.lt
    have hS3 := hS2.tail
    have hrc := decD_le hqc
    have huc := dig_dec hqc
    have hT2 := hS3.tail
    have hL2 := hS3.lt
    · ((try k_fold); (repeat' walk1))
      refine Stop.to ?_
      rename Fr _ _ _ _ => Fe
      rename News _ _ _ _ => Ne
      rename Rd _ _ _ _ => Re
      exact WPost.next (σ := US) ⟨i + 1 + 1 + 1 + 1, _, vs ++ [_], n + 1, r, bs', dn ++ [O8 (decV [a, b, c])]⟩ Fe Ne Re (by walk_at "own mem") (by walk_at "own sub") ⟨hT2, hx', .snoc hb, by simpa using hd'⟩ (by simp; try omega)
  case uni hs r bs' hne hall hle hv hx' =>
    have hlt := hS.lt
    have hS1 := hS.tail
    have hS2 := hS1.tail
    have hS3 := hS2.tail
    ((try k_fold); (repeat' walk1))
    refine Stop.to ?_
    rename Fr _ _ _ _ => F₂
    rename News _ _ _ _ => N₂
    rename Rd _ _ _ _ => R₂
    obtain ⟨hc, hhc⟩ := news_head N₂
    subst hhc
    refine' whileR (σ := XS) s (fun c => [(hc, W.listOf c.vs.toArray c.n), (lb, W.listOf vs.toArray n)]) (fun c => [some (.int c.i c.t), some (.ref lb), some (.str (SL l) t), none, none, none, some (.ref hc), none, none]) (fun c => Sees l (c.i + 1) (c.r ++ 125 :: r) ∧ SgAre c.vs c.cs ∧ c.cs ++ c.r = hs) (fun c => c.r.length) ⟨i + 1 + 1, _, [], 0, hs, []⟩ F₂ N₂ R₂ (by walk_at "own mem2") (by walk_at "own sub") ⟨hS3, SgAre.nil, rfl⟩ ?_
    clear F₂ N₂ R₂
    rintro ⟨j, tj, us, k, q, cs⟩ m'' h2 tk2 ⟨hT, hsg, hcs⟩ F N R
    dsimp only at hT hsg hcs F N R
    have hul : us.length ≤ 100 := by
      have h1 := hsg.length
      have h2 := congrArg List.length hcs
      simp at h2
      omega
    cases q with
    | nil =>
      have hcs' : cs = hs := by simpa using hcs
      subst hcs'
      have hT' : Sees l (j + 1) (125 :: r) := hT
      have hT1 := hT'.tail
      ((try k_fold); (repeat' walk1))
      refine Stop.to ?_
      rename Fr _ _ _ _ => Fe
      rename News _ _ _ _ => Ne
      rename Rd _ _ _ _ => Re
      exact WPost.next (σ := US) ⟨j + 1 + 1, _, vs ++ [_], n + 1, r, bs', dn ++ [O8 (hexV cs)]⟩ Fe Ne Re (by walk_at "own mem") (by walk_at "own sub") ⟨hT1, hx', .snoc hb, by simpa using hd'⟩ (by simp; try omega)
    | cons c q =>
      have hT' : Sees l (j + 1) (c :: (q ++ 125 :: r)) := hT
      have hT1 := hT'.tail
      have hcx := hexR (hall c (by rw [← hcs]; simp))
      ((try k_fold); (repeat' walk1))
      refine Stop.to ?_
      rename Fr _ _ _ _ => Fe
      rename News _ _ _ _ => Ne
      rename Rd _ _ _ _ => Re
      exact WPost.next (σ := XS) ⟨j + 1, _, us ++ [_], k + 1, q, cs ++ [c]⟩ Fe Ne Re (by walk_at "own mem2") (by walk_at "own sub") ⟨hT1, hsg.snoc, by simpa using hcs⟩ (by simp)
  case gap ws r hw hwh hx' =>
    have hlt := hS.lt
    have hS1 := hS.tail
    have hS2 := hS1.tail
    ((try k_fold); (repeat' walk1))
    refine Stop.to ?_
    rename Fr _ _ _ _ => F₂
    rename News _ _ _ _ => N₂
    rename Rd _ _ _ _ => R₂
    refine' whileR (σ := XS) s (fun c => [(lb, W.listOf vs.toArray n)]) (fun c => [some (.int c.i c.t), some (.ref lb), some (.str (SL l) t), none, none, none, none, none, none]) (fun c => Sees l (c.i + 1) (c.r ++ r) ∧ ∀ x ∈ c.r, white x = true) (fun c => c.r.length) ⟨i + 1, _, [], 0, ws, []⟩ F₂ N₂ R₂ (by walk_at "own mem") (by walk_at "own sub") ⟨hS2, hw⟩ ?_
    clear F₂ N₂ R₂
    rintro ⟨j, tj, us, k, q, cs⟩ m'' h2 tk2 ⟨hT, hws⟩ F N R
    dsimp only at hT hws F N R
    cases q with
    | nil =>
      have hT' : Sees l (j + 1) r := hT
      cases r with
      | nil =>
        have hend := hT'.end
        ((try k_fold); (repeat' walk1))
        refine Stop.to ?_
        rename Fr _ _ _ _ => Fe
        rename News _ _ _ _ => Ne
        rename Rd _ _ _ _ => Re
        exact WPost.next (σ := US) ⟨j + 1, _, vs, n, [], todo, dn⟩ Fe Ne Re (by walk_at "own mem") (by walk_at "own sub") ⟨hT', hx', hb, by simpa using hd'⟩ (by simp; try omega)
      | cons e r =>
        have hlt2 := hT'.lt
        have hwe : (Unicode.isSpace e && decide (e < 128)) = false := hwh
        cases hsp : Unicode.isSpace e with
        | false =>
          ((try k_fold); (repeat' walk1))
          refine Stop.to (WPost.brk' ?_)
          ((try k_fold); (repeat' walk1))
          refine Stop.to ?_
          rename Fr _ _ _ _ => Fe
          rename News _ _ _ _ => Ne
          rename Rd _ _ _ _ => Re
          exact WPost.next (σ := US) ⟨j + 1, _, vs, n, (e :: r), todo, dn⟩ Fe Ne Re (by walk_at "own mem") (by walk_at "own sub") ⟨hT', hx', hb, by simpa using hd'⟩ (by simp; try omega)
        | true =>
          rw [hsp, Bool.true_and] at hwe
          ((try k_fold); (repeat' walk1))
          refine Stop.to (WPost.brk' ?_)
          ((try k_fold); (repeat' walk1))
          refine Stop.to ?_
          rename Fr _ _ _ _ => Fe
          rename News _ _ _ _ => Ne
          rename Rd _ _ _ _ => Re
          exact WPost.next (σ := US) ⟨j + 1, _, vs, n, (e :: r), todo, dn⟩ Fe Ne Re (by walk_at "own mem") (by walk_at "own sub") ⟨hT', hx', hb, by simpa using hd'⟩ (by simp; try omega)
    | cons c q =>
      have hT' : Sees l (j + 1) (c :: (q ++ r)) := hT
      have hT1 := hT'.tail
      have hlt2 := hT'.lt
      have hcw := space_white (hws c (by simp))
      have hcs1 := hcw.1
      have hcs2 : decide (c < 128) = true := decide_eq_true hcw.2
      ((try k_fold); (repeat' walk1))
      refine Stop.to ?_
      rename Fr _ _ _ _ => Fe
      rename News _ _ _ _ => Ne
      rename Rd _ _ _ _ => Re
      exact WPost.next (σ := XS) ⟨j + 1, _, [], 0, q, []⟩ Fe Ne Re (by walk_at "own mem") (by walk_at "own sub") ⟨hT1, fun x hx => hws x (.tail _ hx)⟩ (by simp)

end Mine
namespace Mine

local macro_rules | `(tactic| walk_at "own at") => `(tactic| with_reducible (repeat (first | exact InAt.here | apply InAt.there)))
local macro_rules | `(tactic| walk_at "own put") => `(tactic| with_reducible (repeat (first | exact PutAt.here | apply PutAt.there)))
local macro_rules | `(tactic| walk_at "own sub") => `(tactic| first | exact SubAt.nil | (refine SubAt.keep ?_; walk_at "own sub") | (refine SubAt.drop ?_; walk_at "own sub"))
local macro_rules | `(tactic| walk_at "Back") => `(tactic| ((try dsimp only); (refine Back.of (Stop.of ?_))))
local macro_rules | `(tactic| walk_at "exec While") => `(tactic| refine Stop.of ?_)
local macro_rules | `(tactic| walk_at "exec While Compare") => `(tactic| refine Stop.of ?_)
local macro_rules | `(tactic| walk_at "exec While Compare cons nil") => `(tactic| refine Stop.of ?_)
local macro_rules | `(tactic| walk_at "exec While BoolOp") => `(tactic| refine Stop.of ?_)
local macro_rules | `(tactic| walk_at "exec While BoolOp cons nil") => `(tactic| refine Stop.of ?_)
local macro_rules | `(tactic| walk_at "exec While Compare cons") => `(tactic| refine Stop.of ?_)
local macro_rules | `(tactic| walk_at "exec While BoolOp cons") => `(tactic| refine Stop.of ?_)
local macro_rules | `(tactic| walk_at "exec For") => `(tactic| refine Stop.of ?_)
local macro_rules | `(tactic| walk_at "exec For Name") => `(tactic| refine Stop.of ?_)
local macro_rules | `(tactic| walk_at "exec For Name Call") => `(tactic| refine Stop.of ?_)
local macro_rules | `(tactic| walk_at "exec For Name Call cons nil") => `(tactic| refine Stop.of ?_)
local macro_rules | `(tactic| walk_at "exec For Name Name") => `(tactic| refine Stop.of ?_)
local macro_rules | `(tactic| walk_at "exec For Name Name cons nil") => `(tactic| refine Stop.of ?_)
local macro_rules | `(tactic| walk_at "exec For Name Subscript") => `(tactic| refine Stop.of ?_)
local macro_rules | `(tactic| walk_at "exec For Name Subscript cons nil") => `(tactic| refine Stop.of ?_)
local macro_rules | `(tactic| walk_at "exec For Tuple") => `(tactic| refine Stop.of ?_)
local macro_rules | `(tactic| walk_at "exec For Tuple Name") => `(tactic| refine Stop.of ?_)
local macro_rules | `(tactic| walk_at "exec For Tuple Name cons nil") => `(tactic| refine Stop.of ?_)
local macro_rules | `(tactic| walk_at "exec For Name Call cons") => `(tactic| refine Stop.of ?_)
local macro_rules | `(tactic| walk_at "exec For Name Subscript cons") => `(tactic| refine Stop.of ?_)
local macro_rules | `(tactic| walk_at "exec For Tuple Name cons") => `(tactic| refine Stop.of ?_)
local macro_rules | `(tactic| walk_at "WPost") => `(tactic| refine Stop.of ?_)
local macro_rules | `(tactic| walk_at "execs cons") => `(tactic| k_dflt ((refine' execs_mk ?mk ?hs ?he ?_; (case mk => assumption); (case hs => exact rfl); (case he => exact rfl)); intro tkx))
local macro_rules | `(tactic| walk_at "execs nil") => `(tactic| refine wpAny_execs_nil ?_)
local macro_rules | `(tactic| walk_at "exec Assign") => `(tactic| refine wpAny_Assign_Name ?_)
local macro_rules | `(tactic| walk_at "exec If") => `(tactic| refine wpAny_If ?_)
local macro_rules | `(tactic| walk_at "storeName") => `(tactic| k_dflt ((rename Fr _ _ _ _ => F0); (rename News _ _ _ _ => N0); (rename Rd _ _ _ _ => R0); (refine' stM F0 N0 R0 ?mk ?hs ?hv ?_; (case mk => assumption); (case hs => exact rfl); (case hv => with_reducible (repeat (first | exact PutAt.here | apply PutAt.there)))); clear F0 N0 R0; intro h1 m1 tk1 F1 N1 R1))
local macro_rules | `(tactic| walk_at "own room") => `(tactic| first | omega | (dsimp only [At, Around.deeper, Around.in1]; omega))
local macro_rules | `(tactic| walk_at "ite") => `(tactic| first
  | refine ite_t rfl ?_ | refine ite_f bool_f ?_
  | refine ite_t (dec_t (by omega)) ?_ | refine ite_f (dec_f (by omega)) ?_ | refine ite_t (by assumption) ?_ | refine ite_f (by assumption) ?_ | fail "own ite: undecided")
local macro_rules | `(tactic| walk_at "And") => `(tactic| (refine And.intro (Frag.In.keeps (by assumption) (Fr.keep (by assumption))) ?_))
local macro_rules | `(tactic| walk_at "eval Name") => `(tactic| k_dflt (first
  | (refine' name_K ?k0 ?k1 ?k2 ?k3 ?_; (case k0 => with_reducible assumption); (case k1 => k_asm); (case k2 => k_asm); (case k3 => k_is))
  | (refine' name_B ?k0 ?k1 ?k2 ?k3 ?k4 ?k5 ?_; (case k0 => with_reducible assumption); (case k1 => k_asm); (case k2 => k_asm); (case k3 => k_is); (case k4 => boot_by_name); (case k5 => decide))))
local macro_rules | `(tactic| walk_at "eval Name") => `(tactic| with_reducible (refine' nmR ?cF ?cR ?hv ?_; (case cF => assumption); (case cR => assumption); (case hv => ((repeat (first | exact InAt.here | apply InAt.there)); done))))
local macro_rules | `(tactic| walk_at "loadName") => `(tactic| with_reducible (refine' ldnM ?cF ?cR ?hv ?_; (case cF => assumption); (case cR => assumption); (case hv => ((repeat (first | exact InAt.here | apply InAt.there)); done))))
local macro_rules | `(tactic| walk_at "spliced") => `(tactic| first | refine args1 ?_ | refine args2 ?_)
local macro_rules | `(tactic| walk_at "newList") => `(tactic| ((rename Fr _ _ _ _ => F0); (rename News _ _ _ _ => N0); (k_dflt (refine' newList_K F0 N0 ?_)); clear F0 N0; intro l' h' F' N' l1; (try k_lt l1)))

local macro_rules | `(tactic| walk_at "FPost") => `(tactic| refine Stop.of ?_)
local macro_rules | `(tactic| walk_at "binaryOp Mod int int") => `(tactic| refine mod_e (by omega) ?_)
local macro_rules | `(tactic| walk_at "binaryOp FloorDiv int int") => `(tactic| refine div_e (by omega) (by omega) ?_)
local macro_rules | `(tactic| walk_at "call type:range") => `(tactic| ((rename Fr _ _ _ _ => F0); (rename News _ _ _ _ => N0); (k_dflt (refine' range1_rows F0 N0 ?_)); clear F0 N0; intro h' tk' t1' u1' v1' rg' F' N' _))
local macro_rules | `(tactic| walk_at "pyIter ref") => `(tactic| refine Stop.of ?_)

abbrev HexCall (kd ku : Nat) (f : Addr) (n : Int) (vs : List Value) : Prop :=
  ∀ (w : World) (p : Program) (loose : List Str) (mean : ExcName → Option Value) (mg mb : Str → Option Value)
    (dp un : Nat) (fr : Option (List Env)) (gd : Option (List Code)) (s : Shared) (Q E : Value → Shared → Prop),
    (Mine.top1.heap_39 w.params).In s.heap → Top p loose mean mg mb s.heap → dp + kd < recursionLimit → un + ku < cLine →
    (∀ (hs : List Nat) (t : Tok) (h' : Heap) (tk' : Nat), HexOf n hs → Kept s.heap h' → Q (.str (SL hs) t) { s with heap := h', toks := tk' }) →
      wpAny (model Prog1 w) (At dp fr gd un) (call (.ref f) vs) Q E s
abbrev Alpha (al : List Nat) : Prop := al.length = 16 ∧ ∀ d : Int, 0 ≤ d → d < 16 → ∃ c, al[d.toNat]? = some c ∧ isHex c = true ∧ (hexD c : Int) = d
theorem alpha_of (l : List Nat) (hl : l.length = 16) (h : ∀ m : Nat, m < 16 → (l[m]?).any (fun c => isHex c && hexD c == m) = true) : Alpha l := ⟨hl, by
  intro d d0 d1
  have h := h d.toNat (by omega)
  cases hc : l[d.toNat]? with
  | none => rw [hc] at h; cases h
  | some c =>
    rw [hc] at h
    simp at h
    exact ⟨c, rfl, h.1, by omega⟩⟩
theorem alpha_item {prog : Program} {w : World} {A : Around} {E : Value → Shared → Prop} {s : Shared} {h₀ : Heap} {L D : Addr} {news : List (Addr × Obj)} {n : Nat} {value slice : PySem.Expr} {k : Int} {u : Tok} {t1 t2 t3 : Tok} {Q : Value → Shared → Prop}
    (N : News h₀ L s.heap ((D, W.listOf #[Value.str (Str.ofString "0123456789abcdef") t1, Value.str (Str.ofString "0123456789ABCDEF") t2, Value.str (Str.ofString "0123456789aBcDeF") t3] n) :: news)) (h0 : 0 ≤ k) (h1 : k < 3)
    (h : ∀ (al : List Nat) (t : Tok), Alpha al → Q (.str (SL al) t) s)
    (hs : subscripted slice false (.ref D) (.int k u) = operate [.ref D, .int k u] (getItem (.ref D) (.int k u)) := by with_unfolding_all rfl) :
    wpAny (model prog w) A (subscriptTail value slice (.ref D) (.int k u)) Q E s := by
  have e1 : Str.ofString "0123456789abcdef" = SL [48, 49, 50, 51, 52, 53, 54, 55, 56, 57, 97, 98, 99, 100, 101, 102] := by decide +kernel
  have e2 : Str.ofString "0123456789ABCDEF" = SL [48, 49, 50, 51, 52, 53, 54, 55, 56, 57, 65, 66, 67, 68, 69, 70] := by decide +kernel
  have e3 : Str.ofString "0123456789aBcDeF" = SL [48, 49, 50, 51, 52, 53, 54, 55, 56, 57, 97, 66, 99, 68, 101, 70] := by decide +kernel
  have hl := PySem.IsL.isList (n := n) (N _ (.head _)).1
  have key : k = 0 ∨ k = 1 ∨ k = 2 := by omega
  rcases key with rfl | rfl | rfl
  · exact item_call (vs := [_, _, _]) hl (by decide) (by decide) rfl (by rw [e1]; exact h _ _ (alpha_of _ rfl (by decide))) hs
  · exact item_call (vs := [_, _, _]) hl (by decide) (by decide) rfl (by rw [e2]; exact h _ _ (alpha_of _ rfl (by decide))) hs
  · exact item_call (vs := [_, _, _]) hl (by decide) (by decide) rfl (by rw [e3]; exact h _ _ (alpha_of _ rfl (by decide))) hs
local macro_rules | `(tactic| walk_at "binaryOp Add str str") => `(tactic| ((refine cat_sl rfl rfl (by first | (simp; omega) | (simp; done)) ?_); intro t' k'))
local macro_rules | `(tactic| walk_at "compareOp Eq str str") => `(tactic| first | refine eq_nil_t lit_emp1 ?_ | refine eq_nil_f lit_emp1 ?_)
local macro_rules | `(tactic| walk_at "subscriptTail List cons BinOp ref int") => `(tactic| refine Stop.of ?_)
local macro_rules | `(tactic| walk_at "subscriptTail List cons BinOp Name ref int") => `(tactic| refine Stop.of ?_)
local macro_rules | `(tactic| walk_at "subscriptTail List BinOp ref int") => `(tactic| refine Stop.of ?_)
local macro_rules | `(tactic| walk_at "subscriptTail Subscript BinOp str int") => `(tactic| refine Stop.of ?_)
structure HxS where
  n : Int
  tn : Tok
  hs : List Nat
  tl : Tok
theorem hex_call (number way : Int) (t u : Tok) (h0 : 0 ≤ number) (h1 : number < 16 ^ 8) : HexCall 2 30 49 number [.int number t, .int way u] := by
  dsimp only [HexCall]
  intro w p loose mean mg mb dp un fr gd s Q E X T hd hu hret
  have hfill : PySem.Challenge.rw_fz0005_01 = PySem.Challenge.rw_fz0005_01 ∧ Mine.top1.heap_39 w.params = Mine.top1.heap_39 w.params := ⟨rfl, rfl⟩
  revert hfill
  k_fill
  intro _
  refine' own_call (binds := [(Str.ofString "number", .int number t), (Str.ofString "way", .int way u)]) ?k1 ?k2 ?k3 ?k4 ?k5 ?k6 ?k7 ?_ ?k8 ?k9 ?k10 ?k11
  case k1 => assumption
  case k2 => exact Top.nolimit (by assumption)
  case k3 => k_is
  case k4 => k_is
  case k5 => (first | omega | (dsimp only [At, Around.deeper]; omega))
  case k6 => exact BindsTo.of_eq rfl
  case k7 => exact locs rfl
  case k8 => decide
  case k9 => exact rfl
  case k10 => exact rfl
  case k11 => exact rfl
  intro L' h₁ F' N'
  have mkS := Marks.mk (s := s)
  dsimp only [List.reverse, List.reverseAux] at F'
  refine enterR [Str.ofString "number", Str.ofString "way", Str.ofString "told"] [none, none, none] F' ⟨rfl, by decide +kernel, by decide +kernel, by decide +kernel⟩ rfl ?_
  intro R0
  have R0 := Rd.add R0 (x := Str.ofString "number") rfl (.here)
  have R0 := Rd.add R0 (x := Str.ofString "way") rfl (.there (.here))

  ((try k_fold); (repeat' walk1))
  refine Stop.to ?_
  rename Fr _ _ _ _ => F₁
  rename News _ _ _ _ => N₁
  rename Rd _ _ _ _ => R₁
  refine' whileR (σ := HxS) s (fun _ => []) (fun c => [some (.int c.n c.tn), some (.int way u), some (.str (SL c.hs) c.tl)]) (fun c => HexTo number c.n c.hs) (fun c => c.n.toNat + (if c.hs = [] then 1 else 0)) ⟨number, t, [], _⟩ F₁ N₁ R₁ (by intro p hp; cases hp) (by walk_at "own sub") (HexTo.start h0) ?_
  clear F₁ N₁ R₁
  rintro ⟨n, tn, hs, tl⟩ m' h tk hP F N R
  dsimp only at hP F N R
  have hn0 := hP.1
  have hlen : hs.length ≤ 8 := hP.len (by decide) h1
  by_cases hn : n > 0
  · ((try k_fold); (repeat' walk1))
    refine Stop.to ?_
    rename Fr _ _ _ _ => Fx
    rename News _ _ _ _ => Nx
    rename Rd _ _ _ _ => Rx
    refine alpha_item Nx (by omega) (by omega) ?_
    intro al ta hal
    obtain ⟨c, hc, hch, hcd⟩ := hal.2 (n % 16) (by omega) (by omega)
    dsimp only
    ((try k_fold); (repeat' walk1))
    refine Stop.to ?_
    refine item_at rfl (by omega) hc (by rw [hal.1]; decide) ?_
    ((try k_fold); (repeat' walk1))
    refine Stop.to ?_
    rename Fr _ _ _ _ => Fy
    rename News _ _ _ _ => Ny
    rename Rd _ _ _ _ => Ry
    refine WPost.next (σ := HxS) ⟨n / 16, _, [c] ++ hs, _⟩ Fy Ny Ry (fun p hp => nomatch hp) (by walk_at "own sub") (hP.more hch hcd (.inl hn)) ?_
    show (n / 16).toNat + _ < (n).toNat + _
    simp
    split <;> omega
  · have hz : n = 0 := by omega
    subst hz
    cases hs with
    | nil =>
      ((try k_fold); (repeat' walk1))
      refine Stop.to ?_
      rename Fr _ _ _ _ => Fx
      rename News _ _ _ _ => Nx
      rename Rd _ _ _ _ => Rx
      refine alpha_item Nx (by omega) (by omega) ?_
      intro al ta hal
      obtain ⟨c, hc, hch, hcd⟩ := hal.2 ((0 : Int) % 16) (by omega) (by omega)
      dsimp only
      ((try k_fold); (repeat' walk1))
      refine Stop.to ?_
      refine item_at rfl (by omega) hc (by rw [hal.1]; decide) ?_
      ((try k_fold); (repeat' walk1))
      refine Stop.to ?_
      rename Fr _ _ _ _ => Fy
      rename News _ _ _ _ => Ny
      rename Rd _ _ _ _ => Ry
      refine WPost.next (σ := HxS) ⟨(0 : Int) / 16, _, [c] ++ [], _⟩ Fy Ny Ry (fun p hp => nomatch hp) (by walk_at "own sub") (hP.more hch hcd (.inr rfl)) ?_
      show ((0 : Int) / 16).toNat + _ < ((0 : Int)).toNat + _
      simp
    | cons c r =>
      ((try k_fold); (repeat' walk1))
      refine Stop.to ?_
      rename Fr _ _ _ _ => Fe
      exact hret _ _ _ _ (hP.done (by simp)) (Kept.of_fr Fe)

end Mine
namespace Mine

local macro_rules | `(tactic| walk_at "own at") => `(tactic| with_reducible (repeat (first | exact InAt.here | apply InAt.there)))
local macro_rules | `(tactic| walk_at "own put") => `(tactic| with_reducible (repeat (first | exact PutAt.here | apply PutAt.there)))
local macro_rules | `(tactic| walk_at "own sub") => `(tactic| first | exact SubAt.nil | (refine SubAt.keep ?_; walk_at "own sub") | (refine SubAt.drop ?_; walk_at "own sub"))
local macro_rules | `(tactic| walk_at "Back") => `(tactic| ((try dsimp only); (refine Back.of (Stop.of ?_))))
local macro_rules | `(tactic| walk_at "exec While") => `(tactic| refine Stop.of ?_)
local macro_rules | `(tactic| walk_at "exec While Compare") => `(tactic| refine Stop.of ?_)
local macro_rules | `(tactic| walk_at "exec While Compare cons nil") => `(tactic| refine Stop.of ?_)
local macro_rules | `(tactic| walk_at "exec While BoolOp") => `(tactic| refine Stop.of ?_)
local macro_rules | `(tactic| walk_at "exec While BoolOp cons nil") => `(tactic| refine Stop.of ?_)
local macro_rules | `(tactic| walk_at "exec While Compare cons") => `(tactic| refine Stop.of ?_)
local macro_rules | `(tactic| walk_at "exec While BoolOp cons") => `(tactic| refine Stop.of ?_)
local macro_rules | `(tactic| walk_at "exec For") => `(tactic| refine Stop.of ?_)
local macro_rules | `(tactic| walk_at "exec For Name") => `(tactic| refine Stop.of ?_)
local macro_rules | `(tactic| walk_at "exec For Name Call") => `(tactic| refine Stop.of ?_)
local macro_rules | `(tactic| walk_at "exec For Name Call cons nil") => `(tactic| refine Stop.of ?_)
local macro_rules | `(tactic| walk_at "exec For Name Name") => `(tactic| refine Stop.of ?_)
local macro_rules | `(tactic| walk_at "exec For Name Name cons nil") => `(tactic| refine Stop.of ?_)
local macro_rules | `(tactic| walk_at "exec For Name Subscript") => `(tactic| refine Stop.of ?_)
local macro_rules | `(tactic| walk_at "exec For Name Subscript cons nil") => `(tactic| refine Stop.of ?_)
local macro_rules | `(tactic| walk_at "exec For Tuple") => `(tactic| refine Stop.of ?_)
local macro_rules | `(tactic| walk_at "exec For Tuple Name") => `(tactic| refine Stop.of ?_)
local macro_rules | `(tactic| walk_at "exec For Tuple Name cons nil") => `(tactic| refine Stop.of ?_)
local macro_rules | `(tactic| walk_at "exec For Name Call cons") => `(tactic| refine Stop.of ?_)
local macro_rules | `(tactic| walk_at "exec For Name Subscript cons") => `(tactic| refine Stop.of ?_)
local macro_rules | `(tactic| walk_at "exec For Tuple Name cons") => `(tactic| refine Stop.of ?_)
local macro_rules | `(tactic| walk_at "WPost") => `(tactic| refine Stop.of ?_)
local macro_rules | `(tactic| walk_at "execs cons") => `(tactic| k_dflt ((refine' execs_mk ?mk ?hs ?he ?_; (case mk => assumption); (case hs => exact rfl); (case he => exact rfl)); intro tkx))
local macro_rules | `(tactic| walk_at "execs nil") => `(tactic| refine wpAny_execs_nil ?_)
local macro_rules | `(tactic| walk_at "exec Assign") => `(tactic| refine wpAny_Assign_Name ?_)
local macro_rules | `(tactic| walk_at "exec If") => `(tactic| refine wpAny_If ?_)
local macro_rules | `(tactic| walk_at "storeName") => `(tactic| k_dflt ((rename Fr _ _ _ _ => F0); (rename News _ _ _ _ => N0); (rename Rd _ _ _ _ => R0); (refine' stM F0 N0 R0 ?mk ?hs ?hv ?_; (case mk => assumption); (case hs => exact rfl); (case hv => with_reducible (repeat (first | exact PutAt.here | apply PutAt.there)))); clear F0 N0 R0; intro h1 m1 tk1 F1 N1 R1))
local macro_rules | `(tactic| walk_at "own room") => `(tactic| first | omega | (dsimp only [At, Around.deeper, Around.in1]; omega))
local macro_rules | `(tactic| walk_at "ite") => `(tactic| first
  | refine ite_t rfl ?_ | refine ite_f bool_f ?_
  | refine ite_t (dec_t (by omega)) ?_ | refine ite_f (dec_f (by omega)) ?_ | refine ite_t (by assumption) ?_ | refine ite_f (by assumption) ?_ | fail "own ite: undecided")
local macro_rules | `(tactic| walk_at "And") => `(tactic| (refine And.intro (Frag.In.keeps (by assumption) (Fr.keep (by assumption))) ?_))
local macro_rules | `(tactic| walk_at "eval Name") => `(tactic| k_dflt (first
  | (refine' name_K ?k0 ?k1 ?k2 ?k3 ?_; (case k0 => with_reducible assumption); (case k1 => k_asm); (case k2 => k_asm); (case k3 => k_is))
  | (refine' name_B ?k0 ?k1 ?k2 ?k3 ?k4 ?k5 ?_; (case k0 => with_reducible assumption); (case k1 => k_asm); (case k2 => k_asm); (case k3 => k_is); (case k4 => boot_by_name); (case k5 => decide))))
local macro_rules | `(tactic| walk_at "eval Name") => `(tactic| with_reducible (refine' nmR ?cF ?cR ?hv ?_; (case cF => assumption); (case cR => assumption); (case hv => ((repeat (first | exact InAt.here | apply InAt.there)); done))))
local macro_rules | `(tactic| walk_at "loadName") => `(tactic| with_reducible (refine' ldnM ?cF ?cR ?hv ?_; (case cF => assumption); (case cR => assumption); (case hv => ((repeat (first | exact InAt.here | apply InAt.there)); done))))
local macro_rules | `(tactic| walk_at "spliced") => `(tactic| first | refine args1 ?_ | refine args2 ?_)
local macro_rules | `(tactic| walk_at "newList") => `(tactic| ((rename Fr _ _ _ _ => F0); (rename News _ _ _ _ => N0); (k_dflt (refine' newList_K F0 N0 ?_)); clear F0 N0; intro l' h' F' N' l1; (try k_lt l1)))

local macro_rules | `(tactic| walk_at "FPost") => `(tactic| refine Stop.of ?_)
local macro_rules | `(tactic| walk_at "binaryOp Mod int int") => `(tactic| refine mod_e (by omega) ?_)
local macro_rules | `(tactic| walk_at "binaryOp FloorDiv int int") => `(tactic| refine div_e (by omega) (by omega) ?_)
local macro_rules | `(tactic| walk_at "call type:range") => `(tactic| ((rename Fr _ _ _ _ => F0); (rename News _ _ _ _ => N0); (k_dflt (refine' range1_rows F0 N0 ?_)); clear F0 N0; intro h' tk' t1' u1' v1' rg' F' N' _))
local macro_rules | `(tactic| walk_at "pyIter ref") => `(tactic| refine Stop.of ?_)
local macro_rules | `(tactic| walk_at "binaryOp Add ref ref") => `(tactic| refine Stop.of ?_)

structure OcS where
  i : Nat
  n : Int
  tn : Tok
  room : Int
  tr : Tok
  T : Addr
  us : List Value
  k : Nat
theorem oct_call (number : Int) (t : Tok) (h0 : 0 ≤ number) (h1 : number ≤ 2147483647) : FreshCall1 2 30 42 [.int number t] (fun _ => True) (O8 number) := by
  dsimp only [FreshCall1]
  intro w p loose mean mg mb dp un fr gd s Q E X T hd hu _ hret
  have hfill : PySem.Challenge.rw_fz0005_01 = PySem.Challenge.rw_fz0005_01 ∧ Mine.top1.heap_39 w.params = Mine.top1.heap_39 w.params := ⟨rfl, rfl⟩
  revert hfill
  k_fill
  intro _
  refine' own_call (binds := [(Str.ofString "number", .int number t)]) ?k1 ?k2 ?k3 ?k4 ?k5 ?k6 ?k7 ?_ ?k8 ?k9 ?k10 ?k11
  case k1 => assumption
  case k2 => exact Top.nolimit (by assumption)
  case k3 => k_is
  case k4 => k_is
  case k5 => (first | omega | (dsimp only [At, Around.deeper]; omega))
  case k6 => exact BindsTo.of_eq rfl
  case k7 => exact locs rfl
  case k8 => decide
  case k9 => exact rfl
  case k10 => exact rfl
  case k11 => exact rfl
  intro L' h₁ F' N'
  have mkS := Marks.mk (s := s)
  dsimp only [List.reverse, List.reverseAux] at F'
  refine enterR [Str.ofString "number", Str.ofString "told", Str.ofString "room"] [none, none, none] F' ⟨rfl, by decide +kernel, by decide +kernel, by decide +kernel⟩ rfl ?_
  intro R0
  have R0 := Rd.add R0 (x := Str.ofString "number") rfl (.here)

  by_cases hs : number < 128
  · ((try k_fold); (repeat' walk1))
    refine Stop.to ?_
    rename Fr _ _ _ _ => Fe
    rename News _ _ _ _ => Ne
    rename Rd _ _ _ _ => Re
    have hm := Ne _ (.head _)
    refine hret _ [_] _ _ _ ?_ hm.1 hm.2.2 (Kept.of_fr Fe)
    rw [o8_byte hs]
    exact .cons _ _ .nil
  ((try k_fold); (repeat' walk1))
  refine Stop.to ?_
  rename Fr _ _ _ _ => F₁
  rename News _ _ _ _ => N₁
  rename Rd _ _ _ _ => R₁
  have e0 : octTurn number 0 = (number, 64, []) := rfl
  refine' whileR (σ := OcS) s (fun c => [(c.T, W.listOf c.us.toArray c.k)]) (fun c => [some (.int c.n c.tn), some (.ref c.T), some (.int c.room c.tr)]) (fun c => c.i ≤ 5 ∧ (∃ told, octTurn number c.i = (c.n, c.room, told) ∧ IntsAre c.us told) ∧ (c.i = 0 ∨ (octTurn number (c.i - 1)).2.1 ≤ (octTurn number (c.i - 1)).1)) (fun c => 5 - c.i) ⟨0, number, t, 64, _, _, [], 0⟩ F₁ N₁ R₁ (fun p hp => hp) (by walk_at "own sub") ⟨Nat.zero_le _, ⟨_, e0, .nil⟩, .inl rfl⟩ ?_
  clear F₁ N₁ R₁
  rintro ⟨i, n, tn, room, tr, T, us, k⟩ m' h tk ⟨hi5, ⟨told, eT, hu⟩, hm⟩ F N R
  dsimp only at hi5 hu hm eT F N R
  obtain ⟨hr0, hr1, hln⟩ := octTurn_room number hi5
  have hend := octTurn_end (by omega) h1 hi5 hm
  have hstop := octTurn_stop h1
  have hnext := octTurn_next number (i := i)
  have hlast : (octTurn number i).2.1 ≤ (octTurn number i).1 → i < 5 := fun hle => by
    by_cases h5 : i = 5
    · subst h5; omega
    · omega
  rw [eT] at hr0 hr1 hln hend hnext hlast
  dsimp only at hr0 hr1 hln hend hnext hlast
  by_cases hge : n ≥ room
  · have hi := hlast hge
    have hnx := hnext hi
    by_cases hr : room < 64
    · rw [if_pos hr] at hnx
      ((try k_fold); (repeat' walk1))
      refine Stop.to ?_
      rename Fr _ _ _ _ => Fx
      rename News _ _ _ _ => Nx
      rename Rd _ _ _ _ => Rx
      refine kmk_add_ints Fx Nx (Nx.isList (.head _)) (Nx.isList (.tail _ (.head _))) (ns := [128 + n % 64]) (vs := [_]) (.cons _ _ .nil) hu ?_ (by rw [sizeLine_eq, hln]; simp; omega)
      intro D us5 h5 Fe Ne l1 hiE
      clear Fx Nx
      dsimp only
      ((try k_fold); (repeat' walk1))
      refine Stop.to ?_
      rename Fr _ _ _ _ => Fy
      rename News _ _ _ _ => Ny
      rename Rd _ _ _ _ => Ry
      exact WPost.next (σ := OcS) ⟨i + 1, _, _, _, _, D, us5, _⟩ Fy Ny Ry (by intro p hp; rw [List.mem_singleton.mp hp]; exact .head _) (by walk_at "own sub") ⟨hi, ⟨_, hnx, hiE⟩, .inr (by show (octTurn number (i + 1 - 1)).2.1 ≤ (octTurn number (i + 1 - 1)).1; rw [Nat.add_sub_cancel, eT]; exact hge)⟩ (by show 5 - (i + 1) < 5 - i; omega)

    · rw [if_neg hr] at hnx
      ((try k_fold); (repeat' walk1))
      refine Stop.to ?_
      rename Fr _ _ _ _ => Fx
      rename News _ _ _ _ => Nx
      rename Rd _ _ _ _ => Rx
      refine kmk_add_ints Fx Nx (Nx.isList (.head _)) (Nx.isList (.tail _ (.head _))) (ns := [128 + n % 64]) (vs := [_]) (.cons _ _ .nil) hu ?_ (by rw [sizeLine_eq, hln]; simp; omega)
      intro D us5 h5 Fe Ne l1 hiE
      clear Fx Nx
      dsimp only
      ((try k_fold); (repeat' walk1))
      refine Stop.to ?_
      rename Fr _ _ _ _ => Fy
      rename News _ _ _ _ => Ny
      rename Rd _ _ _ _ => Ry
      exact WPost.next (σ := OcS) ⟨i + 1, _, _, _, _, D, us5, _⟩ Fy Ny Ry (by intro p hp; rw [List.mem_singleton.mp hp]; exact .head _) (by walk_at "own sub") ⟨hi, ⟨_, hnx, hiE⟩, .inr (by show (octTurn number (i + 1 - 1)).2.1 ≤ (octTurn number (i + 1 - 1)).1; rw [Nat.add_sub_cancel, eT]; exact hge)⟩ (by show 5 - (i + 1) < 5 - i; omega)

  · have he := hend (by omega)
    ((try k_fold); (repeat' walk1))
    refine Stop.to ?_
    rename Fr _ _ _ _ => Fx
    rename News _ _ _ _ => Nx
    rename Rd _ _ _ _ => Rx
    refine kmk_add_ints Fx Nx (Nx.isList (.head _)) (Nx.isList (.tail _ (.head _))) (ns := [256 - 2 * room + n]) (vs := [_]) (.cons _ _ .nil) hu ?_ (by rw [sizeLine_eq, hln]; simp; omega)
    intro D us5 h5 Fe Ne l1 hiE
    clear Fx Nx
    dsimp only
    ((try k_fold); (repeat' walk1))
    refine Stop.to ?_
    rename Fr _ _ _ _ => Fy
    rename News _ _ _ _ => Ny
    have hm := Ny _ (.head _)
    refine hret _ _ _ _ _ ?_ hm.1 hm.2.2 (Kept.of_fr Fy)
    rw [← he]
    exact hiE

end Mine
namespace Mine

local macro_rules | `(tactic| walk_at "own at") => `(tactic| with_reducible (repeat (first | exact InAt.here | apply InAt.there)))
local macro_rules | `(tactic| walk_at "own put") => `(tactic| with_reducible (repeat (first | exact PutAt.here | apply PutAt.there)))
local macro_rules | `(tactic| walk_at "own sub") => `(tactic| first | exact SubAt.nil | (refine SubAt.keep ?_; walk_at "own sub") | (refine SubAt.drop ?_; walk_at "own sub"))
local macro_rules | `(tactic| walk_at "Back") => `(tactic| ((try dsimp only); (refine Back.of (Stop.of ?_))))
local macro_rules | `(tactic| walk_at "exec While") => `(tactic| refine Stop.of ?_)
local macro_rules | `(tactic| walk_at "exec While Compare") => `(tactic| refine Stop.of ?_)
local macro_rules | `(tactic| walk_at "exec While Compare cons nil") => `(tactic| refine Stop.of ?_)
local macro_rules | `(tactic| walk_at "exec While BoolOp") => `(tactic| refine Stop.of ?_)
local macro_rules | `(tactic| walk_at "exec While BoolOp cons nil") => `(tactic| refine Stop.of ?_)
local macro_rules | `(tactic| walk_at "exec While Compare cons") => `(tactic| refine Stop.of ?_)
local macro_rules | `(tactic| walk_at "exec While BoolOp cons") => `(tactic| refine Stop.of ?_)
local macro_rules | `(tactic| walk_at "exec For") => `(tactic| refine Stop.of ?_)
local macro_rules | `(tactic| walk_at "exec For Name") => `(tactic| refine Stop.of ?_)
local macro_rules | `(tactic| walk_at "exec For Name Call") => `(tactic| refine Stop.of ?_)
local macro_rules | `(tactic| walk_at "exec For Name Call cons nil") => `(tactic| refine Stop.of ?_)
local macro_rules | `(tactic| walk_at "exec For Name Name") => `(tactic| refine Stop.of ?_)
local macro_rules | `(tactic| walk_at "exec For Name Name cons nil") => `(tactic| refine Stop.of ?_)
local macro_rules | `(tactic| walk_at "exec For Name Subscript") => `(tactic| refine Stop.of ?_)
local macro_rules | `(tactic| walk_at "exec For Name Subscript cons nil") => `(tactic| refine Stop.of ?_)
local macro_rules | `(tactic| walk_at "exec For Tuple") => `(tactic| refine Stop.of ?_)
local macro_rules | `(tactic| walk_at "exec For Tuple Name") => `(tactic| refine Stop.of ?_)
local macro_rules | `(tactic| walk_at "exec For Tuple Name cons nil") => `(tactic| refine Stop.of ?_)
local macro_rules | `(tactic| walk_at "exec For Name Call cons") => `(tactic| refine Stop.of ?_)
local macro_rules | `(tactic| walk_at "exec For Name Subscript cons") => `(tactic| refine Stop.of ?_)
local macro_rules | `(tactic| walk_at "exec For Tuple Name cons") => `(tactic| refine Stop.of ?_)
local macro_rules | `(tactic| walk_at "WPost") => `(tactic| refine Stop.of ?_)
local macro_rules | `(tactic| walk_at "execs cons") => `(tactic| k_dflt ((refine' execs_mk ?mk ?hs ?he ?_; (case mk => assumption); (case hs => exact rfl); (case he => exact rfl)); intro tkx))
local macro_rules | `(tactic| walk_at "execs nil") => `(tactic| refine wpAny_execs_nil ?_)
local macro_rules | `(tactic| walk_at "exec Assign") => `(tactic| refine wpAny_Assign_Name ?_)
local macro_rules | `(tactic| walk_at "exec If") => `(tactic| refine wpAny_If ?_)
local macro_rules | `(tactic| walk_at "storeName") => `(tactic| k_dflt ((rename Fr _ _ _ _ => F0); (rename News _ _ _ _ => N0); (rename Rd _ _ _ _ => R0); (refine' stM F0 N0 R0 ?mk ?hs ?hv ?_; (case mk => assumption); (case hs => exact rfl); (case hv => with_reducible (repeat (first | exact PutAt.here | apply PutAt.there)))); clear F0 N0 R0; intro h1 m1 tk1 F1 N1 R1))
local macro_rules | `(tactic| walk_at "own room") => `(tactic| first | omega | (dsimp only [At, Around.deeper, Around.in1]; omega))
local macro_rules | `(tactic| walk_at "ite") => `(tactic| first
  | refine ite_t rfl ?_ | refine ite_f bool_f ?_
  | refine ite_t (dec_t (by omega)) ?_ | refine ite_f (dec_f (by omega)) ?_ | refine ite_t (by assumption) ?_ | refine ite_f (by assumption) ?_ | fail "own ite: undecided")
local macro_rules | `(tactic| walk_at "And") => `(tactic| (refine And.intro (Frag.In.keeps (by assumption) (Fr.keep (by assumption))) ?_))
local macro_rules | `(tactic| walk_at "eval Name") => `(tactic| k_dflt (first
  | (refine' name_K ?k0 ?k1 ?k2 ?k3 ?_; (case k0 => with_reducible assumption); (case k1 => k_asm); (case k2 => k_asm); (case k3 => k_is))
  | (refine' name_B ?k0 ?k1 ?k2 ?k3 ?k4 ?k5 ?_; (case k0 => with_reducible assumption); (case k1 => k_asm); (case k2 => k_asm); (case k3 => k_is); (case k4 => boot_by_name); (case k5 => decide))))
local macro_rules | `(tactic| walk_at "eval Name") => `(tactic| with_reducible (refine' nmR ?cF ?cR ?hv ?_; (case cF => assumption); (case cR => assumption); (case hv => ((repeat (first | exact InAt.here | apply InAt.there)); done))))
local macro_rules | `(tactic| walk_at "loadName") => `(tactic| with_reducible (refine' ldnM ?cF ?cR ?hv ?_; (case cF => assumption); (case cR => assumption); (case hv => ((repeat (first | exact InAt.here | apply InAt.there)); done))))
local macro_rules | `(tactic| walk_at "spliced") => `(tactic| first | refine args1 ?_ | refine args2 ?_)
local macro_rules | `(tactic| walk_at "newList") => `(tactic| ((rename Fr _ _ _ _ => F0); (rename News _ _ _ _ => N0); (k_dflt (refine' newList_K F0 N0 ?_)); clear F0 N0; intro l' h' F' N' l1; (try k_lt l1)))

abbrev tupO (vs : List Value) : Obj := { cls := .type "tuple", data := .seq vs.toArray }
def ShortAre (h : Heap) (us : List Value) : Prop := ∀ j : Nat, j < 10 → ∃ (t : Addr) (y : Str) (c : Nat) (v : Int) (u1 u2 : Tok), us[j]? = some (.ref t) ∧ h.get? t = some (tupO [.str y u1, .int v u2]) ∧ y = SL [c] ∧ (c, v) ∈ shortTab
abbrev ShortCall (kd ku : Nat) (f : Addr) : Prop :=
  ∀ (w : World) (p : Program) (loose : List Str) (mean : ExcName → Option Value) (mg mb : Str → Option Value)
    (dp un : Nat) (fr : Option (List Env)) (gd : Option (List Code)) (s : Shared) (Q E : Value → Shared → Prop),
    (Mine.top1.heap_39 w.params).In s.heap → Top p loose mean mg mb s.heap → dp + kd < recursionLimit → un + ku < cLine →
    (∀ (a : Addr) (us : List Value) (k : Nat) (h' : Heap) (tk' : Nat), ShortAre h' us → h'.get? a = some (W.listOf us.toArray k) → s.heap.get? a = none → Kept s.heap h' → Q (.ref a) { s with heap := h', toks := tk' }) →
      wpAny (model Prog1 w) (At dp fr gd un) (call (.ref f) []) Q E s
local macro_rules | `(tactic| walk_at "spliced") => `(tactic| first | (with_reducible (refine' args_nil ?_)) | ((with_reducible (refine' args_cons ?_ ?spE)); (case spE => exact rfl)))
local macro_rules | `(tactic| walk_at "newTuple") => `(tactic| ((rename Fr _ _ _ _ => F0); (rename News _ _ _ _ => N0); (refine' kup_newTuple F0 N0 ?_ ?z; (case z => decide)); clear F0 N0; intro D' h' F' N' l1; (try dsimp only)))
theorem short_call : ShortCall 1 20 35 := by
  dsimp only [ShortCall]
  intro w p loose mean mg mb dp un fr gd s Q E X T hd hu hret
  have hfill : PySem.Challenge.rw_fz0005_01 = PySem.Challenge.rw_fz0005_01 ∧ Mine.top1.heap_39 w.params = Mine.top1.heap_39 w.params := ⟨rfl, rfl⟩
  revert hfill
  k_fill
  intro _
  refine' own_call (binds := []) ?k1 ?k2 ?k3 ?k4 ?k5 ?k6 ?k7 ?_ ?k8 ?k9 ?k10 ?k11
  case k1 => assumption
  case k2 => exact Top.nolimit (by assumption)
  case k3 => k_is
  case k4 => k_is
  case k5 => (first | omega | (dsimp only [At, Around.deeper]; omega))
  case k6 => exact BindsTo.of_eq rfl
  case k7 => exact locs rfl
  case k8 => decide
  case k9 => exact rfl
  case k10 => exact rfl
  case k11 => exact rfl
  intro L' h₁ F' N'
  have mkS := Marks.mk (s := s)
  dsimp only [List.reverse, List.reverseAux] at F'

  ((try k_fold); (repeat' walk1))
  refine Stop.to ?_
  rename Fr _ _ _ _ => Fe
  rename News _ _ _ _ => Ne
  have hm := Ne _ (.head _)
  refine hret _ _ _ _ _ ?_ hm.1 hm.2.2 (Kept.of_fr Fe)
  intro j hj
  have hc : j = 0 ∨ j = 1 ∨ j = 2 ∨ j = 3 ∨ j = 4 ∨ j = 5 ∨ j = 6 ∨ j = 7 ∨ j = 8 ∨ j = 9 := by omega
  rcases hc with rfl | rfl | rfl | rfl | rfl | rfl | rfl | rfl | rfl | rfl
  · exact ⟨_, _, 97, 7, _, _, rfl, (Ne _ (.tail _ (.tail _ (.tail _ (.tail _ (.tail _ (.tail _ (.tail _ (.tail _ (.tail _ (.tail _ (.head _)))))))))))).1, by decide +kernel, by simp [shortTab]⟩
  · exact ⟨_, _, 98, 8, _, _, rfl, (Ne _ (.tail _ (.tail _ (.tail _ (.tail _ (.tail _ (.tail _ (.tail _ (.tail _ (.tail _ (.head _))))))))))).1, by decide +kernel, by simp [shortTab]⟩
  · exact ⟨_, _, 102, 12, _, _, rfl, (Ne _ (.tail _ (.tail _ (.tail _ (.tail _ (.tail _ (.tail _ (.tail _ (.tail _ (.head _)))))))))).1, by decide +kernel, by simp [shortTab]⟩
  · exact ⟨_, _, 110, 10, _, _, rfl, (Ne _ (.tail _ (.tail _ (.tail _ (.tail _ (.tail _ (.tail _ (.tail _ (.head _))))))))).1, by decide +kernel, by simp [shortTab]⟩
  · exact ⟨_, _, 114, 13, _, _, rfl, (Ne _ (.tail _ (.tail _ (.tail _ (.tail _ (.tail _ (.tail _ (.head _)))))))).1, by decide +kernel, by simp [shortTab]⟩
  · exact ⟨_, _, 116, 9, _, _, rfl, (Ne _ (.tail _ (.tail _ (.tail _ (.tail _ (.tail _ (.head _))))))).1, by decide +kernel, by simp [shortTab]⟩
  · exact ⟨_, _, 118, 11, _, _, rfl, (Ne _ (.tail _ (.tail _ (.tail _ (.tail _ (.head _)))))).1, by decide +kernel, by simp [shortTab]⟩
  · exact ⟨_, _, 92, 92, _, _, rfl, (Ne _ (.tail _ (.tail _ (.tail _ (.head _))))).1, by decide +kernel, by simp [shortTab]⟩
  · exact ⟨_, _, 34, 34, _, _, rfl, (Ne _ (.tail _ (.tail _ (.head _)))).1, by decide +kernel, by simp [shortTab]⟩
  · exact ⟨_, _, 39, 39, _, _, rfl, (Ne _ (.tail _ (.head _))).1, by decide +kernel, by simp [shortTab]⟩

end Mine
namespace Mine
theorem pick_to (vs : List Value) {y : Int} (h : 0 ≤ y) : (slicePick vs.toArray none (some y) none).toList = vs.take y.toNat := by
  rw [kms_pick_eq]
  show (vs.drop (kms_lo none vs.length)).take (kms_hi (some y) vs.length - kms_lo none vs.length) = _
  have e1 : kms_lo none vs.length = 0 := rfl
  have e2 : kms_hi (some y) vs.length = min y.toNat vs.length := if_neg (by omega)
  rw [e1, e2]
  simp [List.take_eq_take_iff]
theorem pick_from (vs : List Value) {x : Int} (h : 0 ≤ x) : (slicePick vs.toArray (some x) none none).toList = vs.drop x.toNat := by
  rw [kms_pick_eq]
  show (vs.drop (kms_lo (some x) vs.length)).take (kms_hi none vs.length - kms_lo (some x) vs.length) = _
  have e1 : kms_lo (some x) vs.length = min x.toNat vs.length := if_neg (by omega)
  have e2 : kms_hi none vs.length = vs.length := rfl
  rw [e1, e2]
  by_cases hx : x.toNat ≤ vs.length
  · rw [Nat.min_eq_left hx]
    exact List.take_of_length_le (by simp)
  · rw [Nat.min_eq_right (by omega)]
    simp
    omega
/-- tuples whose firsts are texts -/
inductive TupIn (held : List (Addr × Obj)) : List Value → List (List Nat) → Prop
  | nil : TupIn held [] []
  | cons {t : Addr} {tk : Tok} {x : Value} {p : List Nat} {vs : List Value} {ls : List (List Nat)} : (t, tupO [.str (SL p) tk, x]) ∈ held → TupIn held vs ls → TupIn held (.ref t :: vs) (p :: ls)
theorem TupIn.mem {held : List (Addr × Obj)} {vs : List Value} {ls : List (List Nat)} (x : TupIn held vs ls) : ∀ v ∈ vs, ∃ (t : Addr) (tk : Tok) (y : Value) (p : List Nat), v = .ref t ∧ (t, tupO [.str (SL p) tk, y]) ∈ held := by
  induction x with
  | nil => intro v hv; cases hv
  | cons e _ ih =>
    intro v hv
    rcases List.mem_cons.mp hv with rfl | hv
    · exact ⟨_, _, _, _, rfl, e⟩
    · exact ih v hv
theorem TupIn.take {held : List (Addr × Obj)} {vs : List Value} {ls : List (List Nat)} (x : TupIn held vs ls) : ∀ k, TupIn held (vs.take k) (ls.take k) := by
  induction x with
  | nil => intro k; rw [List.take_nil, List.take_nil]; exact .nil
  | cons e _ ih =>
    intro k
    cases k with
    | zero => exact .nil
    | succ k => exact .cons e (ih k)
theorem TupIn.drop {held : List (Addr × Obj)} {vs : List Value} {ls : List (List Nat)} (x : TupIn held vs ls) : ∀ k, TupIn held (vs.drop k) (ls.drop k) := by
  induction x with
  | nil => intro k; rw [List.drop_nil, List.drop_nil]; exact .nil
  | cons e h ih =>
    intro k
    cases k with
    | zero => exact .cons e h
    | succ k => exact ih k
theorem tupO_first {a b c d : Value} (h : tupO [a, b] = tupO [c, d]) : a = c := by
  have := congrArg (fun o : Obj => match o.data with | .seq xs _ => xs.toList | _ => []) h
  simp at this
  exact this.1
theorem TupIn.paired {held : List (Addr × Obj)} {h : Heap} (hH : ∀ q ∈ held, h.get? q.1 = some q.2) {vs : List Value} {ls : List (List Nat)} (x : TupIn held vs ls) : ∀ {ys : List Value}, Paired (fun v y => ∃ (t : Addr) (z : Value), v = .ref t ∧ (t, tupO [y, z]) ∈ held) vs ys → StrsAre ys (ls.map SL) := by
  induction x with
  | nil => intro ys hp; cases hp; exact .nil
  | cons e _ ih =>
    intro ys hp
    cases hp with
    | cons hF ht =>
      obtain ⟨t, z, e1, e2⟩ := hF
      cases e1
      have h1 := hH _ e
      have h2 := hH _ e2
      dsimp only at h1 h2
      rw [h1] at h2
      have := tupO_first (Option.some.inj h2)
      rw [← this]
      exact .cons _ _ (ih ht)
section
variable {prog : Program} {w : World} {A : Around} {E : Value → Shared → Prop} {s : Shared} {env : Env}
theorem comp_first {iter : Expr} {x : Str} {px p1 p2 p3 : Pos} {k2 : Nat} {scope : Scope} {pos : Pos} {Q : Value → Shared → Prop} (held : List (Addr × Obj))
    (hh : A.handled = none) (hfree : ∀ y ∈ scope.names, y.2 ≠ .free) (hcell : ∀ y ∈ scope.names, y.2 ≠ .cell) (hkind : scope.kind = .function)
    (hnames : ∀ y ∈ scope.names, y.2 = .local → scope.names.lookup y.1 = some .local) (hx : scope.names.lookup x = some .local) (hd : (x == ("__debug__" : Str)) = false)
    (h : wpAny (model prog w) A (eval iter env) (fun xv s₁ => ∃ (ax : Addr) (items : List Value) (ls : List (List Nat)), xv = .ref ax ∧ s₁.heap.IsList ax items.toArray ∧ items.length ≤ 100 ∧ TupIn held items ls ∧ (∀ q ∈ held, s₁.heap.get? q.1 = some q.2) ∧
      ∀ (D : Addr) (h' : Heap) (tk : Nat) (ys : List Value), h'.IsList D ys.toArray → StrsAre ys (ls.map SL) → Kept s₁.heap h' → Q (.ref D) { s₁ with heap := h', toks := tk }) E s)
    (hs : ∀ x, foldedSetIterable iter env x = pure x := by intro _; rfl) :
    wpAny (model prog w) A (eval (.ListComp (.Subscript (.Name x p1) (.Constant (.int 0) k2 p2) p3) [⟨.Name x px, iter, [], 0⟩] scope pos) env) Q E s := by
  refine wpAny_ListComp_map (fun _ => true) (fun v y => ∃ (t : Addr) (z : Value), v = .ref t ∧ (t, tupO [y, z]) ∈ held) hh hfree hcell hkind hnames hx (wpAny_mono h (fun xv s₁ h₁ => ?_) fun _ _ e => e) hs
  obtain ⟨ax, items, ls, rfl, hl, hlen, hT, hK, hQ⟩ := h₁
  refine ⟨ax, _, rfl, hl, by rw [List.size_toArray, sizeLine_eq]; omega, fun C v s₂ m₂ E' _ _ _ _ => ?_, fun C v s₂ m₂ E' hv _ hn hm hk => ?_, fun D h' tk ys _ hD hF hk => ?_⟩
  · exact wpAny_tests_nil ⟨rfl, s₂.heap, s₂.toks, rfl, fun _ _ e => e⟩
  · obtain ⟨t, tk, y, p, rfl, e⟩ := hT.mem v (by simpa using hv)
    have e' := hk _ _ (hK _ e)
    refine Subscript_ (wpAny_Name (wpAny_loadName_local hkind hx hn hm ?_) hd)
    refine wpAny_Constant_int ?_
    exact item_tupleT (l := [.str (SL p) tk, y]) ⟨_, e', rfl, _, rfl⟩ (by decide) (by decide) (j := 0) rfl rfl ⟨⟨t, y, rfl, e⟩, s₂.heap, s₂.toks + 1, rfl, fun _ _ e => e⟩
  · have hp : Paired (fun v y => ∃ (t : Addr) (z : Value), v = .ref t ∧ (t, tupO [y, z]) ∈ held) items ys.toList := by
      have e : (items.toArray.toList.filter fun _ => true) = items := by simp
      rw [e] at hF
      exact hF
    refine hQ D h' tk ys.toList (by simpa using hD) (hT.paired hK hp) hk
end
end Mine
namespace Mine
/-! law 1: the pieces in the heap; facts of the written texts -/
inductive Holds (held : List (Addr × Obj)) : List Value → List Piece → Prop
  | nil : Holds held [] []
  | cons {t o : Addr} {tk : Tok} {us : List Value} {k : Nat} {p : List Nat} {bs : List (List Int)} {vs : List Value} {ps : List Piece} :
      (t, tupO [.str (SL p) tk, .ref o]) ∈ held → (o, W.listOf us.toArray k) ∈ held → IntsAre us bs.flatten → Holds held vs ps → Holds held (.ref t :: vs) ((p, bs) :: ps)
theorem Holds.mono {held held' : List (Addr × Obj)} {vs : List Value} {ps : List Piece} (h : Holds held vs ps) (hs : ∀ p ∈ held, p ∈ held') : Holds held' vs ps := by
  induction h with
  | nil => exact .nil
  | cons a b c _ ih => exact .cons (hs _ a) (hs _ b) c ih
theorem Holds.length {held : List (Addr × Obj)} {vs : List Value} {ps : List Piece} (h : Holds held vs ps) : vs.length = ps.length := by
  induction h with
  | nil => rfl
  | cons _ _ _ _ ih => simp [ih]
theorem Holds.get {held : List (Addr × Obj)} {vs : List Value} {ps : List Piece} (h : Holds held vs ps) : ∀ {i : Nat} {v : Value}, vs[i]? = some v →
    ∃ (t o : Addr) (tk : Tok) (us : List Value) (k : Nat) (p : List Nat) (bs : List (List Int)), v = .ref t ∧ ps[i]? = some (p, bs) ∧ (t, tupO [.str (SL p) tk, .ref o]) ∈ held ∧ (o, W.listOf us.toArray k) ∈ held ∧ IntsAre us bs.flatten := by
  induction h with
  | nil => intro i v hv; simp at hv
  | cons a b c _ ih =>
    intro i v hv
    cases i with
    | zero =>
      have := Option.some.inj hv
      subst this
      exact ⟨_, _, _, _, _, _, _, rfl, rfl, a, b, c⟩
    | succ i =>
      obtain ⟨t, o, tk, us, k, p, bs, h1, h2, h3⟩ := ih (i := i) (v := v) (by simpa using hv)
      exact ⟨t, o, tk, us, k, p, bs, h1, by simpa using h2, h3⟩
def Mild (held : List (Addr × Obj)) : Prop := ∀ p ∈ held, p.2.cls = .type "list" ∨ p.2.cls = .type "tuple"
theorem Mild.ne {held : List (Addr × Obj)} (h : Mild held) {p : Addr × Obj} (hp : p ∈ held) {n : String} (h1 : n ≠ "list") (h2 : n ≠ "tuple") : p.2.cls ≠ .type n := by
  intro e
  rcases h p hp with h | h
  · rw [h] at e; exact h1 (Value.type.inj e).symm
  · rw [h] at e; exact h2 (Value.type.inj e).symm
theorem ints_item {vs : List Value} {ns : List Int} (h : IntsAre vs ns) : ∀ {i : Nat} {v : Value}, vs[i]? = some v → ∃ n t, v = .int n t := by
  induction h with
  | nil => intro i v hv; simp at hv
  | cons n t _ ih =>
    intro i v hv
    cases i with
    | zero => exact ⟨n, t, by simpa using hv.symm⟩
    | succ i => exact ih (i := i) (by simpa using hv)
def HeadOk (l : List Nat) : Prop := ∀ c r, l = c :: r → (Unicode.isSpace c && decide (c < 128)) = true → white c = true
theorem HeadOk.nil : HeadOk [] := fun _ _ h => nomatch h
theorem HeadOk.of {c : Nat} {r : List Nat} (h : (Unicode.isSpace c && decide (c < 128)) = true → white c = true) : HeadOk (c :: r) := fun _ _ e => by
  cases e; exact h
theorem HeadOk.bs {r : List Nat} : HeadOk (92 :: r) := .of fun h => by
  have : (Unicode.isSpace 92 && decide (92 < 128)) = false := by decide +kernel
  rw [this] at h; cases h
abbrev plainL : List Nat := [120, 122, 117, 48, 97, 70, 57, 125, 123, 32, 9, 11, 12, 39, 34, 45, 160, 233, 2047, 2048, 12288, 65518, 65536, 1114111]
theorem lit_plain1 : Str.ofString "xzu0aF9}{ \t\x0b\x0c'\"-\u00a0\u00e9\u07ff\u0800\u3000\uffee𐀀􏿿" = SL plainL := by decide +kernel
theorem lit_white1 : Str.ofString " \t\n\r\x0b\x0c" = SL [32, 9, 10, 13, 11, 12] := by decide +kernel
theorem lit_bs : Str.ofString "\\" = SL [92] := by decide +kernel
theorem lit_bsx : Str.ofString "\\x" = SL [92, 120] := by decide +kernel
theorem lit_bsu : Str.ofString "\\u{" = SL [92, 117, 123] := by decide +kernel
theorem lit_bsz : Str.ofString "\\z" = SL [92, 122] := by decide +kernel
theorem lit_0 : Str.ofString "0" = SL [48] := by decide +kernel
theorem lit_close : Str.ofString "}" = SL [125] := by decide +kernel
theorem short_range {c : Nat} {v : Int} (h : (c, v) ∈ shortTab) : 0 ≤ v ∧ v < 256 := by
  have key : ∀ q ∈ shortTab, 0 ≤ q.2 ∧ q.2 < 256 := by decide
  exact key _ h
theorem plain_tok {v : Int} (h0 : 0 ≤ v) (h1 : v < 24) : ∃ c, plainL[v.toNat]? = some c ∧ c ≠ 92 ∧ c < 1114112 ∧ Str.isSurrogate c = false ∧ ((Unicode.isSpace c && decide (c < 128)) = true → white c = true) := by
  have key : ∀ k : Nat, k < 24 → (plainL[k]?).any (fun c => (c != 92) && decide (c < 1114112) && (! Str.isSurrogate c) && (! (Unicode.isSpace c && decide (c < 128)) || white c)) = true := by decide +kernel
  have h := key v.toNat (by omega)
  cases hc : plainL[v.toNat]? with
  | none => rw [hc] at h; cases h
  | some c =>
    rw [hc] at h
    simp only [Option.any_some, Bool.and_eq_true, bne_iff_ne, ne_eq, decide_eq_true_eq, Bool.not_eq_true', Bool.or_eq_true] at h
    exact ⟨c, rfl, h.1.1.1, h.1.1.2, h.1.2, fun e => by
      rcases h.2 with h | h
      · rw [e] at h; cases h
      · exact h⟩
theorem white_tok {v : Int} (h0 : 0 ≤ v) (h1 : v < 6) : ∃ c, ([32, 9, 10, 13, 11, 12] : List Nat)[v.toNat]? = some c ∧ white c = true := by
  have key : ∀ k : Nat, k < 6 → ∃ c, ([32, 9, 10, 13, 11, 12] : List Nat)[k]? = some c ∧ white c = true := by
    intro k hk
    have : k = 0 ∨ k = 1 ∨ k = 2 ∨ k = 3 ∨ k = 4 ∨ k = 5 := by omega
    rcases this with e | e | e | e | e | e <;> subst e <;> exact ⟨_, rfl, rfl⟩
  exact key _ (by omega)
theorem white_in {c : Nat} (h : white c = true) : (Builtin.Str.occurrences (Str.ofString " \t\n\r\x0b\x0c") (SL [c]) 0 (Str.ofString " \t\n\r\x0b\x0c").length 1).isEmpty = !true := by
  have : c = 32 ∨ c = 9 ∨ c = 10 ∨ c = 11 ∨ c = 12 ∨ c = 13 := by
    simp [white] at h; omega
  rcases this with rfl | rfl | rfl | rfl | rfl | rfl <;> decide +kernel
/-- the text of a small number -/
theorem small_text {n : Int} (h0 : 0 ≤ n) (h1 : n < 128) : ∃ ds : List Nat, Str.ofString (toString n) = SL ds ∧ (∀ c ∈ ds, isDec c = true) ∧ ds ≠ [] ∧ ds.length ≤ 3 ∧ (decV ds : Int) = n := by
  have key : ∀ k : Nat, k < 128 → (Str.ofString (toString (k : Int)) == SL (Str.ofString (toString (k : Int))).cps.toList && ((Str.ofString (toString (k : Int))).cps.toList.all isDec && (Str.ofString (toString (k : Int))).cps.toList != [] && decide ((Str.ofString (toString (k : Int))).cps.toList.length ≤ 3) && (decV (Str.ofString (toString (k : Int))).cps.toList == k))) = true := by decide +kernel
  have h := key n.toNat (by omega)
  rw [show ((n.toNat : Nat) : Int) = n by omega] at h
  simp only [Bool.and_eq_true, beq_iff_eq, List.all_eq_true, bne_iff_ne, ne_eq, decide_eq_true_eq] at h
  exact ⟨_, h.1, h.2.1.1.1, h.2.1.1.2, h.2.1.2, by rw [h.2.2]; omega⟩
theorem str_small {prog : Program} {w : World} {A : Around} {E : Value → Shared → Prop} {s : Shared} {Q : Value → Shared → Prop} {n : Int} {t : Tok} (h0 : 0 ≤ n) (h1 : n < 128)
    (h : ∀ (ds : List Nat), (∀ c ∈ ds, isDec c = true) → ds ≠ [] → ds.length ≤ 3 → (decV ds : Int) = n → Q (.str (SL ds) s.toks) { s with toks := s.toks + 1 }) : wpAny (model prog w) A (call (.type "str") [.int n t]) Q E s := by
  obtain ⟨ds, e, h2, h3, h4, h5⟩ := small_text h0 h1
  refine PySem.P.str_of_int ?_ ?_
  · have : n.natAbs < 2 ^ 7 := by omega
    by_cases hz : n.natAbs = 0
    · rw [hz]; decide
    · have := (Nat.log2_lt hz).mpr this
      omega
  · rw [e]
    exact h ds h2 h3 h4 h5
theorem isdigit_take {prog : Program} {w : World} {A : Around} {E : Value → Shared → Prop} {s : Shared} {Q : Value → Shared → Prop} {l : List Nat} {b : Bool} {t : Tok} (hb : digitHead l = b) (h : Q (.bool b) s) :
    wpAny (model prog w) A (call (.builtin "str.isdigit") [.str (SL (l.take 1)) t]) Q E s := by
  subst hb
  cases l with
  | nil => exact call_isdigit0 h
  | cons c r => exact call_isdigit rfl h
theorem Holds.tups {held : List (Addr × Obj)} {vs : List Value} {ps : List Piece} (h : Holds held vs ps) : TupIn held vs (ps.map (·.1)) := by
  induction h with
  | nil => exact .nil
  | cons a _ _ _ ih => exact .cons a ih
theorem oct_take_succ {ps : List Piece} {i : Nat} {p : List Nat} {bs : List (List Int)} (h : ps[i]? = some (p, bs)) : (oct (ps.take (i + 1))).flatten = (oct (ps.take i)).flatten ++ bs.flatten := by
  rw [List.take_add_one, h]
  unfold oct
  simp
theorem oct_take_len (ps : List Piece) (i : Nat) : (oct (ps.take i)).flatten.length ≤ (oct ps).flatten.length ∧ (oct (ps.drop i)).flatten.length ≤ (oct ps).flatten.length ∧ (oct (ps.take i)).length ≤ (oct ps).length ∧ (oct (ps.drop i)).length ≤ (oct ps).length ∧ (txt (ps.take i)).length ≤ (txt ps).length ∧ (txt (ps.drop i)).length ≤ (txt ps).length := by
  have h := oct_cut ps i
  have h2 := congrArg (fun x => x.flatten.length) h
  have h3 := congrArg List.length h
  have h4 := congrArg List.length (txt_cut ps i)
  simp only [List.flatten_append, List.length_append] at h2 h3 h4
  refine ⟨?_, ?_, ?_, ?_, ?_, ?_⟩ <;> omega
theorem byteArr_app (a b : List Int) : byteArr a ++ byteArr b = byteArr (a ++ b) := by
  simp [byteArr]
section
variable {prog : Program} {w : World} {A : Around} {E : Value → Shared → Prop} {s : Shared} {Q : Value → Shared → Prop}
theorem add_ba {a b : List Int} {t u : Tok} (hz : a.length + b.length ≤ 1000000) (h : ∀ t' k, Q (.bytes (byteArr (a ++ b)) t') { s with toks := k }) : wpAny (model prog w) A (binaryOp .Add (.bytes (byteArr a) t) (.bytes (byteArr b) u)) Q E s := by
  refine KBy.add_bytes (by rw [byteArr_size, byteArr_size]; omega) fun t' k => ?_
  rw [byteArr_app]
  exact h t' k
theorem eq_ba {a : List Int} {t u : Tok} (h : Q (.bool true) s) : wpAny (model prog w) A (compareOp .Eq (.bytes (byteArr a) t) (.bytes (byteArr a) u)) Q E s := by
  refine eq_bytes ?_
  simpa using h
end
end Mine
namespace Mine

local macro_rules | `(tactic| walk_at "own at") => `(tactic| with_reducible (repeat (first | exact InAt.here | apply InAt.there)))
local macro_rules | `(tactic| walk_at "own put") => `(tactic| with_reducible (repeat (first | exact PutAt.here | apply PutAt.there)))
local macro_rules | `(tactic| walk_at "own sub") => `(tactic| first | exact SubAt.nil | (refine SubAt.keep ?_; walk_at "own sub") | (refine SubAt.drop ?_; walk_at "own sub"))
local macro_rules | `(tactic| walk_at "Back") => `(tactic| ((try dsimp only); (refine Back.of (Stop.of ?_))))
local macro_rules | `(tactic| walk_at "exec While") => `(tactic| refine Stop.of ?_)
local macro_rules | `(tactic| walk_at "exec While Compare") => `(tactic| refine Stop.of ?_)
local macro_rules | `(tactic| walk_at "exec While Compare cons nil") => `(tactic| refine Stop.of ?_)
local macro_rules | `(tactic| walk_at "exec While BoolOp") => `(tactic| refine Stop.of ?_)
local macro_rules | `(tactic| walk_at "exec While BoolOp cons nil") => `(tactic| refine Stop.of ?_)
local macro_rules | `(tactic| walk_at "exec While Compare cons") => `(tactic| refine Stop.of ?_)
local macro_rules | `(tactic| walk_at "exec While BoolOp cons") => `(tactic| refine Stop.of ?_)
local macro_rules | `(tactic| walk_at "exec For") => `(tactic| refine Stop.of ?_)
local macro_rules | `(tactic| walk_at "exec For Name") => `(tactic| refine Stop.of ?_)
local macro_rules | `(tactic| walk_at "exec For Name Call") => `(tactic| refine Stop.of ?_)
local macro_rules | `(tactic| walk_at "exec For Name Call cons nil") => `(tactic| refine Stop.of ?_)
local macro_rules | `(tactic| walk_at "exec For Name Name") => `(tactic| refine Stop.of ?_)
local macro_rules | `(tactic| walk_at "exec For Name Name cons nil") => `(tactic| refine Stop.of ?_)
local macro_rules | `(tactic| walk_at "exec For Name Subscript") => `(tactic| refine Stop.of ?_)
local macro_rules | `(tactic| walk_at "exec For Name Subscript cons nil") => `(tactic| refine Stop.of ?_)
local macro_rules | `(tactic| walk_at "exec For Tuple") => `(tactic| refine Stop.of ?_)
local macro_rules | `(tactic| walk_at "exec For Tuple Name") => `(tactic| refine Stop.of ?_)
local macro_rules | `(tactic| walk_at "exec For Tuple Name cons nil") => `(tactic| refine Stop.of ?_)
local macro_rules | `(tactic| walk_at "exec For Name Call cons") => `(tactic| refine Stop.of ?_)
local macro_rules | `(tactic| walk_at "exec For Name Subscript cons") => `(tactic| refine Stop.of ?_)
local macro_rules | `(tactic| walk_at "exec For Tuple Name cons") => `(tactic| refine Stop.of ?_)
local macro_rules | `(tactic| walk_at "WPost") => `(tactic| refine Stop.of ?_)
local macro_rules | `(tactic| walk_at "execs cons") => `(tactic| k_dflt ((refine' execs_mk ?mk ?hs ?he ?_; (case mk => assumption); (case hs => exact rfl); (case he => exact rfl)); intro tkx))
local macro_rules | `(tactic| walk_at "execs nil") => `(tactic| refine wpAny_execs_nil ?_)
local macro_rules | `(tactic| walk_at "exec Assign") => `(tactic| refine wpAny_Assign_Name ?_)
local macro_rules | `(tactic| walk_at "exec If") => `(tactic| refine wpAny_If ?_)
local macro_rules | `(tactic| walk_at "storeName") => `(tactic| k_dflt ((rename Fr _ _ _ _ => F0); (rename News _ _ _ _ => N0); (rename Rd _ _ _ _ => R0); (refine' stM F0 N0 R0 ?mk ?hs ?hv ?_; (case mk => assumption); (case hs => exact rfl); (case hv => with_reducible (repeat (first | exact PutAt.here | apply PutAt.there)))); clear F0 N0 R0; intro h1 m1 tk1 F1 N1 R1))
local macro_rules | `(tactic| walk_at "own room") => `(tactic| first | omega | (dsimp only [At, Around.deeper, Around.in1]; omega))
local macro_rules | `(tactic| walk_at "ite") => `(tactic| first
  | refine ite_t rfl ?_ | refine ite_f bool_f ?_
  | refine ite_t (dec_t (by omega)) ?_ | refine ite_f (dec_f (by omega)) ?_ | refine ite_t (by assumption) ?_ | refine ite_f (by assumption) ?_ | fail "own ite: undecided")
local macro_rules | `(tactic| walk_at "And") => `(tactic| (refine And.intro (Frag.In.keeps (by assumption) (Fr.keep (by assumption))) ?_))
local macro_rules | `(tactic| walk_at "eval Name") => `(tactic| k_dflt (first
  | (refine' name_K ?k0 ?k1 ?k2 ?k3 ?_; (case k0 => with_reducible assumption); (case k1 => k_asm); (case k2 => k_asm); (case k3 => k_is))
  | (refine' name_B ?k0 ?k1 ?k2 ?k3 ?k4 ?k5 ?_; (case k0 => with_reducible assumption); (case k1 => k_asm); (case k2 => k_asm); (case k3 => k_is); (case k4 => boot_by_name); (case k5 => decide))))
local macro_rules | `(tactic| walk_at "eval Name") => `(tactic| with_reducible (refine' nmR ?cF ?cR ?hv ?_; (case cF => assumption); (case cR => assumption); (case hv => ((repeat (first | exact InAt.here | apply InAt.there)); done))))
local macro_rules | `(tactic| walk_at "loadName") => `(tactic| with_reducible (refine' ldnM ?cF ?cR ?hv ?_; (case cF => assumption); (case cR => assumption); (case hv => ((repeat (first | exact InAt.here | apply InAt.there)); done))))
local macro_rules | `(tactic| walk_at "spliced") => `(tactic| first | refine args1 ?_ | refine args2 ?_)
local macro_rules | `(tactic| walk_at "newList") => `(tactic| ((rename Fr _ _ _ _ => F0); (rename News _ _ _ _ => N0); (k_dflt (refine' newList_K F0 N0 ?_)); clear F0 N0; intro l' h' F' N' l1; (try k_lt l1)))

local macro_rules | `(tactic| walk_at "FPost") => `(tactic| refine Stop.of ?_)
local macro_rules | `(tactic| walk_at "binaryOp Mod int int") => `(tactic| refine mod_e (by omega) ?_)
local macro_rules | `(tactic| walk_at "binaryOp FloorDiv int int") => `(tactic| refine div_e (by omega) (by omega) ?_)
local macro_rules | `(tactic| walk_at "call type:range") => `(tactic| ((rename Fr _ _ _ _ => F0); (rename News _ _ _ _ => N0); (k_dflt (refine' range1_rows F0 N0 ?_)); clear F0 N0; intro h' tk' t1' u1' v1' rg' F' N' _))
local macro_rules | `(tactic| walk_at "pyIter ref") => `(tactic| refine Stop.of ?_)

local macro_rules | `(tactic| walk_at "call ref") => `(tactic| refine Stop.of ?_)
local macro_rules | `(tactic| walk_at "CPost") => `(tactic| refine Stop.of ?_)
local macro_rules | `(tactic| walk_at "GoodW") => `(tactic| refine Stop.of ?_)
local macro_rules | `(tactic| walk_at "execs cons") => `(tactic| ((with_reducible show wpAny _ _ (execs (Stmt.If _ _ _ _ :: _ :: _) _) _ _ _); refine Stop.of ?_))
local macro_rules | `(tactic| walk_at "call builtin:list.append") => `(tactic| refine Stop.of ?_)
local macro_rules | `(tactic| walk_at "binaryOp Add ref ref") => `(tactic| refine Stop.of ?_)
local macro_rules | `(tactic| walk_at "subscriptTail Name Slice str ref") => `(tactic| refine Stop.of ?_)
local macro_rules | `(tactic| walk_at "subscriptTail Name BinOp str int") => `(tactic| refine Stop.of ?_)
local macro_rules | `(tactic| walk_at "subscriptTail BinOp Slice str ref") => `(tactic| refine Stop.of ?_)
local macro_rules | `(tactic| walk_at "subscriptTail Call Name nil nil BinOp ref int") => `(tactic| refine Stop.of ?_)
local macro_rules | `(tactic| walk_at "newTuple") => `(tactic| ((rename Fr _ _ _ _ => F0); (rename News _ _ _ _ => N0); (refine' kup_newTuple F0 N0 ?_ ?z; (case z => decide)); clear F0 N0; intro D' h' F' N' l1; (try dsimp only)))
local macro_rules | `(tactic| walk_at "spliced") => `(tactic| first | (with_reducible (refine' args_nil ?_)) | ((with_reducible (refine' args_cons ?_ ?spE)); (case spE => exact rfl)))
local macro_rules | `(tactic| walk_at "binaryOp Add str str") => `(tactic| ((refine cat_sl (by first | rfl | with_reducible exact lit_bs | with_reducible exact lit_bsx | with_reducible exact lit_bsu | with_reducible exact lit_bsz | with_reducible exact lit_close | with_reducible exact lit_0) (by first | with_reducible exact lit_bs | with_reducible exact lit_bsx | with_reducible exact lit_bsu | with_reducible exact lit_bsz | with_reducible exact lit_close | with_reducible exact lit_0 | with_reducible rfl) (by first | omega | (simp; omega) | (simp; done)) ?_); intro t' k'))
local macro_rules | `(tactic| walk_at "binaryOp Pow int int") => `(tactic| ((refine pow2_e (by omega) (by omega) ?_); intro pw pw0 pw1))
local macro_rules | `(tactic| walk_at "binaryOp Mult str int") => `(tactic| ((refine mul_one lit_0 (by omega) (by omega) ?_); intro t' k'))
local macro_rules | `(tactic| walk_at "call builtin:ord") => `(tactic| refine PyProof.P.ord_of_char ?_)
local macro_rules | `(tactic| walk_at "call type:str") => `(tactic| ((refine str_small (by omega) (by omega) ?_); intro ds hds hdn hdl hdv))
local macro_rules | `(tactic| walk_at "call builtin:str.isdigit") => `(tactic| refine isdigit_take (by assumption) ?_)
local macro_rules | `(tactic| walk_at "call builtin:len") => `(tactic| ((with_reducible show wpAny _ _ (call (Value.builtin "len") [Value.str (SL _) _]) _ _ _); refine len_sl (by omega) ?_))
local macro_rules | `(tactic| walk_at "compareOp NotEq str str") => `(tactic| first | refine ne_nil_f lit_emp1 ?_ | refine ne_nil_t lit_emp1 ?_)
local macro_rules | `(tactic| walk_at "compareOp In str str") => `(tactic| first | refine in_lit (b := true) (by assumption) ?_ | refine in_lit (b := false) (by assumption) ?_)
theorem mod_pw {prog : Program} {w : World} {A : Around} {E : Value → Shared → Prop} {s : Shared} {Q : Value → Shared → Prop} {a b : Int} {t u : Tok} (hb : 0 < b) (h : ∀ number : Int, 0 ≤ number → number < b → Q (.int number s.toks) { s with toks := s.toks + 1 }) : wpAny (model prog w) A (binaryOp .Mod (.int a t) (.int b u)) Q E s :=
  mod_e hb (h _ (Int.emod_nonneg _ (by omega)) (Int.emod_lt_of_pos _ hb))
local macro_rules | `(tactic| walk_at "binaryOp Mod int int") => `(tactic| first | refine mod_e (by decide) ?_ | ((refine mod_pw (by assumption) ?_); intro number hn0 hn1))
structure VS1 where
  T : Addr
  ts : List Value
  k : Nat
local macro_rules | `(tactic| walk_at "call builtin:list.reverse") => `(tactic| refine Stop.of ?_)
local macro_rules | `(tactic| walk_at "eval ListComp") => `(tactic| refine Stop.of ?_)
local macro_rules | `(tactic| walk_at "subscriptTail Name Slice ref ref") => `(tactic| ((with_reducible show wpAny _ _ (subscriptTail (Expr.Name (Str.ofString "pieces") _) _ _ _) _ _ _); refine Stop.of ?_))
local macro_rules | `(tactic| walk_at "call builtin:len") => `(tactic| ((with_reducible show wpAny _ _ (call (Value.builtin "len") [Value.ref _]) _ _ _); refine Stop.of ?_))
local macro_rules | `(tactic| walk_at "call builtin:str.join") => `(tactic| refine Stop.of ?_)
local macro_rules | `(tactic| walk_at "call type:bytes") => `(tactic| refine Stop.of ?_)
local macro_rules | `(tactic| walk_at "binaryOp Add bytes bytes") => `(tactic| refine Stop.of ?_)
local macro_rules | `(tactic| walk_at "compareOp Eq bytes bytes") => `(tactic| refine eq_ba ?_)
structure WS1 where
  ws : List Nat
  tw : Tok
  tr : Tok
structure DS1 where
  ds : List Nat
  td : Tok
  tn : Tok
  tr : Tok
theorem News.sub1 {h₀ h : Heap} {L : Addr} {news news' : List (Addr × Obj)} (N : News h₀ L h news) (hs : ∀ p ∈ news', p ∈ news) : News h₀ L h news' := fun p hp => N p (hs p hp)
structure TS1 where
  us : List Value
  np : Nat
  l : List Nat
  tl : Tok
  ps : List Piece
  held : List (Addr × Obj)
structure PS1 where
  p : List Nat
  tp : Tok
  o : Addr
  ous : List Value
  ok : Nat
  bs : List (List Int)
structure HS1 where
  head : Int
  th : Tok
theorem law1 : PySem.Challenge.rw_fz0005_01.Holds := Mine.top1 (by
  k_go0
  (all_goals try k_fold)
  rename Fr _ _ _ _ => F'
  rename News _ _ _ _ => N'
  rename IntsAre _ _ => hI
  rename Frag.In _ _ => X
  rename Top _ _ _ _ _ _ => T
  rename Heap.IsList _ _ _ => hS
  rename ¬ _ => hlen
  rename Shared => s
  have mkS := Marks.mk (s := s)
  obtain ⟨S, eS⟩ := isl_name hS
  subst eS
  refine noE ?_
  dsimp only [List.reverse, List.reverseAux] at F'
  refine enterR [Str.ofString "script", Str.ofString "head", Str.ofString "pieces", Str.ofString "inside", Str.ofString "cell", Str.ofString "deed", Str.ofString "rest", Str.ofString "white", Str.ofString "piece", Str.ofString "octets", Str.ofString "sign", Str.ofString "number", Str.ofString "turn", Str.ofString "told", Str.ofString "place", Str.ofString "left", Str.ofString "right"] [none, none, none, none, none, none, none, none, none, none, none, none, none, none, none, none, none] F' ⟨rfl, by decide +kernel, by decide +kernel, by decide +kernel⟩ rfl ?_
  intro R0
  have R0 := Rd.add R0 (x := Str.ofString "script") rfl (.here)
  refine' cutR (σ := HS1) F' R0 (fun _ => []) (fun c => [some (.ref S), some (.int c.head c.th), none, none, none, none, none, none, none, none, none, none, none, none, none, none, none]) (fun _ => True) mkS rfl ?st ?rest
  case st =>
    intro tk
    ((try k_fold); (repeat' walk1))
    all_goals
      refine Stop.to ?_
      rename Fr _ _ _ _ => Fa
      rename News _ _ _ _ => Na
      rename Rd _ _ _ _ => Ra
      exact CPost.next (σ := HS1) ⟨_, _⟩ Fa Na Ra (fun p hp => nomatch hp) (by walk_at "own sub") trivial
  clear F' N' R0
  rintro ⟨head, th⟩ h0 tk0 m0 _ F N R
  dsimp only at F N R
  ((try k_fold); (repeat' walk1))
  refine Stop.to ?_
  rename Fr _ _ _ _ => Ff
  rename Rd _ _ _ _ => Rf
  refine' forR Ff Rf (by simp) ?_
  ((try k_fold); (repeat' walk1))
  refine Stop.to ?_
  rename Fr _ _ _ _ => Ff
  rename News _ _ _ _ => Nf
  rename Rd _ _ _ _ => Rf
  rename IntsAre _ (List.take _ _) => hC
  rename List.length _ = min _ _ => hCl
  rename @LT.lt Nat _ _ _ => hPC
  obtain ⟨C, P, eC, eP⟩ := names2 Nf
  subst eC eP
  obtain ⟨cvs, ecv⟩ := ints_name hC
  subst ecv
  have hcn : cvs.length ≤ 20 := by rw [hC.length, hCl]; omega
  refine' forListL (σ := TS1) (fun c => (P, W.listOf c.us.toArray c.np) :: c.held) (fun c => [some (.ref S), some (.int head th), some (.ref P), some (.str (SL c.l) c.tl), none, none, none, none, none, none, none, none, none, none, none, none, none]) (fun c v => [some (.ref S), some (.int head th), some (.ref P), some (.str (SL c.l) c.tl), some v, none, none, none, none, none, none, none, none, none, none, none, none])
    (fun i c => Holds c.held c.us.reverse c.ps ∧ Chain c.ps ∧ c.l = txt c.ps ∧ HeadOk c.l ∧ Mild c.held ∧ (∀ p ∈ c.held, p.1 ≠ P) ∧ c.ps.length = i ∧ c.l.length ≤ 20 * i ∧ (oct c.ps).flatten.length ≤ 6 * i ∧ (oct c.ps).length ≤ i ∧ (∀ x ∈ (oct c.ps).flatten, 0 ≤ x ∧ x < 256))
    ⟨[], 0, [], _, [], []⟩ mkS rfl rfl Ff Nf Rf (.head _) (fun p hp => by rw [List.mem_singleton.mp hp]; exact .tail _ (.head _)) (by walk_at "own sub") ⟨.nil, .nil, rfl, .nil, (fun p hp => nomatch hp), (fun p hp => nomatch hp), rfl, Nat.zero_le _, Nat.zero_le _, Nat.zero_le _, (fun x hx => nomatch hx)⟩ (fun c v => .there (.there (.there (.there (.here))))) ?cls ?turn ?done
  case cls =>
    rintro i c ⟨_, _, _, _, hmild, _⟩ p hp
    rcases List.mem_cons.mp hp with rfl | hp
    · exact .inl (list_ne (by decide))
    · exact .inl (hmild.ne hp (by decide) (by decide))
  case done =>
    clear Ff Nf Rf
    rintro ⟨us, np, l, tl, ps, held⟩ h tk m' ⟨hho, hch, hl, hhd, hmi, hnP, hpl, hll, hfl, hol, hoc⟩ F N R
    dsimp only at hho hch hl hhd hmi hnP hpl hll hfl hol hoc F N R
    have hpc : ps.length ≤ 20 := by omega
    have huc : us.length ≤ 20 := by have := hho.length; rw [List.length_reverse] at this; omega
    have htl : (txt ps).length ≤ 20 * cvs.length := by rw [← hl]; exact hll
    have hhP : ∀ q ∈ held, q.1 ≠ P := hnP
    ((try k_fold); (repeat' walk1))
    refine Stop.to ?_
    rename Fr _ _ _ _ => F1
    rename News _ _ _ _ => N1
    rename Rd _ _ _ _ => R1
    refine kl_reverse F1 N1 (its := us.toArray) (l := us.reverse) (by simp) (.head hnP) (by rw [sizeLine_eq]; simp; omega) ?_
    intro h5 Fe Ne
    clear F1 N1
    dsimp only
    ((try k_fold); (repeat' walk1))
    refine Stop.to ?_
    rename Fr _ _ _ _ => Ff
    rename Rd _ _ _ _ => Rf
    refine forT Ff Rf ?_
    ((try k_fold); (repeat' walk1))
    refine Stop.to ?_
    rename Fr _ _ _ _ => Ff
    rename News _ _ _ _ => Nf
    rename Rd _ _ _ _ => Rf
    obtain ⟨T0, eT⟩ := news_head Nf
    subst eT
    refine' forListT (σ := VS1) (fun c => (c.T, W.listOf c.ts.toArray c.k) :: (P, W.listOf us.reverse.toArray np) :: held) (fun c => [some (.ref S), some (.int head th), some (.ref P), some (.str (SL l) tl), none, none, none, none, none, none, none, none, none, some (.ref c.T), none, none, none]) (fun i c => IntsAre c.ts (oct (ps.take i)).flatten)
      ⟨T0, [], _⟩ mkS rfl rfl Ff Nf Rf (.tail _ (.head _)) (fun p hp => hp) (by walk_at "own sub") .nil ?cls3 ?turn3 ?done3
    case cls3 =>
      rintro i c _ p hp
      rcases List.mem_cons.mp hp with rfl | hp
      · exact .inl (list_ne (by decide))
      rcases List.mem_cons.mp hp with rfl | hp
      · exact .inl (list_ne (by decide))
      · exact .inl (hmi.ne hp (by decide) (by decide))
    case turn3 =>
      clear Ff Nf Rf mkS
      rintro i ⟨T1, ts, k⟩ v I it lo s₁ m' mk1 hi hts hcl hne F N R
      dsimp only at hts hne F N R
      obtain ⟨t, o, tk, us', k', p, bs, rfl, hps, ht, ho, hio⟩ := hho.get hi
      have hcat := oct_take_succ hps
      have hlen := (oct_take_len ps (i + 1)).1
      rw [hcat, List.length_append] at hlen
      refine unpackN_ F N ⟨_, (N _ (List.mem_append.mpr (.inl (.tail _ (.tail _ ht))))).1, rfl, _, rfl⟩ rfl rfl rfl ?_
      intro h5 F5 N5
      clear F N
      dsimp only
      ((try k_fold); (repeat' walk1))
      refine Stop.to ?_
      rename Fr _ _ _ _ => Fx
      rename News _ _ _ _ => Nx
      rename Rd _ _ _ _ => Rx
      refine kmk_add_ints Fx Nx (Nx.isList (a := T1) (by first | exact .head _ | exact List.mem_append.mpr (.inl (.head _)))) (Nx.isList (a := o) (by first | exact List.mem_append.mpr (.inl (.tail _ (.tail _ ho))) | exact .tail _ (.tail _ (List.mem_append.mpr (.inl ho))))) hts hio ?_ (by rw [sizeLine_eq]; omega)
      intro D us5 h6 Fe Ne l1 hiE
      clear Fx Nx
      dsimp only
      ((try k_fold); (repeat' walk1))
      refine Stop.to ?_
      rename Fr _ _ _ _ => Fy
      rename News _ _ _ _ => Ny
      rename Rd _ _ _ _ => Ry
      refine CPost.next (σ := VS1) ⟨D, us5, 0⟩ Fy Ny Ry ?_ (by walk_at "own sub") (by show IntsAre us5 _; rw [hcat]; exact hiE)
      intro q hq
      rcases List.mem_append.mp hq with hq | hq
      · rcases List.mem_cons.mp hq with rfl | hq
        · exact .head _
        · exact .tail _ (by first | exact List.mem_append.mpr (.inl (.tail _ hq)) | exact .tail _ (List.mem_append.mpr (.inl hq)))
      · exact .tail _ (by first | exact List.mem_append.mpr (.inr hq) | exact .tail _ (.tail _ (List.mem_append.mpr (.inr hq))))
    case done3 =>
      clear Ff Nf Rf
      rintro ⟨T1, ts, k⟩ h tk m' hts F N R
      dsimp only at hts F N R
      rw [hho.length, List.take_length] at hts
      ((try k_fold); (repeat' walk1))
      refine Stop.to ?_
      rename Fr _ _ _ _ => F1
      rename News _ _ _ _ => N1
      rename Rd _ _ _ _ => R1
      refine kst_len N1 (us := us.reverse) (c := np) (by first | exact .head _ | exact .tail _ (.head _) | exact .tail _ (.tail _ (.head _)) | exact .tail _ (.tail _ (.tail _ (.head _)))) rfl (by rw [List.length_reverse]; omega) ?_
      have hpos : 0 < ((us.reverse.length : Int) + 1) := by omega
      ((try k_fold); (repeat' walk1))
      rename Int => number
      have hn0 : 0 ≤ number := by assumption
      refine Stop.to ?_
      rename Fr _ _ _ _ => Fc1
      rename News _ _ _ _ => Nc1
      rename Rd _ _ _ _ => Rc1
      refine comp_first held rfl (by decide) (by decide) rfl (by decide) rfl (by decide) ?_
      ((try k_fold); (repeat' walk1))
      refine Stop.to ?_
      rename Fr _ _ _ _ => Fs1
      rename News _ _ _ _ => Ns1
      rename Rd _ _ _ _ => Rs1
      refine kmk_slice_lit Fs1 Ns1 (Ns1.isList (a := P) (by first | exact .head _ | exact .tail _ (.head _) | exact .tail _ (.tail _ (.head _)) | exact .tail _ (.tail _ (.tail _ (.head _))))) .none (.int number _) (pick_to us.reverse hn0) ?_ (by with_unfolding_all rfl) (by intro _; with_unfolding_all rfl) (by rw [List.size_toArray, List.length_reverse, sizeLine_eq]; omega)
      intro D1 h6 F61 N61 l11
      clear Fs1 Ns1
      refine ⟨D1, us.reverse.take number.toNat, (ps.take number.toNat).map (·.1), rfl, N61.isList (.head _), (by simp; omega), (by rw [List.map_take]; exact hho.tups.take _), (fun q hq => (N61 q (by first | exact .tail _ (.tail _ (.tail _ hq)) | exact .tail _ (.tail _ hq) | exact .tail _ (.tail _ (.tail _ (.tail _ hq))))).1), ?_⟩
      intro D71 h7 tk7 ys1 hD1 hS1 hK1
      have F71 := Kept.fr hK1 F61
      have N71 := Kept.news hK1 N61
      clear F61 N61
      dsimp only
      ((try k_fold); (repeat' walk1))
      refine Stop.to ?_
      refine call_sjoin (by decide +kernel) hS1 hD1 (by have := oct_take_len ps number.toNat; show (txt (ps.take number.toNat)).length ≤ _; omega) ?_
      rw [show ((ps.take number.toNat).map (·.1)).flatten = txt (ps.take number.toNat) from rfl]
      ((try k_fold); (repeat' walk1))

      refine Stop.to ?_
      rename Fr _ _ _ _ => Fc2
      rename News _ _ _ _ => Nc2
      rename Rd _ _ _ _ => Rc2
      refine comp_first held rfl (by decide) (by decide) rfl (by decide) rfl (by decide) ?_
      ((try k_fold); (repeat' walk1))
      refine Stop.to ?_
      rename Fr _ _ _ _ => Fs2
      rename News _ _ _ _ => Ns2
      rename Rd _ _ _ _ => Rs2
      refine kmk_slice_lit Fs2 Ns2 (Ns2.isList (a := P) (by first | exact .head _ | exact .tail _ (.head _) | exact .tail _ (.tail _ (.head _)) | exact .tail _ (.tail _ (.tail _ (.head _))))) (.int number _) .none (pick_from us.reverse hn0) ?_ (by with_unfolding_all rfl) (by intro _; with_unfolding_all rfl) (by rw [List.size_toArray, List.length_reverse, sizeLine_eq]; omega)
      intro D2 h6 F62 N62 l12
      clear Fs2 Ns2
      refine ⟨D2, us.reverse.drop number.toNat, (ps.drop number.toNat).map (·.1), rfl, N62.isList (.head _), (by simp; omega), (by rw [List.map_drop]; exact hho.tups.drop _), (fun q hq => (N62 q (by first | exact .tail _ (.tail _ (.tail _ hq)) | exact .tail _ (.tail _ hq) | exact .tail _ (.tail _ (.tail _ (.tail _ hq))))).1), ?_⟩
      intro D72 h7 tk7 ys2 hD2 hS2 hK2
      have F72 := Kept.fr hK2 F62
      have N72 := Kept.news hK2 N62
      clear F62 N62
      dsimp only
      ((try k_fold); (repeat' walk1))
      refine Stop.to ?_
      refine call_sjoin (by decide +kernel) hS2 hD2 (by have := oct_take_len ps number.toNat; show (txt (ps.drop number.toNat)).length ≤ _; omega) ?_
      rw [show ((ps.drop number.toNat).map (·.1)).flatten = txt (ps.drop number.toNat) from rfl]
      ((try k_fold); (repeat' walk1))

      refine Stop.to ?_
      rename Fr _ _ _ _ => F1
      rename News _ _ _ _ => N1
      rename Rd _ _ _ _ => R1
      have hlex := hch.lex
      have hcl := oct_take_len ps number.toNat
      refine unesc l (oct ps) _ (by rw [hl]; exact hlex) (by omega) (by omega) (by omega) _ _ _ _ _ _ _ _ _ _ _ _ _  (X.keeps F1.keep) (T.keeps F1.keep) (by decide) (by decide) ?_
      intro te he tke kpe
      have Fe := kpe.fr F1
      have Ne := kpe.news N1
      clear F1 N1 kpe
      dsimp only
      ((try k_fold); (repeat' walk1))
      refine Stop.to ?_
      rename Fr _ _ _ _ => Fb
      rename News _ _ _ _ => Nb
      rename Rd _ _ _ _ => Rb
      refine KBa.make_K Fb Nb rfl (Nb.isList (a := T1) (by first | exact .head _ | exact .tail _ (.head _) | exact .tail _ (.tail _ (.head _)) | exact .tail _ (.tail _ (.tail _ (.head _))) )) hts hoc (by omega) ?_
      intro h8 t8 k8 F8 N8 _
      clear Fb Nb
      dsimp only
      ((try k_fold); (repeat' walk1))
      refine Stop.to ?_
      rename Fr _ _ _ _ => Fdd
      rename News _ _ _ _ => Ndd
      rename Rd _ _ _ _ => Rdd
      refine unesc (txt (ps.take number.toNat)) (oct (ps.take number.toNat)) _ (hch.take _).lex (by omega) (by omega) (by omega) _ _ _ _ _ _ _ _ _ _ _ _ _  (X.keeps Fdd.keep) (T.keeps Fdd.keep) (by decide) (by decide) ?_
      intro te2 he2 tke2 kpe
      have Fe := kpe.fr Fdd
      have Ne := kpe.news Ndd
      clear Fdd Ndd kpe
      dsimp only
      ((try k_fold); (repeat' walk1))
      refine Stop.to ?_
      rename Fr _ _ _ _ => Fg
      rename News _ _ _ _ => Ng
      rename Rd _ _ _ _ => Rg
      refine unesc (txt (ps.drop number.toNat)) (oct (ps.drop number.toNat)) _ (hch.drop _).lex (by omega) (by omega) (by omega) _ _ _ _ _ _ _ _ _ _ _ _ _  (X.keeps Fg.keep) (T.keeps Fg.keep) (by decide) (by decide) ?_
      intro te3 he3 tke3 kpe
      have Fe := kpe.fr Fg
      have Ne := kpe.news Ng
      clear Fg Ng kpe
      dsimp only
      ((try k_fold); (repeat' walk1))
      refine Stop.to ?_
      refine add_ba (by omega) ?_
      intro t9 k9
      rw [← List.flatten_append, oct_cut]
      dsimp only
      ((try k_fold); (repeat' walk1))
      refine Stop.to ?_
      rename Fr _ _ _ _ => Fk
      rename News _ _ _ _ => Nk
      rename Rd _ _ _ _ => Rk
      refine KBa.make_K Fk Nk rfl (Nk.isList (a := T1) (by first | exact .head _ | exact .tail _ (.head _) | exact .tail _ (.tail _ (.head _)) | exact .tail _ (.tail _ (.tail _ (.head _))) )) hts hoc (by omega) ?_
      intro h10 t10 k10 F10 N10 _
      clear Fk Nk
      dsimp only
      ((try k_fold); (repeat' walk1))
      refine Stop.to ?_
      wrow_close
  case turn =>
    clear Ff Nf Rf
    rintro i ⟨us, np, l, tl, ps, held⟩ v I it lo h tk m' hi ⟨hho, hch, hl, hhd, hmi, hnP, hpl, hll, hfl, hol, hoc⟩ hcl hne F N R
    dsimp only at hho hch hl hhd hmi hnP hpl hll hfl hol hoc hne F N R
    have hi20 : i < 20 := Nat.lt_of_lt_of_le (List.getElem?_eq_some_iff.mp hi).1 hcn
    obtain ⟨cell, tc, ecl⟩ := ints_item hC hi
    subst ecl
    ((try k_fold); (repeat' walk1))
    refine Stop.to ?_
    rename Fr _ _ _ _ => F1
    rename News _ _ _ _ => N1
    rename Rd _ _ _ _ => R1
    have N1 : News _ _ _ ((P, W.listOf us.toArray np) :: (held ++ [(C, lo), (I, it)])) := N1
    have hd0 := Int.emod_nonneg cell (b := 6) (by decide)
    have hd1 := Int.emod_lt_of_pos cell (b := 6) (by decide)
    generalize cell % 6 = deed at R1 hd0 hd1
    generalize cell / 6 = rest at R1
    refine' cutR (σ := PS1) F1 R1 (fun c => (c.o, W.listOf c.ous.toArray c.ok) :: (P, W.listOf us.toArray np) :: (held ++ [(C, lo), (I, it)])) (fun c => [some (.ref S), some (.int head th), some (.ref P), some (.str (SL l) tl), none, none, none, none, some (.str (SL c.p) c.tp), some (.ref c.o), none, none, none, none, none, none, none])
      (fun c => Ok1 c.p c.bs l ∧ IntsAre c.ous c.bs.flatten ∧ c.p.length ≤ 20 ∧ c.bs.flatten.length ≤ 6 ∧ c.bs.length ≤ 1 ∧ (∀ x ∈ c.bs.flatten, 0 ≤ x ∧ x < 256) ∧ HeadOk (c.p ++ l) ∧ c.o ≠ P) mkS rfl ?st2 ?rest2
    case st2 =>
      intro tk2
      have hk : deed = 0 ∨ deed = 1 ∨ deed = 2 ∨ deed = 3 ∨ deed = 4 ∨ deed = 5 := by omega
      clear hd0 hd1
      rcases hk with rfl | rfl | rfl | rfl | rfl | rfl
      · ((try k_fold); (repeat' walk1))
        refine Stop.to ?_
        have hm0 := Int.emod_nonneg rest (b := 24) (by decide)
        have hm1 := Int.emod_lt_of_pos rest (b := 24) (by decide)
        obtain ⟨c, hc, h92, hc1, hsur, hwh⟩ := plain_tok hm0 hm1
        refine item_at lit_plain1 hm0 hc (by decide) ?_
        ((try k_fold); (repeat' walk1))
        refine Stop.to ?_
        rename Fr _ _ _ _ => F2
        rename News _ _ _ _ => N2
        rename Rd _ _ _ _ => R2
        refine oct_call (c : Int) _ (by omega) (by omega) _ _ _ _ _ _ _ _ _ _ _ _ _  (X.keeps F2.keep) (T.keeps F2.keep) (by decide) (by decide) trivial ?_
        intro a3 us3 k3 h3 tk3 hus3 ha3 hn3 kp3
        obtain ⟨F3, N3, ne3⟩ := fresh_news F2 N2 kp3 ha3 hn3
        clear F2 N2 kp3
        dsimp only
        ((try k_fold); (repeat' walk1))
        refine Stop.to ?_
        rename Fr _ _ _ _ => Fz
        rename News _ _ _ _ => Nz
        rename Rd _ _ _ _ => Rz
        refine CPost.next (σ := PS1) ⟨[c], _, a3, _, _, [O8 (c : Int)]⟩ Fz Nz Rz (by
          intro q hq
          rcases List.mem_cons.mp hq with rfl | hq
          · first | exact .head _ | exact .tail _ (.head _) | exact .tail _ (.tail _ (.head _))
          · first | exact hq | exact .tail _ hq | exact .tail _ (.tail _ hq) | exact .tail _ (.tail _ (.tail _ hq))) (by walk_at "own sub") ⟨ok_plain h92 hc1 hsur, (by simpa using hus3), (by simp), ?_, ?_, ?_, .of hwh, (ne3 (P, W.listOf us.toArray np) (by simp)).symm⟩
        · show ([O8 (c : Int)] : List (List Int)).flatten.length ≤ 6
          have := o8_len1 (c : Int)
          simpa using this
        · dsimp only; simp
        · dsimp only
          intro x hx
          exact o8_oct (n := (c : Int)) (by omega) (by omega) x (by simpa using hx)
      · ((try k_fold); (repeat' walk1))
        refine Stop.to ?_
        rename Fr _ _ _ _ => F2
        rename News _ _ _ _ => N2
        rename Rd _ _ _ _ => R2
        refine short_call _ _ _ _ _ _ _ _ _ _ _ _ _  (X.keeps F2.keep) (T.keeps F2.keep) (by decide) (by decide) ?_
        intro a3 us3 k3 h3 tk3 hus3 ha3 hn3 kp3
        obtain ⟨F3, N3, ne3⟩ := fresh_news F2 N2 kp3 ha3 hn3
        clear F2 N2 kp3
        have hm0 := Int.emod_nonneg rest (b := 10) (by decide)
        have hm1 := Int.emod_lt_of_pos rest (b := 10) (by decide)
        obtain ⟨t, y, c, number, u1, u2, e1, e2, e3, e4⟩ := hus3 (rest % 10).toNat (by omega)
        subst e3
        dsimp only
        ((try k_fold); (repeat' walk1))
        refine Stop.to ?_
        refine item_call (PySem.IsL.isList (N3 _ (.head _)).1) hm0 (by omega) e1 ?_
        ((try k_fold); (repeat' walk1))
        refine unpackN_ F3 N3 ⟨_, e2, rfl, _, rfl⟩ rfl rfl rfl ?_
        intro h5 F5 N5
        clear F3 N3
        dsimp only
        ((try k_fold); (repeat' walk1))
        obtain ⟨hv0, hv1⟩ := short_range e4
        refine Stop.to ?_
        rename Fr _ _ _ _ => Fz
        rename News _ _ _ _ => Nz
        rename Rd _ _ _ _ => Rz
        obtain ⟨D, eD⟩ := news_head Nz
        subst eD
        refine CPost.next (σ := PS1) ⟨[92] ++ [c], _, D, _, _, [[number]]⟩ Fz Nz Rz (by
          intro q hq
          rcases List.mem_cons.mp hq with rfl | hq
          · first | exact .head _ | exact .tail _ (.head _) | exact .tail _ (.tail _ (.head _))
          · first | exact hq | exact .tail _ hq | exact .tail _ (.tail _ hq) | exact .tail _ (.tail _ (.tail _ hq))) (by walk_at "own sub") ⟨ok_short e4, (by simpa using (IntsAre.cons number _ .nil)), (by simp), ?_, ?_, ?_, (by simp; exact HeadOk.bs), (Nat.ne_of_lt (a := P) (b := D) (by omega)).symm⟩
        · dsimp only; simp
        · dsimp only; simp
        · dsimp only
          intro x hx
          have : x = number := by simpa using hx
          rw [this]; constructor <;> omega
      · have hm0 := Int.emod_nonneg rest (b := 128) (by decide)
        have hm1 := Int.emod_lt_of_pos rest (b := 128) (by decide)
        ((try k_fold); (repeat' walk1))
        refine Stop.to ?_
        rename Fr _ _ _ _ => F1
        rename News _ _ _ _ => N1
        rename Rd _ _ _ _ => R1
        generalize rest % 128 = number at hm0 hm1 R1
        ((refine' execs_mk ?mk ?hs ?he ?_; (case mk => assumption); (case hs => exact rfl); (case he => exact rfl)); intro tkx)
        ((try k_fold); (repeat' walk1))
        refine Stop.to ?_
        rename Fr _ _ _ _ => F2
        rename News _ _ _ _ => N2
        rename Rd _ _ _ _ => R2
        refine hex_call number _ _ _ hm0 (by omega) _ _ _ _ _ _ _ _ _ _ _ _ _  (X.keeps F2.keep) (T.keeps F2.keep) (by decide) (by decide) ?_
        intro hs th h3 tk3 hx kp
        have F3 := kp.fr F2
        have N3 := kp.news N2
        clear F2 N2 kp
        have hxl := hx.len (k := 2) (by decide) (by omega)
        have hx1 : 1 ≤ hs.length := List.length_pos_iff.mpr hx.1
        dsimp only
        ((try k_fold); (repeat' walk1))
        refine Stop.to ?_
        rename Fr _ _ _ _ => F4
        rename News _ _ _ _ => N4
        rename Rd _ _ _ _ => R4
        obtain ⟨a, b, hab, ha, hb, hv⟩ := hex_two hx hm1
        refine slice_last2 rfl (by simp; omega) F4 N4 (by simp; omega) ?_
        intro h5 t5 k5 F5 N5
        clear F4 N4
        rw [show ([48] ++ hs : List Nat) = 48 :: hs from rfl, hab]
        dsimp only
        ((try k_fold); (repeat' walk1))
        refine Stop.to ?_
        rename Fr _ _ _ _ => Fz
        rename News _ _ _ _ => Nz
        rename Rd _ _ _ _ => Rz
        obtain ⟨D, eD⟩ := news_head Nz
        subst eD
        refine CPost.next (σ := PS1) ⟨[92, 120] ++ [a, b], _, D, _, _, [[number]]⟩ Fz Nz Rz (by
          intro q hq
          rcases List.mem_cons.mp hq with rfl | hq
          · first | exact .head _ | exact .tail _ (.head _) | exact .tail _ (.tail _ (.head _))
          · first | exact hq | exact .tail _ hq | exact .tail _ (.tail _ hq) | exact .tail _ (.tail _ (.tail _ hq))) (by walk_at "own sub") ⟨ok_hex ha hb hv hm1, (by simpa using (IntsAre.cons number _ .nil)), (by simp), ?_, ?_, ?_, (by simp; exact HeadOk.bs), (Nat.ne_of_lt (a := P) (b := D) (by omega)).symm⟩
        · dsimp only; simp
        · dsimp only; simp
        · dsimp only
          intro x hx
          have : x = number := by simpa using hx
          rw [this]; constructor <;> omega
      · have hm0 := Int.emod_nonneg rest (b := 128) (by decide)
        have hm1 := Int.emod_lt_of_pos rest (b := 128) (by decide)
        ((try k_fold); (repeat' walk1))
        refine Stop.to ?_
        rename Fr _ _ _ _ => F1
        rename News _ _ _ _ => N1
        rename Rd _ _ _ _ => R1
        generalize rest % 128 = number at hm0 hm1 R1
        ((refine' execs_mk ?mk ?hs ?he ?_; (case mk => assumption); (case hs => exact rfl); (case he => exact rfl)); intro tkx)
        ((try k_fold); (repeat' walk1))
        refine Stop.to ?_
        rename Fr _ _ _ _ => F2
        rename News _ _ _ _ => N2
        rename Rd _ _ _ _ => R2
        rename List Nat => ds0
        refine' whileR (σ := DS1) s (fun _ => (P, W.listOf us.toArray np) :: (held ++ [(C, lo), (I, it)])) (fun c => [some (.ref S), some (.int head th), some (.ref P), some (.str (SL l) tl), none, none, some (.int rest c.tr), none, some (.str (SL c.ds) c.td), none, none, some (.int number c.tn), none, none, none, none, none]) (fun c => (∀ x ∈ c.ds, isDec x = true) ∧ c.ds ≠ [] ∧ c.ds.length ≤ 3 ∧ ((decV c.ds : Nat) : Int) = number) (fun c => 3 - c.ds.length) ⟨ds0, _, _, _⟩ F2 N2 R2 (fun p hp => hp) (by walk_at "own sub") ⟨by assumption, by assumption, by assumption, by assumption⟩ ?_
        clear F2 N2 R2
        rintro ⟨ds, td, tn, tr⟩ m' h tk ⟨hds, hdn, hdl, hdv⟩ F N R
        dsimp only at hds hdn hdl hdv F N R
        by_cases h3 : ds.length < 3
        · cases hdg : digitHead l with
          | true =>
            ((try k_fold); (repeat' walk1))
            refine Stop.to ?_
            rename Fr _ _ _ _ => Fv
            rename News _ _ _ _ => Nv
            rename Rd _ _ _ _ => Rv
            refine slice_1 rfl Fv Nv (by omega) ?_
            intro h5 t5 k5 F5 N5
            clear Fv Nv
            dsimp only

            ((try k_fold); (repeat' walk1))
            refine Stop.to ?_
            rename Fr _ _ _ _ => Fw
            rename News _ _ _ _ => Nw
            rename Rd _ _ _ _ => Rw
            refine WPost.next (σ := DS1) ⟨[48] ++ ds, _, _, _⟩ Fw Nw Rw (fun p hp => hp) (by walk_at "own sub") ⟨?_, by simp, by show (48 :: ds).length ≤ 3; rw [List.length_cons]; omega, by show ((decV (48 :: ds) : Nat) : Int) = number; rw [decV_zeros]; exact hdv⟩ (by show 3 - (48 :: ds).length < 3 - ds.length; rw [List.length_cons]; omega)
            intro c hc
            rcases List.mem_cons.mp hc with rfl | hc
            · rfl
            · exact hds c hc
          | false =>
            ((try k_fold); (repeat' walk1))
            refine Stop.to ?_
            rename Fr _ _ _ _ => Fv
            rename News _ _ _ _ => Nv
            rename Rd _ _ _ _ => Rv
            refine slice_1 rfl Fv Nv (by omega) ?_
            intro h5 t5 k5 F5 N5
            clear Fv Nv
            dsimp only

            by_cases hlt : (ds.length : Int) < rest / 128 % 4
            · ((try k_fold); (repeat' walk1))
              refine Stop.to ?_
              rename Fr _ _ _ _ => Fw
              rename News _ _ _ _ => Nw
              rename Rd _ _ _ _ => Rw
              refine WPost.next (σ := DS1) ⟨[48] ++ ds, _, _, _⟩ Fw Nw Rw (fun p hp => hp) (by walk_at "own sub") ⟨?_, by simp, by show (48 :: ds).length ≤ 3; rw [List.length_cons]; omega, by show ((decV (48 :: ds) : Nat) : Int) = number; rw [decV_zeros]; exact hdv⟩ (by show 3 - (48 :: ds).length < 3 - ds.length; rw [List.length_cons]; omega)
              intro c hc
              rcases List.mem_cons.mp hc with rfl | hc
              · rfl
              · exact hds c hc
            · ((try k_fold); (repeat' walk1))
              refine Stop.to ?_
              rename Fr _ _ _ _ => Fz
              rename News _ _ _ _ => Nz
              rename Rd _ _ _ _ => Rz
              obtain ⟨D, eD⟩ := news_head Nz
              subst eD
              refine CPost.next (σ := PS1) ⟨[92] ++ ds, _, D, _, _, [[number]]⟩ Fz Nz Rz (by
          intro q hq
          rcases List.mem_cons.mp hq with rfl | hq
          · first | exact .head _ | exact .tail _ (.head _) | exact .tail _ (.tail _ (.head _))
          · first | exact hq | exact .tail _ hq | exact .tail _ (.tail _ hq) | exact .tail _ (.tail _ (.tail _ hq))) (by walk_at "own sub") ⟨ok_dec hds hdn hdl (.inr hdg) hdv hm1, (by simpa using (IntsAre.cons number _ .nil)), (by simp; omega), ?_, ?_, ?_, (by simp; exact HeadOk.bs), (Nat.ne_of_lt (a := P) (b := D) (by omega)).symm⟩
              · dsimp only; simp
              · dsimp only; simp
              · dsimp only
                intro x hx
                have : x = number := by simpa using hx
                rw [this]; constructor <;> omega
        · ((try k_fold); (repeat' walk1))
          refine Stop.to ?_
          rename Fr _ _ _ _ => Fz
          rename News _ _ _ _ => Nz
          rename Rd _ _ _ _ => Rz
          obtain ⟨D, eD⟩ := news_head Nz
          subst eD
          refine CPost.next (σ := PS1) ⟨[92] ++ ds, _, D, _, _, [[number]]⟩ Fz Nz Rz (by
          intro q hq
          rcases List.mem_cons.mp hq with rfl | hq
          · first | exact .head _ | exact .tail _ (.head _) | exact .tail _ (.tail _ (.head _))
          · first | exact hq | exact .tail _ hq | exact .tail _ (.tail _ hq) | exact .tail _ (.tail _ (.tail _ hq))) (by walk_at "own sub") ⟨ok_dec hds hdn hdl (.inl (by omega)) hdv hm1, (by simpa using (IntsAre.cons number _ .nil)), (by simp; omega), ?_, ?_, ?_, (by simp; exact HeadOk.bs), (Nat.ne_of_lt (a := P) (b := D) (by omega)).symm⟩
          · dsimp only; simp
          · dsimp only; simp
          · dsimp only
            intro x hx
            have : x = number := by simpa using hx
            rw [this]; constructor <;> omega
      · ((try k_fold); (repeat' walk1))
        refine Stop.to ?_
        rename Fr _ _ _ _ => F2
        rename News _ _ _ _ => N2
        rename Rd _ _ _ _ => R2
        rename Int => number
        have hn0 : 0 ≤ number := by assumption
        have hn1 : number ≤ 2147483647 := by omega
        refine hex_call number _ _ _ hn0 (by omega) _ _ _ _ _ _ _ _ _ _ _ _ _  (X.keeps F2.keep) (T.keeps F2.keep) (by decide) (by decide) ?_
        intro hs th h3 tk3 hx kp
        have F3 := kp.fr F2
        have N3 := kp.news N2
        clear F2 N2 kp
        have hxl := hx.len (k := 8) (by decide) (by omega)
        dsimp only
        ((try k_fold); (repeat' walk1))
        refine Stop.to ?_
        rename Fr _ _ _ _ => F4
        rename News _ _ _ _ => N4
        rename Rd _ _ _ _ => R4
        refine oct_call number _ hn0 (by omega) _ _ _ _ _ _ _ _ _ _ _ _ _  (X.keeps F4.keep) (T.keeps F4.keep) (by decide) (by decide) trivial ?_
        intro a5 us5 k5 h5 tk5 hus5 ha5 hn5 kp5
        obtain ⟨F5, N5, ne5⟩ := fresh_news F4 N4 kp5 ha5 hn5
        clear F4 N4 kp5
        dsimp only
        ((try k_fold); (repeat' walk1))
        refine Stop.to ?_
        rename Fr _ _ _ _ => Fz
        rename News _ _ _ _ => Nz
        rename Rd _ _ _ _ => Rz
        refine CPost.next (σ := PS1) ⟨[92, 117, 123] ++ List.replicate (rest / 31 % 3).toNat 48 ++ hs ++ [125], _, a5, _, _, [O8 number]⟩ Fz Nz Rz (by
          intro q hq
          rcases List.mem_cons.mp hq with rfl | hq
          · first | exact .head _ | exact .tail _ (.head _) | exact .tail _ (.tail _ (.head _))
          · first | exact hq | exact .tail _ hq | exact .tail _ (.tail _ hq) | exact .tail _ (.tail _ (.tail _ hq))) (by walk_at "own sub") ⟨(by have := ok_uni (hs := List.replicate (rest / 31 % 3).toNat 48 ++ hs) (n := number) (f := l) (zeros_hex _ hx.2.1) (by simp [hx.1]) (by simp; omega) (by rw [hexV_zeros]; exact hx.2.2.1) (by omega); simpa using this), (by simpa using hus5), (by simp; omega), ?_, ?_, ?_, (by simp; exact HeadOk.bs), (ne5 (P, W.listOf us.toArray np) (by simp)).symm⟩
        · show ([O8 number] : List (List Int)).flatten.length ≤ 6
          have := o8_len1 number
          simpa using this
        · dsimp only; simp
        · dsimp only
          intro x hx
          exact o8_oct (n := number) (by omega) (by omega) x (by simpa using hx)
      · cases l with
        | nil =>
          ((try k_fold); (repeat' walk1))
          refine Stop.to ?_
          rename Fr _ _ _ _ => Fv
          rename News _ _ _ _ => Nv
          rename Rd _ _ _ _ => Rv
          refine slice_1 rfl Fv Nv (by omega) ?_
          intro h5 t5 k5 F5v N5v
          clear Fv Nv
          rw [show ([] : List Nat).take 1 = [] from rfl]
          dsimp only

          ((try k_fold); (repeat' walk1))
          refine Stop.to ?_
          rename Fr _ _ _ _ => Ff
          rename Rd _ _ _ _ => Rf
          refine' forR Ff Rf (by simp) ?_
          ((try k_fold); (repeat' walk1))
          refine Stop.to ?_
          rename Fr _ _ _ _ => Ff
          rename News _ _ _ _ => Nf
          rename Rd _ _ _ _ => Rf
          rename IsRange _ _ _ _ _ _ _ _ => rgX
          have hr0 := Int.emod_nonneg rest (b := 8) (by decide)
          have hr1 := Int.emod_lt_of_pos rest (b := 8) (by decide)
          refine' forRangeN (σ := WS1) (fun _ => (P, W.listOf us.toArray np) :: (held ++ [(C, lo), (I, it)])) (fun c => [some (.ref S), some (.int head th), some (.ref P), some (.str (SL ([])) tl), none, none, some (.int rest c.tr), some (.str (SL c.ws) c.tw), none, none, none, none, none, none, none, none, none]) (fun c v => [some (.ref S), some (.int head th), some (.ref P), some (.str (SL ([])) tl), none, none, some (.int rest c.tr), some (.str (SL c.ws) c.tw), none, none, none, none, some v, none, none, none, none])
            (fun j c => (∀ x ∈ c.ws, white x = true) ∧ c.ws.length = j)
            ⟨[], _, _⟩ mkS rfl rfl rgX (small_one (by omega) (by omega) (by omega) (by omega)) (n := (rest % 8 - 0).toNat) (rangeSize_nat _ _) Ff Nf Rf (by first | exact fun p hp => hp | exact fun p hp => .tail _ hp | exact fun p hp => .tail _ (.tail _ hp)) (by walk_at "own sub") ⟨(fun x hx => nomatch hx), rfl⟩ (fun c v => .there (.there (.there (.there (.there (.there (.there (.there (.there (.there (.there (.there (.here))))))))))))) ?cls2 ?turn2 ?done2
          case cls2 =>
            intro c p hp
            rcases List.mem_cons.mp hp with rfl | hp
            · exact .inl (list_ne (by decide))
            rcases List.mem_append.mp hp with hp | hp
            · exact .inl (hmi.ne hp (by decide) (by decide))
            · exact .inr (by first | exact .tail _ (List.mem_append.mpr (.inr hp)) | exact .tail _ (.tail _ (List.mem_append.mpr (.inr hp))) | exact List.mem_append.mpr (.inr hp))
          case done2 =>
            clear Ff Nf Rf rgX
            rintro ⟨ws, tw, tr2⟩ h tk m' ⟨hws, hwl⟩ F N R
            dsimp only at hws hwl F N R
            ((try k_fold); (repeat' walk1))
            refine Stop.to ?_
            rename Fr _ _ _ _ => Fz
            rename News _ _ _ _ => Nz
            rename Rd _ _ _ _ => Rz
            obtain ⟨D, eD⟩ := news_head Nz
            subst eD
            refine CPost.next (σ := PS1) ⟨[92, 122] ++ ws, _, D, _, _, []⟩ Fz Nz Rz (by
          intro q hq
          rcases List.mem_cons.mp hq with rfl | hq
          · first | exact .head _ | exact .tail _ (.head _) | exact .tail _ (.tail _ (.head _))
          · first | exact hq | exact .tail _ hq | exact .tail _ (.tail _ hq) | exact .tail _ (.tail _ (.tail _ hq))) (by walk_at "own sub") ⟨ok_gap hws rfl, .nil, (by simp; omega), ?_, ?_, ?_, (by simp; exact HeadOk.bs), (Nat.ne_of_lt (a := P) (b := D) (by omega)).symm⟩
            · simp
            · simp
            · intro x hx; simp at hx
          case turn2 =>
            clear Ff Nf Rf rgX
            rintro j ⟨ws, tw, tr2⟩ I2 it2 ti2 h tk m' hj ⟨hws, hwl⟩ hcl2 hne2 F N R
            dsimp only at hws hwl hne2 F N R
            ((try k_fold); (repeat' walk1))
            refine Stop.to ?_
            rw [Int.zero_add]
            have hq0 := Int.emod_nonneg (rest / 8 + (j : Int) * 5) (b := 6) (by decide)
            have hq1 := Int.emod_lt_of_pos (rest / 8 + (j : Int) * 5) (b := 6) (by decide)
            obtain ⟨wc, hwc, hwcw⟩ := white_tok hq0 hq1
            refine item_at lit_white1 hq0 hwc (by decide) ?_
            ((try k_fold); (repeat' walk1))
            refine Stop.to ?_
            rename Fr _ _ _ _ => Fw
            rename News _ _ _ _ => Nw
            rename Rd _ _ _ _ => Rw
            exact FPost.next (σ := WS1) ⟨ws ++ [wc], _, _⟩ Fw Nw Rw (fun p hp => hp) (by walk_at "own sub") ⟨(by
              dsimp only
              intro x hx
              rcases List.mem_append.mp hx with hx | hx
              · exact hws x hx
              · rw [List.mem_singleton.mp hx]; exact hwcw), (by dsimp only; simp; omega)⟩
        | cons hc rr =>
          have hl2 : (hc :: rr).length ≤ 400 := by omega
          ((try k_fold); (repeat' walk1))
          refine Stop.to ?_
          rename Fr _ _ _ _ => Fv
          rename News _ _ _ _ => Nv
          rename Rd _ _ _ _ => Rv
          refine slice_1 rfl Fv Nv (by omega) ?_
          intro h5 t5 k5 F5v N5v
          clear Fv Nv
          rw [show ((hc :: rr) : List Nat).take 1 = [hc] from rfl]
          dsimp only

          ((try k_fold); (repeat' walk1))
          refine Stop.to ?_
          rename Fr _ _ _ _ => Fu
          rename News _ _ _ _ => Nu
          rename Rd _ _ _ _ => Ru
          refine slice_1 rfl Fu Nu (by omega) ?_
          intro h5 t5 k5 F5u N5u
          clear Fu Nu
          rw [show ((hc :: rr) : List Nat).take 1 = [hc] from rfl]
          dsimp only

          cases hin : (Builtin.Str.occurrences (Str.ofString " \t\n\r\x0b\x0c") (SL [hc]) 0 (Str.ofString " \t\n\r\x0b\x0c").length 1).isEmpty with
          | true =>
            have hwf : whiteHead (hc :: rr) = false := by
              cases hw : (Unicode.isSpace hc && decide (hc < 128)) with
              | false => exact hw
              | true =>
                have := white_in (hhd _ _ rfl hw)
                rw [hin] at this
                cases this
            ((try k_fold); (repeat' walk1))
            refine Stop.to ?_
            rename Fr _ _ _ _ => Ff
            rename Rd _ _ _ _ => Rf
            refine' forR Ff Rf (by simp) ?_
            ((try k_fold); (repeat' walk1))
            refine Stop.to ?_
            rename Fr _ _ _ _ => Ff
            rename News _ _ _ _ => Nf
            rename Rd _ _ _ _ => Rf
            rename IsRange _ _ _ _ _ _ _ _ => rgX
            have hr0 := Int.emod_nonneg rest (b := 8) (by decide)
            have hr1 := Int.emod_lt_of_pos rest (b := 8) (by decide)
            refine' forRangeN (σ := WS1) (fun _ => (P, W.listOf us.toArray np) :: (held ++ [(C, lo), (I, it)])) (fun c => [some (.ref S), some (.int head th), some (.ref P), some (.str (SL (hc :: rr)) tl), none, none, some (.int rest c.tr), some (.str (SL c.ws) c.tw), none, none, none, none, none, none, none, none, none]) (fun c v => [some (.ref S), some (.int head th), some (.ref P), some (.str (SL (hc :: rr)) tl), none, none, some (.int rest c.tr), some (.str (SL c.ws) c.tw), none, none, none, none, some v, none, none, none, none])
              (fun j c => (∀ x ∈ c.ws, white x = true) ∧ c.ws.length = j)
              ⟨[], _, _⟩ mkS rfl rfl rgX (small_one (by omega) (by omega) (by omega) (by omega)) (n := (rest % 8 - 0).toNat) (rangeSize_nat _ _) Ff Nf Rf (by first | exact fun p hp => hp | exact fun p hp => .tail _ hp | exact fun p hp => .tail _ (.tail _ hp)) (by walk_at "own sub") ⟨(fun x hx => nomatch hx), rfl⟩ (fun c v => .there (.there (.there (.there (.there (.there (.there (.there (.there (.there (.there (.there (.here))))))))))))) ?cls2 ?turn2 ?done2
            case cls2 =>
              intro c p hp
              rcases List.mem_cons.mp hp with rfl | hp
              · exact .inl (list_ne (by decide))
              rcases List.mem_append.mp hp with hp | hp
              · exact .inl (hmi.ne hp (by decide) (by decide))
              · exact .inr (by first | exact .tail _ (List.mem_append.mpr (.inr hp)) | exact .tail _ (.tail _ (List.mem_append.mpr (.inr hp))) | exact List.mem_append.mpr (.inr hp))
            case done2 =>
              clear Ff Nf Rf rgX
              rintro ⟨ws, tw, tr2⟩ h tk m' ⟨hws, hwl⟩ F N R
              dsimp only at hws hwl F N R
              ((try k_fold); (repeat' walk1))
              refine Stop.to ?_
              rename Fr _ _ _ _ => Fz
              rename News _ _ _ _ => Nz
              rename Rd _ _ _ _ => Rz
              obtain ⟨D, eD⟩ := news_head Nz
              subst eD
              refine CPost.next (σ := PS1) ⟨[92, 122] ++ ws, _, D, _, _, []⟩ Fz Nz Rz (by
          intro q hq
          rcases List.mem_cons.mp hq with rfl | hq
          · first | exact .head _ | exact .tail _ (.head _) | exact .tail _ (.tail _ (.head _))
          · first | exact hq | exact .tail _ hq | exact .tail _ (.tail _ hq) | exact .tail _ (.tail _ (.tail _ hq))) (by walk_at "own sub") ⟨ok_gap hws hwf, .nil, (by simp; omega), ?_, ?_, ?_, (by simp; exact HeadOk.bs), (Nat.ne_of_lt (a := P) (b := D) (by omega)).symm⟩
              · simp
              · simp
              · intro x hx; simp at hx
            case turn2 =>
              clear Ff Nf Rf rgX
              rintro j ⟨ws, tw, tr2⟩ I2 it2 ti2 h tk m' hj ⟨hws, hwl⟩ hcl2 hne2 F N R
              dsimp only at hws hwl hne2 F N R
              ((try k_fold); (repeat' walk1))
              refine Stop.to ?_
              rw [Int.zero_add]
              have hq0 := Int.emod_nonneg (rest / 8 + (j : Int) * 5) (b := 6) (by decide)
              have hq1 := Int.emod_lt_of_pos (rest / 8 + (j : Int) * 5) (b := 6) (by decide)
              obtain ⟨wc, hwc, hwcw⟩ := white_tok hq0 hq1
              refine item_at lit_white1 hq0 hwc (by decide) ?_
              ((try k_fold); (repeat' walk1))
              refine Stop.to ?_
              rename Fr _ _ _ _ => Fw
              rename News _ _ _ _ => Nw
              rename Rd _ _ _ _ => Rw
              exact FPost.next (σ := WS1) ⟨ws ++ [wc], _, _⟩ Fw Nw Rw (fun p hp => hp) (by walk_at "own sub") ⟨(by
                dsimp only
                intro x hx
                rcases List.mem_append.mp hx with hx | hx
                · exact hws x hx
                · rw [List.mem_singleton.mp hx]; exact hwcw), (by dsimp only; simp; omega)⟩
          | false =>
            ((try k_fold); (repeat' walk1))
            refine Stop.to ?_
            rename Fr _ _ _ _ => F2
            rename News _ _ _ _ => N2
            rename Rd _ _ _ _ => R2
            rename Int => number
            have hn0 : 0 ≤ number := by assumption
            have hn1 : number ≤ 2147483647 := by omega
            refine hex_call number _ _ _ hn0 (by omega) _ _ _ _ _ _ _ _ _ _ _ _ _  (X.keeps F2.keep) (T.keeps F2.keep) (by decide) (by decide) ?_
            intro hs th h3 tk3 hx kp
            have F3 := kp.fr F2
            have N3 := kp.news N2
            clear F2 N2 kp
            have hxl := hx.len (k := 8) (by decide) (by omega)
            dsimp only
            ((try k_fold); (repeat' walk1))
            refine Stop.to ?_
            rename Fr _ _ _ _ => F4
            rename News _ _ _ _ => N4
            rename Rd _ _ _ _ => R4
            refine oct_call number _ hn0 (by omega) _ _ _ _ _ _ _ _ _ _ _ _ _  (X.keeps F4.keep) (T.keeps F4.keep) (by decide) (by decide) trivial ?_
            intro a5 us5 k5 h5 tk5 hus5 ha5 hn5 kp5
            obtain ⟨F5, N5, ne5⟩ := fresh_news F4 N4 kp5 ha5 hn5
            clear F4 N4 kp5
            dsimp only
            ((try k_fold); (repeat' walk1))
            refine Stop.to ?_
            rename Fr _ _ _ _ => Fz
            rename News _ _ _ _ => Nz
            rename Rd _ _ _ _ => Rz
            refine CPost.next (σ := PS1) ⟨[92, 117, 123] ++ List.replicate (rest / 31 % 3).toNat 48 ++ hs ++ [125], _, a5, _, _, [O8 number]⟩ Fz Nz Rz (by
          intro q hq
          rcases List.mem_cons.mp hq with rfl | hq
          · first | exact .head _ | exact .tail _ (.head _) | exact .tail _ (.tail _ (.head _))
          · first | exact hq | exact .tail _ hq | exact .tail _ (.tail _ hq) | exact .tail _ (.tail _ (.tail _ hq))) (by walk_at "own sub") ⟨(by have := ok_uni (hs := List.replicate (rest / 31 % 3).toNat 48 ++ hs) (n := number) (f := hc :: rr) (zeros_hex _ hx.2.1) (by simp [hx.1]) (by simp; omega) (by rw [hexV_zeros]; exact hx.2.2.1) (by omega); simpa using this), (by simpa using hus5), (by simp; omega), ?_, ?_, ?_, (by simp; exact HeadOk.bs), (ne5 (P, W.listOf us.toArray np) (by simp)).symm⟩
            · show ([O8 number] : List (List Int)).flatten.length ≤ 6
              have := o8_len1 number
              simpa using this
            · dsimp only; simp
            · dsimp only
              intro x hx
              exact o8_oct (n := number) (by omega) (by omega) x (by simpa using hx)
    case rest2 =>
      clear F1 N1 R1
      rintro ⟨p, tp, o, ous, ok, bs⟩ h2 tk2 m2 ⟨hok, hio, hpl2, hbl, hbl2, hor, hhd2, hoP⟩ F N R
      dsimp only at hok hio hpl2 hbl hbl2 hor hhd2 hoP F N R
      ((try k_fold); (repeat' walk1))
      refine Stop.to ?_
      rename Fr _ _ _ _ => F3
      rename News _ _ _ _ => N3
      rename Rd _ _ _ _ => R3
      rename _ ∧ (_ ∧ _) => l1
      obtain ⟨D, eD⟩ := news_head N3
      subst eD
      have hDP : D ≠ P := (Nat.ne_of_lt l1.2.1).symm
      have hnews : ∀ q ∈ (D, tupO [.str (SL p) tp, .ref o]) :: (o, W.listOf ous.toArray ok) :: (held ++ [(C, lo), (I, it)]), q.1 ≠ P := by
        intro q hq
        rcases List.mem_cons.mp hq with rfl | hq
        · exact hDP
        rcases List.mem_cons.mp hq with rfl | hq
        · exact hoP
        rcases List.mem_append.mp hq with hq | hq
        · exact hnP q hq
        rcases List.mem_cons.mp hq with rfl | hq
        · exact (Nat.ne_of_lt hPC).symm
        rw [List.mem_singleton.mp hq]
        exact (hne _ (.head _)).symm
      refine app_last F3 (News.sub1 (news' := (P, W.listOf us.toArray np) :: (D, tupO [.str (SL p) tp, .ref o]) :: (o, W.listOf ous.toArray ok) :: (held ++ [(C, lo), (I, it)])) N3 (by
        intro q hq
        rcases List.mem_cons.mp hq with rfl | hq
        · exact .tail _ (.tail _ (.head _))
        rcases List.mem_cons.mp hq with rfl | hq
        · exact .head _
        rcases List.mem_cons.mp hq with rfl | hq
        · exact .tail _ (.head _)
        exact .tail _ (.tail _ (.tail _ hq)))) hnews (by have := hho.length; rw [List.length_reverse] at this; omega) ?_
      intro h5 Fe Ne
      clear F3 N3
      dsimp only
      ((try k_fold); (repeat' walk1))
      refine Stop.to ?_
      rename Fr _ _ _ _ => Ff
      rename News _ _ _ _ => Nf
      rename Rd _ _ _ _ => Rf
      have ef : (bs ++ oct ps).flatten = bs.flatten ++ (oct ps).flatten := by simp
      have hsubh : ∀ q ∈ held, q ∈ (D, tupO [.str (SL p) tp, .ref o]) :: (o, W.listOf ous.toArray ok) :: held := fun q hq => .tail _ (.tail _ hq)
      refine FPost.next (σ := TS1) ⟨us ++ [.ref D], _, p ++ l, _, (p, bs) :: ps, (D, tupO [.str (SL p) tp, .ref o]) :: (o, W.listOf ous.toArray ok) :: held⟩ Ff Nf Rf (by
        intro q hq
        simpa using hq) (by walk_at "own sub") ⟨?_, ?_, ?_, hhd2, ?_, ?_, ?_, ?_, ?_, ?_, ?_⟩
      · show Holds _ (us ++ [Value.ref D]).reverse _
        rw [List.reverse_append]
        exact .cons (.head _) (.tail _ (.head _)) hio (hho.mono hsubh)
      · exact .cons (by rw [← hl]; exact hok) hch
      · show p ++ l = _
        rw [txt_cons, hl]
      · intro q hq
        rcases List.mem_cons.mp hq with rfl | hq
        · exact .inr rfl
        rcases List.mem_cons.mp hq with rfl | hq
        · exact .inl rfl
        exact hmi q hq
      · intro q hq
        exact hnews q (by
          rcases List.mem_cons.mp hq with rfl | hq
          · exact .head _
          rcases List.mem_cons.mp hq with rfl | hq
          · exact .tail _ (.head _)
          exact .tail _ (.tail _ (List.mem_append.mpr (.inl hq))))
      · show (_ :: ps).length = _
        rw [List.length_cons, hpl]
      · show (p ++ l).length ≤ _
        rw [List.length_append]; omega
      · show (bs ++ oct ps).flatten.length ≤ _
        rw [ef, List.length_append]; omega
      · show (bs ++ oct ps).length ≤ _
        rw [List.length_append]; omega
      · show ∀ x ∈ (bs ++ oct ps).flatten, _
        rw [ef]
        intro x hx
        rcases List.mem_append.mp hx with hx | hx
        · exact hor x hx
        · exact hoc x hx
  )

end Mine

theorem PySem.Challenge.cw_fz0005_01_holds : PySem.Challenge.rw_fz0005_01.Holds :=
  Mine.law1
