import PyProof.Rows.All
import Wide.All
import OpenK.AllK
import Wide.FinOn
import PySem.Challenge.RW_to0021_01
open PySem PySem.W PyProof.Rows PySem.Calls PySem.Spec
set_option Elab.async false
set_option maxRecDepth 100000
set_option maxHeartbeats 8000000
namespace Mine
-- The head's quick twins of these 32 constants are large (they make the compiled file 60 MB). They would be laid as Mine.hd.tw..; where such a name is taken, the kit goes on without that twin.
theorem hd.tw14246236162039180721 : True := trivial
theorem hd.tw991583007596301734 : True := trivial
theorem hd.tw10727248033764811480 : True := trivial
theorem hd.tw26425463804135960 : True := trivial
theorem hd.tw2728973051125194343 : True := trivial
theorem hd.tw7579377964693751086 : True := trivial
theorem hd.tw4001706777442101418 : True := trivial
theorem hd.tw17157681369570327122 : True := trivial
theorem hd.tw922143313871775805 : True := trivial
theorem hd.tw16879956485299554121 : True := trivial
theorem hd.tw16091413853298234908 : True := trivial
theorem hd.tw4225703048834024713 : True := trivial
theorem hd.tw1784385830474605701 : True := trivial
theorem hd.tw7023726343779634624 : True := trivial
theorem hd.tw5902613922787404954 : True := trivial
theorem hd.tw18103342009636024947 : True := trivial
theorem hd.tw4015398097383911347 : True := trivial
theorem hd.tw740920337575284248 : True := trivial
theorem hd.tw16868993833207775613 : True := trivial
theorem hd.tw14310624532144728618 : True := trivial
theorem hd.tw7269190750281295013 : True := trivial
theorem hd.tw15564728929539428999 : True := trivial
theorem hd.tw6411954120941647267 : True := trivial
theorem hd.tw6082411064634330575 : True := trivial
theorem hd.tw4478166936697009375 : True := trivial
theorem hd.tw16037735763661986305 : True := trivial
theorem hd.tw9421340871869096474 : True := trivial
theorem hd.tw16477043939570097188 : True := trivial
theorem hd.tw15833661619300960221 : True := trivial
theorem hd.tw17711083657039698284 : True := trivial
theorem hd.tw978945382295711627 : True := trivial
theorem hd.tw6196171512934965099 : True := trivial
structure Wrap (p : Prop) : Prop where
  go : p
theorem use2 {p q : Prop} (_ : p) (b : q) : q := b
set_option Elab.async true in
theorem hd : True := by
  let rec aux : Wrap _ → PySem.Challenge.rw_to0021_01.Holds := by
    intro h
    w_on
    o_law
    refine' use2 ?hc ?here
    (case here =>
      k_head
      (case hw => w_witness2))
    exact h.go
  trivial
theorem hd_ends : True := trivial
local macro_rules | `(tactic| k_mem) => `(tactic| assumption)
local macro_rules | `(tactic| news_mem) => `(tactic| first | exact List.Mem.head _ | assumption | (refine List.Mem.tail _ ?_; news_mem))
local macro_rules | `(tactic| units_room) => `(tactic| ktr_units)
local macro_rules | `(tactic| walk_at "CompEnd") => `(tactic| k_extra "CompEnd!")
local macro_rules | `(tactic| walk_at "CompSrc") => `(tactic| k_extra "CompSrc!")
local macro_rules | `(tactic| walk_at "CompSrcT") => `(tactic| k_extra "CompSrcT!")
local macro_rules | `(tactic| walk_at "KCfEl") => `(tactic| k_extra "KCfEl!")
local macro_rules | `(tactic| walk_at "KPfDone") => `(tactic| k_extra "KPfDone!")
local macro_rules | `(tactic| walk_at "binaryOp Mod str ref") => `(tactic| k_extra "binaryOp Mod str ref!")
local macro_rules | `(tactic| walk_at "binaryOp Pow int int") => `(tactic| k_extra "binaryOp Pow int int!")
local macro_rules | `(tactic| walk_at "call builtin:re.Pattern.sub") => `(tactic| k_extra "call builtin:re.Pattern.sub!")
local macro_rules | `(tactic| walk_at "call builtin:sorted") => `(tactic| k_extra "call builtin:sorted!")
local macro_rules | `(tactic| walk_at "call builtin:str.lstrip") => `(tactic| k_extra "call builtin:str.lstrip!")
local macro_rules | `(tactic| walk_at "call builtin:str.split") => `(tactic| k_extra "call builtin:str.split!")
local macro_rules | `(tactic| walk_at "call builtin:sum") => `(tactic| k_extra "call builtin:sum!")
local macro_rules | `(tactic| walk_at "call ref") => `(tactic| k_extra "call ref!")
local macro_rules | `(tactic| walk_at "call type:int") => `(tactic| k_extra "call type:int!")
local macro_rules | `(tactic| walk_at "compareOp In ref ref") => `(tactic| k_extra "compareOp In ref ref!")
local macro_rules | `(tactic| walk_at "compareOp NotEq str str") => `(tactic| k_extra "compareOp NotEq str str!")
local macro_rules | `(tactic| walk_at "exec While Call cons nil") => `(tactic| k_extra "exec While Call cons nil!")
local macro_rules | `(tactic| walk_at "exec While Compare cons nil") => `(tactic| k_extra "exec While Compare cons nil!")
local macro_rules | `(tactic| walk_at "getMethod ref") => `(tactic| k_extra "getMethod ref!")
local macro_rules | `(tactic| walk_at "m_pre") => `(tactic| k_extra "m_pre!")
local macro_rules | `(tactic| walk_at "subscriptTail") => `(tactic| k_extra "subscriptTail!")
local macro_rules | `(tactic| walk_at "subscriptTail Name Name ref str") => `(tactic| k_extra "subscriptTail Name Name ref str!")
local macro_rules | `(tactic| walk_at "subscriptTail Name Slice ref ref") => `(tactic| k_extra "subscriptTail Name Slice ref ref!")
section
theorem binds_P {s : Shared} {K : Frag} {fd : FuncData} {args : Args} {binds : List (Str × Value)} (X : K.In s.heap) (e : ∀ S, peek K S (bindArgs fd args) = some binds) : BindsTo s fd args binds :=
  fun M A E _ hq => Looks.of_peek (M := M) X (e _) A _ E s (fun _ _ e => e) hq

/-- a contract of a def of the text: a call of it from any frame ends by R, the ledger being turned -/
def Con (w : World) (f : Addr) (args : List Value) (dep : Nat) (news : List (Addr × Obj)) (R : Value → List (Addr × Obj) → Prop) : Prop :=
  ∀ (p : Program) (loose : List Str) (mean : ExcName → Option Value) (mg mb : Str → Option Value) (dp un : Nat) (gd : Option (List Code)) (cn : Str) (cs : Scope) (a : Addr) (ccd : Value) (cl : List (Str × Addr)) (outer : List Env) (A₀ : Around) (base h₀ : Heap) (L : Addr) (m : Str → Option Value) (s : Shared) (Q E : Value → Shared → Prop),
    Below A₀ base outer h₀ → Fr h₀ L s.heap m → (Mine.hd.heap_1_39 w.params).In h₀ → News h₀ L s.heap news → Top p loose mean mg mb h₀ → cs.kind = .function → dp + dep < recursionLimit → un + 8 * dep + 100 < cLine →
    (∀ v news' h' tk', R v news' → Fr h₀ L h' m → News h₀ L h' news' → Q v { s with heap := h', toks := tk' }) →
    wpAny (model PySem.Challenge.rw_to0021_01.prog w) (ktrTop dp un gd cn cs L a ccd cl outer) (call (.ref f) args) Q E s

theorem Con.use {w : World} {f : Addr} {args : List Value} {dep : Nat} {news : List (Addr × Obj)} {R : Value → List (Addr × Obj) → Prop} (C : Con w f args dep news R)
    {p : Program} {loose : List Str} {mean : ExcName → Option Value} {mg mb : Str → Option Value} {dp un : Nat} {gd : Option (List Code)} {cn : Str} {cs : Scope} {a : Addr} {ccd : Value} {cl : List (Str × Addr)} {outer : List Env} {A₀ : Around} {base h₀ : Heap} {L : Addr} {m : Str → Option Value} {s : Shared} {Q E : Value → Shared → Prop}
    (B : Below A₀ base outer h₀) (F : Fr h₀ L s.heap m) (X : (Mine.hd.heap_1_39 w.params).In h₀) (N : News h₀ L s.heap news) (T : Top p loose mean mg mb h₀) (hk : cs.kind = .function) (hd : dp + dep < recursionLimit) (hu : un + 8 * dep + 100 < cLine)
    (ret : ∀ v news' h' tk', R v news' → Fr h₀ L h' m → News h₀ L h' news' → Q v { s with heap := h', toks := tk' }) :
    wpAny (model PySem.Challenge.rw_to0021_01.prog w) (ktrTop dp un gd cn cs L a ccd cl outer) (call (.ref f) args) Q E s :=
  C p loose mean mg mb dp un gd cn cs a ccd cl outer A₀ base h₀ L m s Q E B F X N T hk hd hu ret

/-- the ledger bears a list of ints -/
def HasInts (news : List (Addr × Obj)) (l : Addr) (ns : List Int) : Prop := ∃ (vs : List Value) (n : Nat), (l, PySem.W.listOf vs.toArray n) ∈ news ∧ IntsAre vs ns

theorem con_ret {R : Value → List (Addr × Obj) → Prop} {h₀ h' : Heap} {L : Addr} {m : Str → Option Value} {s : Shared} {Q : Value → Shared → Prop} {v : Value} {news' : List (Addr × Obj)} {tk' : Nat}
    (hret : ∀ v news' h' tk', R v news' → Fr h₀ L h' m → News h₀ L h' news' → Q v { s with heap := h', toks := tk' }) (F : Fr h₀ L h' m) (N : News h₀ L h' news') (r : R v news') : Q v { s with heap := h', toks := tk' } :=
  hret v news' h' tk' r F N

theorem Con.mono {w : World} {f : Addr} {args : List Value} {dep : Nat} {news : List (Addr × Obj)} {R R' : Value → List (Addr × Obj) → Prop} (C : Con w f args dep news R) (h : ∀ v nw, R v nw → R' v nw) : Con w f args dep news R' :=
  fun p loose mean mg mb dp un gd cn cs a ccd cl outer A₀ base h₀ L m s Q E B F X N T hk hd hu ret => C p loose mean mg mb dp un gd cn cs a ccd cl outer A₀ base h₀ L m s Q E B F X N T hk hd hu fun v nw h' tk' r => ret v nw h' tk' (h v nw r)

/-- a contract of a def that reads a list of the base -/
def ConL (w : World) (f : Addr) (args : List Value) (dep : Nat) (news : List (Addr × Obj)) (l : Addr) (vs : List Value) (R : Value → List (Addr × Obj) → Prop) : Prop :=
  ∀ (p : Program) (loose : List Str) (mean : ExcName → Option Value) (mg mb : Str → Option Value) (dp un : Nat) (gd : Option (List Code)) (cn : Str) (cs : Scope) (a : Addr) (ccd : Value) (cl : List (Str × Addr)) (outer : List Env) (A₀ : Around) (base h₀ : Heap) (L : Addr) (m : Str → Option Value) (s : Shared) (Q E : Value → Shared → Prop),
    Below A₀ base outer h₀ → Fr h₀ L s.heap m → (Mine.hd.heap_1_39 w.params).In h₀ → News h₀ L s.heap news → Top p loose mean mg mb h₀ → cs.kind = .function → dp + dep < recursionLimit → un + 8 * dep + 100 < cLine → base.IsList l vs.toArray →
    (∀ v news' h' tk', R v news' → Fr h₀ L h' m → News h₀ L h' news' → Q v { s with heap := h', toks := tk' }) →
    wpAny (model PySem.Challenge.rw_to0021_01.prog w) (ktrTop dp un gd cn cs L a ccd cl outer) (call (.ref f) args) Q E s

theorem ConL.use {w : World} {f : Addr} {args : List Value} {dep : Nat} {news : List (Addr × Obj)} {l : Addr} {vs : List Value} {R : Value → List (Addr × Obj) → Prop} (C : ConL w f args dep news l vs R)
    {p : Program} {loose : List Str} {mean : ExcName → Option Value} {mg mb : Str → Option Value} {dp un : Nat} {gd : Option (List Code)} {cn : Str} {cs : Scope} {a : Addr} {ccd : Value} {cl : List (Str × Addr)} {outer : List Env} {A₀ : Around} {base h₀ : Heap} {L : Addr} {m : Str → Option Value} {s : Shared} {Q E : Value → Shared → Prop}
    (B : Below A₀ base outer h₀) (F : Fr h₀ L s.heap m) (X : (Mine.hd.heap_1_39 w.params).In h₀) (N : News h₀ L s.heap news) (T : Top p loose mean mg mb h₀) (hk : cs.kind = .function) (hd : dp + dep < recursionLimit) (hu : un + 8 * dep + 100 < cLine) (hl : base.IsList l vs.toArray)
    (ret : ∀ v news' h' tk', R v news' → Fr h₀ L h' m → News h₀ L h' news' → Q v { s with heap := h', toks := tk' }) :
    wpAny (model PySem.Challenge.rw_to0021_01.prog w) (ktrTop dp un gd cn cs L a ccd cl outer) (call (.ref f) args) Q E s :=
  C p loose mean mg mb dp un gd cn cs a ccd cl outer A₀ base h₀ L m s Q E B F X N T hk hd hu hl ret
end
section
noncomputable def bisR (ns : List Int) (x : Int) : Nat → Int → Int → Int
  | 0, lo, _ => lo
  | n + 1, lo, hi => if lo < hi then (if x < ns.getD (Int.fdiv (lo + hi) 2).toNat 0 then bisR ns x n lo (Int.fdiv (lo + hi) 2) else bisR ns x n (Int.fdiv (lo + hi) 2 + 1) hi) else lo

theorem fd2 (a b : Int) (h : a < b) : a ≤ Int.fdiv (a + b) 2 ∧ Int.fdiv (a + b) 2 < b := by
  rw [Int.fdiv_eq_ediv_of_nonneg _ (by decide)]; omega

theorem bisR_more (ns : List Int) (x : Int) : ∀ (n k : Nat) (lo hi : Int), 0 ≤ lo → (hi - lo).toNat ≤ n → n ≤ k → bisR ns x k lo hi = bisR ns x n lo hi
  | 0, 0, _, _, _, _, _ => rfl
  | 0, k + 1, lo, hi, _, h, _ => by
    have : ¬ lo < hi := by omega
    simp only [bisR, if_neg this]
  | n + 1, 0, _, _, _, _, hk => by omega
  | n + 1, k + 1, lo, hi, h0, h, hk => by
    simp only [bisR]
    by_cases hl : lo < hi
    · obtain ⟨m1, m2⟩ := fd2 lo hi hl
      simp only [if_pos hl]
      split
      · exact bisR_more ns x n k _ _ (by omega) (by omega) (by omega)
      · exact bisR_more ns x n k _ _ (by omega) (by omega) (by omega)
    · simp only [if_neg hl]

noncomputable def bisectR (ns : List Int) (x : Int) : Int := bisR ns x ns.length 0 ns.length

section
variable {ns : List Int} {x lo hi : Int}
theorem bisR_t1 (h0 : 0 ≤ lo) (h1 : lo ≤ hi) (h2 : hi ≤ (ns.length : Int)) (he : bisectR ns x = bisR ns x (hi - lo).toNat lo hi) (hl : lo < hi) (hx : x < ns.getD (Int.fdiv (lo + hi) 2).toNat 0) :
    0 ≤ lo ∧ lo ≤ Int.fdiv (lo + hi) 2 ∧ Int.fdiv (lo + hi) 2 ≤ (ns.length : Int) ∧ bisectR ns x = bisR ns x (Int.fdiv (lo + hi) 2 - lo).toNat lo (Int.fdiv (lo + hi) 2) := by
  obtain ⟨m1, m2⟩ := fd2 lo hi hl
  refine ⟨h0, m1, by omega, ?_⟩
  rw [he]
  obtain ⟨k, hk⟩ : ∃ k, (hi - lo).toNat = k + 1 := ⟨(hi - lo).toNat - 1, by omega⟩
  rw [hk]
  simp only [bisR, if_pos hl, if_pos hx]
  exact bisR_more ns x _ _ _ _ h0 (Nat.le_refl _) (by omega)
theorem bisR_t2 (h0 : 0 ≤ lo) (h1 : lo ≤ hi) (h2 : hi ≤ (ns.length : Int)) (he : bisectR ns x = bisR ns x (hi - lo).toNat lo hi) (hl : lo < hi) (hx : ¬ x < ns.getD (Int.fdiv (lo + hi) 2).toNat 0) :
    0 ≤ Int.fdiv (lo + hi) 2 + 1 ∧ Int.fdiv (lo + hi) 2 + 1 ≤ hi ∧ hi ≤ (ns.length : Int) ∧ bisectR ns x = bisR ns x (hi - (Int.fdiv (lo + hi) 2 + 1)).toNat (Int.fdiv (lo + hi) 2 + 1) hi := by
  obtain ⟨m1, m2⟩ := fd2 lo hi hl
  refine ⟨by omega, by omega, h2, ?_⟩
  rw [he]
  obtain ⟨k, hk⟩ : ∃ k, (hi - lo).toNat = k + 1 := ⟨(hi - lo).toNat - 1, by omega⟩
  rw [hk]
  simp only [bisR, if_pos hl, if_neg hx]
  exact bisR_more ns x _ _ _ _ (by omega) (Nat.le_refl _) (by omega)
theorem bisR_end (he : bisectR ns x = bisR ns x (hi - lo).toNat lo hi) (hl : ¬ lo < hi) : lo = bisectR ns x := by
  rw [he]
  have : (hi - lo).toNat = 0 := by omega
  rw [this]; rfl
theorem bis_m1 (h0 : 0 ≤ lo) (hl : lo < hi) : (Int.fdiv (lo + hi) 2 - lo).toNat < (hi - lo).toNat := by
  obtain ⟨m1, m2⟩ := fd2 lo hi hl
  omega
theorem bis_m2 (h0 : 0 ≤ lo) (hl : lo < hi) : (hi - (Int.fdiv (lo + hi) 2 + 1)).toNat < (hi - lo).toNat := by
  obtain ⟨m1, m2⟩ := fd2 lo hi hl
  omega
end

noncomputable def bisL (ns : List Int) (x : Int) : Nat → Int → Int → Int
  | 0, lo, _ => lo
  | n + 1, lo, hi => if lo < hi then (if ns.getD (Int.fdiv (lo + hi) 2).toNat 0 < x then bisL ns x n (Int.fdiv (lo + hi) 2 + 1) hi else bisL ns x n lo (Int.fdiv (lo + hi) 2)) else lo
theorem bisL_more (ns : List Int) (x : Int) : ∀ (n k : Nat) (lo hi : Int), 0 ≤ lo → (hi - lo).toNat ≤ n → n ≤ k → bisL ns x k lo hi = bisL ns x n lo hi
  | 0, 0, _, _, _, _, _ => rfl
  | 0, k + 1, lo, hi, _, h, _ => by
    have : ¬ lo < hi := by omega
    simp only [bisL, if_neg this]
  | n + 1, 0, _, _, _, _, hk => by omega
  | n + 1, k + 1, lo, hi, h0, h, hk => by
    simp only [bisL]
    by_cases hl : lo < hi
    · obtain ⟨m1, m2⟩ := fd2 lo hi hl
      simp only [if_pos hl]
      split
      · exact bisL_more ns x n k _ _ (by omega) (by omega) (by omega)
      · exact bisL_more ns x n k _ _ (by omega) (by omega) (by omega)
    · simp only [if_neg hl]
noncomputable def bisectL (ns : List Int) (x : Int) : Int := bisL ns x ns.length 0 ns.length
section
variable {ns : List Int} {x lo hi : Int}
theorem bisL_t1 (h0 : 0 ≤ lo) (h1 : lo ≤ hi) (h2 : hi ≤ (ns.length : Int)) (he : bisectL ns x = bisL ns x (hi - lo).toNat lo hi) (hl : lo < hi) (hx : ¬ ns.getD (Int.fdiv (lo + hi) 2).toNat 0 < x) :
    0 ≤ lo ∧ lo ≤ Int.fdiv (lo + hi) 2 ∧ Int.fdiv (lo + hi) 2 ≤ (ns.length : Int) ∧ bisectL ns x = bisL ns x (Int.fdiv (lo + hi) 2 - lo).toNat lo (Int.fdiv (lo + hi) 2) := by
  obtain ⟨m1, m2⟩ := fd2 lo hi hl
  refine ⟨h0, m1, by omega, ?_⟩
  rw [he]
  obtain ⟨k, hk⟩ : ∃ k, (hi - lo).toNat = k + 1 := ⟨(hi - lo).toNat - 1, by omega⟩
  rw [hk]
  simp only [bisL, if_pos hl, if_neg hx]
  exact bisL_more ns x _ _ _ _ h0 (Nat.le_refl _) (by omega)
theorem bisL_t2 (h0 : 0 ≤ lo) (h1 : lo ≤ hi) (h2 : hi ≤ (ns.length : Int)) (he : bisectL ns x = bisL ns x (hi - lo).toNat lo hi) (hl : lo < hi) (hx : ns.getD (Int.fdiv (lo + hi) 2).toNat 0 < x) :
    0 ≤ Int.fdiv (lo + hi) 2 + 1 ∧ Int.fdiv (lo + hi) 2 + 1 ≤ hi ∧ hi ≤ (ns.length : Int) ∧ bisectL ns x = bisL ns x (hi - (Int.fdiv (lo + hi) 2 + 1)).toNat (Int.fdiv (lo + hi) 2 + 1) hi := by
  obtain ⟨m1, m2⟩ := fd2 lo hi hl
  refine ⟨by omega, by omega, h2, ?_⟩
  rw [he]
  obtain ⟨k, hk⟩ : ∃ k, (hi - lo).toNat = k + 1 := ⟨(hi - lo).toNat - 1, by omega⟩
  rw [hk]
  simp only [bisL, if_pos hl, if_pos hx]
  exact bisL_more ns x _ _ _ _ (by omega) (Nat.le_refl _) (by omega)
theorem bisL_end (he : bisectL ns x = bisL ns x (hi - lo).toNat lo hi) (hl : ¬ lo < hi) : lo = bisectL ns x := by
  rw [he]
  have : (hi - lo).toNat = 0 := by omega
  rw [this]; rfl
end
theorem bisR_start {ns : List Int} {x : Int} : (0 : Int) ≤ 0 ∧ (0 : Int) ≤ (ns.length : Int) ∧ (ns.length : Int) ≤ (ns.length : Int) ∧ bisectR ns x = bisR ns x ((ns.length : Int) - 0).toNat 0 (ns.length : Int) := ⟨by omega, by omega, by omega, by simp [bisectR]⟩
theorem bisL_start {ns : List Int} {x : Int} : (0 : Int) ≤ 0 ∧ (0 : Int) ≤ (ns.length : Int) ∧ (ns.length : Int) ≤ (ns.length : Int) ∧ bisectL ns x = bisL ns x ((ns.length : Int) - 0).toNat 0 (ns.length : Int) := ⟨by omega, by omega, by omega, by simp [bisectL]⟩
end
section
theorem C_bisR {w : World} {news : List (Addr × Obj)} {l : Addr} {vs : List Value} {n : Nat} {ns : List Int} {x : Int} {tk : Tok}
   (hl : (l, PySem.W.listOf vs.toArray n) ∈ news) (hi : IntsAre vs ns) (hfit : ns.length ≤ 100) :
   Con w 47 [.ref l, .int x tk] 1 news (fun v nw => (∃ t, v = .int (bisectR ns x) t) ∧ nw = news) := by
  intro p loose mean mg mb dp un gd cn cs a ccd cl outer A₀ base h₀ L m s Q E B F X N T hk hd hu hret
  revert X; k_fill; intro X
  k_with_none
  k_with "m_bind" => first | exact BindsTo.of_eq rfl | exact binds_K (by k_in) rfl (by k_is) rfl rfl rfl
  k_with "m_in" => (k_here; k_dflt (refine wpAny_call ?_; first | (refine' code_def ?k1Zq ?k2Zq ?k3Zq ?k4Zq ?k5Zq ?kAZq ?kFZq ?kKZq ?k6Zq ?k7Zq ?k8Zq ?k9Zq ?kBZq ?_ ?c2Zq ?c3Zq ?c4Zq ?c5Zq; (case kAZq => exact rfl); (case kFZq => exact rfl); (case kKZq => first | exact rfl | assumption); (case k1Zq => k_asm); (case k2Zq => k_asm); (case k3Zq => k_asm); (case k4Zq => k_asm); (case k5Zq => k_asm); (case k6Zq => k_is); (case k7Zq => k_is); (case k8Zq => ktr_room); (case k9Zq => walk_at "m_bind"); (case c5Zq => decide); (case kBZq => exact locs rfl); (case c2Zq => exact rfl); (case c3Zq => exact rfl); (case c4Zq => exact rfl); k_whole; intro g' L' h' FG' F' N' B' X' T'; (try dsimp only); (try k_lift B'); (try k_fold)) | (refine' code_defC ?k1Zq ?k2Zq ?k3Zq ?k4Zq ?k5Zq ?kAZq ?kFZq ?kKZq ?k6Zq ?k7Zq ?k8Zq ?k9Zq ?kBZq ?kDZq ?_ ?c2Zq ?c3Zq ?c4Zq; (case kAZq => exact rfl); (case kFZq => exact rfl); (case kKZq => first | exact rfl | assumption); (case k1Zq => k_asm); (case k2Zq => k_asm); (case k3Zq => k_asm); (case k4Zq => k_asm); (case k5Zq => k_asm); (case k6Zq => k_is); (case k7Zq => k_is); (case k8Zq => ktr_room); (case k9Zq => walk_at "m_bind"); (case kBZq => exact rfl); (case kDZq => decide +kernel); (case c2Zq => exact rfl); (case c3Zq => exact rfl); (case c4Zq => exact rfl); k_whole; intro g' L' h' tk' cells' FG' F' N' Y' B' X' T' l1; (try k_lt l1); k_cells Y'; (try simp only [List.cons_append, List.nil_append] at N'); (try dsimp only); (try k_lift B'); (try k_fold)) | fail "m_in: not entered"))
  k_with "m_pre!" => first | assumption | k_mem | l_ints | omega | k_extra "m_pre" | decide
  k_with "m_end" => (refine con_ret ?aZq ?bZq ?cZq ?dZq; (case aZq => assumption); (case bZq => assumption); (case cZq => assumption))
  k_with "call ref!" => walk_at "m_in"
  k_with "m_sub" => kcf_all
  k_with "exec While Compare cons nil!" => k_extra "m_while"
  k_with "exec While Call cons nil!" => k_extra "m_while"
  k_with "CompSrcT!" => k_extra "m_compT"
  k_with "m_bind" => exact binds_P (binds := [(Str.ofString "a", .ref l), (Str.ofString "x", .int x tk), (Str.ofString "lo", .int 0 294), (Str.ofString "hi", .none), (Str.ofString "key", .none)]) (by k_in) (fun S => by kernel_rfl)
  walk_at "m_in"
  k_with "exec While Compare cons nil" => k_while (fun _ lo hi => 0 ≤ lo ∧ lo ≤ hi ∧ hi ≤ (ns.length : Int) ∧ bisectR ns x = bisR ns x (hi - lo).toNat lo hi) (fun _ lo hi => (hi - lo).toNat) "lo" "hi"
  k_with "state" => first | exact bisR_start | exact bisR_t1 (by assumption) (by assumption) (by assumption) (by assumption) (by assumption) (by assumption) | exact bisR_t2 (by assumption) (by assumption) (by assumption) (by assumption) (by assumption) (by assumption)
  k_with "measure" => first | exact bis_m1 (by assumption) (by assumption) | exact bis_m2 (by assumption) (by assumption)
  k_steps
  exact con_ret hret (by assumption) (by assumption) ⟨⟨_, congrArg (fun z => Value.int z _) (bisR_end (by assumption) (by assumption))⟩, rfl⟩
theorem C_bisL {w : World} {news : List (Addr × Obj)} {l : Addr} {vs : List Value} {n : Nat} {ns : List Int} {x : Int} {tk : Tok}
   (hl : (l, PySem.W.listOf vs.toArray n) ∈ news) (hi : IntsAre vs ns) (hfit : ns.length ≤ 100) :
   Con w 56 [.ref l, .int x tk] 1 news (fun v nw => (∃ t, v = .int (bisectL ns x) t) ∧ nw = news) := by
  intro p loose mean mg mb dp un gd cn cs a ccd cl outer A₀ base h₀ L m s Q E B F X N T hk hd hu hret
  revert X; k_fill; intro X
  k_with_none
  k_with "m_bind" => first | exact BindsTo.of_eq rfl | exact binds_K (by k_in) rfl (by k_is) rfl rfl rfl
  k_with "m_in" => (k_here; k_dflt (refine wpAny_call ?_; first | (refine' code_def ?k1Zq ?k2Zq ?k3Zq ?k4Zq ?k5Zq ?kAZq ?kFZq ?kKZq ?k6Zq ?k7Zq ?k8Zq ?k9Zq ?kBZq ?_ ?c2Zq ?c3Zq ?c4Zq ?c5Zq; (case kAZq => exact rfl); (case kFZq => exact rfl); (case kKZq => first | exact rfl | assumption); (case k1Zq => k_asm); (case k2Zq => k_asm); (case k3Zq => k_asm); (case k4Zq => k_asm); (case k5Zq => k_asm); (case k6Zq => k_is); (case k7Zq => k_is); (case k8Zq => ktr_room); (case k9Zq => walk_at "m_bind"); (case c5Zq => decide); (case kBZq => exact locs rfl); (case c2Zq => exact rfl); (case c3Zq => exact rfl); (case c4Zq => exact rfl); k_whole; intro g' L' h' FG' F' N' B' X' T'; (try dsimp only); (try k_lift B'); (try k_fold)) | (refine' code_defC ?k1Zq ?k2Zq ?k3Zq ?k4Zq ?k5Zq ?kAZq ?kFZq ?kKZq ?k6Zq ?k7Zq ?k8Zq ?k9Zq ?kBZq ?kDZq ?_ ?c2Zq ?c3Zq ?c4Zq; (case kAZq => exact rfl); (case kFZq => exact rfl); (case kKZq => first | exact rfl | assumption); (case k1Zq => k_asm); (case k2Zq => k_asm); (case k3Zq => k_asm); (case k4Zq => k_asm); (case k5Zq => k_asm); (case k6Zq => k_is); (case k7Zq => k_is); (case k8Zq => ktr_room); (case k9Zq => walk_at "m_bind"); (case kBZq => exact rfl); (case kDZq => decide +kernel); (case c2Zq => exact rfl); (case c3Zq => exact rfl); (case c4Zq => exact rfl); k_whole; intro g' L' h' tk' cells' FG' F' N' Y' B' X' T' l1; (try k_lt l1); k_cells Y'; (try simp only [List.cons_append, List.nil_append] at N'); (try dsimp only); (try k_lift B'); (try k_fold)) | fail "m_in: not entered"))
  k_with "m_pre!" => first | assumption | k_mem | l_ints | omega | k_extra "m_pre" | decide
  k_with "m_end" => (refine con_ret ?aZq ?bZq ?cZq ?dZq; (case aZq => assumption); (case bZq => assumption); (case cZq => assumption))
  k_with "call ref!" => walk_at "m_in"
  k_with "m_sub" => kcf_all
  k_with "exec While Compare cons nil!" => k_extra "m_while"
  k_with "exec While Call cons nil!" => k_extra "m_while"
  k_with "CompSrcT!" => k_extra "m_compT"
  k_with "m_bind" => exact binds_P (binds := [(Str.ofString "a", .ref l), (Str.ofString "x", .int x tk), (Str.ofString "lo", .int 0 308), (Str.ofString "hi", .none), (Str.ofString "key", .none)]) (by k_in) (fun S => by kernel_rfl)
  walk_at "m_in"
  k_with "exec While Compare cons nil" => k_while (fun _ lo hi => 0 ≤ lo ∧ lo ≤ hi ∧ hi ≤ (ns.length : Int) ∧ bisectL ns x = bisL ns x (hi - lo).toNat lo hi) (fun _ lo hi => (hi - lo).toNat) "lo" "hi"
  k_with "state" => first | exact bisL_start | exact bisL_t1 (by assumption) (by assumption) (by assumption) (by assumption) (by assumption) (by assumption) | exact bisL_t2 (by assumption) (by assumption) (by assumption) (by assumption) (by assumption) (by assumption)
  k_with "measure" => first | exact bis_m1 (by assumption) (by assumption) | exact bis_m2 (by assumption) (by assumption)
  k_steps
  exact con_ret hret (by assumption) (by assumption) ⟨⟨_, congrArg (fun z => Value.int z _) (bisL_end (by assumption) (by assumption))⟩, rfl⟩
end
section
noncomputable def cnt (ns : List Int) (x : Int) : Int := bisectR ns x - bisectL ns x

theorem C_cnt {w : World} {news : List (Addr × Obj)} {l : Addr} {vs : List Value} {n : Nat} {ns : List Int} {x : Int} {tk : Tok}
   (hl : (l, PySem.W.listOf vs.toArray n) ∈ news) (hi : IntsAre vs ns) (hfit : ns.length ≤ 100) :
   Con w 102 [.ref l, .int x tk] 2 news (fun v nw => (∃ t, v = .int (cnt ns x) t) ∧ nw = news) := by
  intro p loose mean mg mb dp un gd cn cs a ccd cl outer A₀ base h₀ L m s Q E B F X N T hk hd hu hret
  revert X; k_fill; intro X
  k_with_none
  k_with "m_bind" => first | exact BindsTo.of_eq rfl | exact binds_K (by k_in) rfl (by k_is) rfl rfl rfl
  k_with "m_in" => (k_here; k_dflt (refine wpAny_call ?_; first | (refine' code_def ?k1Zq ?k2Zq ?k3Zq ?k4Zq ?k5Zq ?kAZq ?kFZq ?kKZq ?k6Zq ?k7Zq ?k8Zq ?k9Zq ?kBZq ?_ ?c2Zq ?c3Zq ?c4Zq ?c5Zq; (case kAZq => exact rfl); (case kFZq => exact rfl); (case kKZq => first | exact rfl | assumption); (case k1Zq => k_asm); (case k2Zq => k_asm); (case k3Zq => k_asm); (case k4Zq => k_asm); (case k5Zq => k_asm); (case k6Zq => k_is); (case k7Zq => k_is); (case k8Zq => ktr_room); (case k9Zq => walk_at "m_bind"); (case c5Zq => decide); (case kBZq => exact locs rfl); (case c2Zq => exact rfl); (case c3Zq => exact rfl); (case c4Zq => exact rfl); k_whole; intro g' L' h' FG' F' N' B' X' T'; (try dsimp only); (try k_lift B'); (try k_fold)) | (refine' code_defC ?k1Zq ?k2Zq ?k3Zq ?k4Zq ?k5Zq ?kAZq ?kFZq ?kKZq ?k6Zq ?k7Zq ?k8Zq ?k9Zq ?kBZq ?kDZq ?_ ?c2Zq ?c3Zq ?c4Zq; (case kAZq => exact rfl); (case kFZq => exact rfl); (case kKZq => first | exact rfl | assumption); (case k1Zq => k_asm); (case k2Zq => k_asm); (case k3Zq => k_asm); (case k4Zq => k_asm); (case k5Zq => k_asm); (case k6Zq => k_is); (case k7Zq => k_is); (case k8Zq => ktr_room); (case k9Zq => walk_at "m_bind"); (case kBZq => exact rfl); (case kDZq => decide +kernel); (case c2Zq => exact rfl); (case c3Zq => exact rfl); (case c4Zq => exact rfl); k_whole; intro g' L' h' tk' cells' FG' F' N' Y' B' X' T' l1; (try k_lt l1); k_cells Y'; (try simp only [List.cons_append, List.nil_append] at N'); (try dsimp only); (try k_lift B'); (try k_fold)) | fail "m_in: not entered"))
  k_with "m_pre!" => first | assumption | k_mem | l_ints | omega | k_extra "m_pre" | decide
  k_with "m_end" => (refine con_ret ?aZq ?bZq ?cZq ?dZq; (case aZq => assumption); (case bZq => assumption); (case cZq => assumption))
  k_with "call ref!" => walk_at "m_in"
  k_with "m_sub" => kcf_all
  k_with "exec While Compare cons nil!" => k_extra "m_while"
  k_with "exec While Call cons nil!" => k_extra "m_while"
  k_with "CompSrcT!" => k_extra "m_compT"
  k_with "call ref!" => (k_here; k_dflt (refine' Con.use (C_bisR ?h1Zq ?h2Zq ?h3Zq) ?k1Zq ?k2Zq ?k3Zq ?k4Zq ?k5Zq ?kKZq ?kdZq ?kuZq ?_; (case k1Zq => k_asm); (case k2Zq => k_asm); (case k3Zq => k_asm); (case k4Zq => k_asm); (case k5Zq => k_asm); (case kKZq => first | exact rfl | assumption); (case h1Zq => k_mem); (case h2Zq => l_ints); (case h3Zq => walk_at "m_pre"); (case kdZq => ktr_room); (case kuZq => ktr_units)); intro v9 nw9 h9 tk9 hR F9 N9; (obtain ⟨⟨t9, e1⟩, e2⟩ := hR); subst v9; subst nw9; (try dsimp only); (try k_fold))
  k_with "call ref!" => (k_here; k_dflt (refine' Con.use (C_bisL ?h1Zq ?h2Zq ?h3Zq) ?k1Zq ?k2Zq ?k3Zq ?k4Zq ?k5Zq ?kKZq ?kdZq ?kuZq ?_; (case k1Zq => k_asm); (case k2Zq => k_asm); (case k3Zq => k_asm); (case k4Zq => k_asm); (case k5Zq => k_asm); (case kKZq => first | exact rfl | assumption); (case h1Zq => k_mem); (case h2Zq => l_ints); (case h3Zq => walk_at "m_pre"); (case kdZq => ktr_room); (case kuZq => ktr_units)); intro v9 nw9 h9 tk9 hR F9 N9; (obtain ⟨⟨t9, e1⟩, e2⟩ := hR); subst v9; subst nw9; (try dsimp only); (try k_fold))
  walk_at "m_in"
  k_steps
  exact con_ret hret (by assumption) (by assumption) ⟨⟨_, rfl⟩, rfl⟩
end
section
theorem half_lo {p : Int} (hp : 13 ≤ p) (hp2 : p ≤ 53) : 7 ≤ Int.fdiv (p + 1) 2 := by rw [Int.fdiv_eq_ediv_of_nonneg _ (by decide)]; omega
theorem half_hi {p : Int} (hp : 13 ≤ p) (hp2 : p ≤ 53) : Int.fdiv (p + 1) 2 ≤ 27 := by rw [Int.fdiv_eq_ediv_of_nonneg _ (by decide)]; omega

noncomputable def ins (x : Int) : List Int → List Int
  | [] => [x]
  | y :: r => if x ≤ y then x :: y :: r else y :: ins x r
noncomputable def srt : List Int → List Int
  | [] => []
  | x :: r => ins x (srt r)
theorem ins_perm (x : Int) : ∀ l, (ins x l).Perm (x :: l)
  | [] => List.Perm.refl _
  | y :: r => by
    unfold ins
    split
    · exact List.Perm.refl _
    · exact ((ins_perm x r).cons y).trans (List.Perm.swap x y r)
theorem srt_perm : ∀ l, (srt l).Perm l
  | [] => List.Perm.refl _
  | x :: r => (ins_perm x (srt r)).trans ((srt_perm r).cons x)
theorem ins_sorted (x : Int) : ∀ l : List Int, l.Pairwise (· ≤ ·) → (ins x l).Pairwise (· ≤ ·)
  | [], _ => by simp [ins]
  | y :: r, h => by
    unfold ins
    split
    · rename_i hx
      refine List.Pairwise.cons (fun z hz => ?_) h
      rcases List.mem_cons.mp hz with rfl | hz
      · exact hx
      · exact Int.le_trans hx ((List.pairwise_cons.mp h).1 z hz)
    · rename_i hx
      refine List.Pairwise.cons (fun z hz => ?_) (ins_sorted x r (List.pairwise_cons.mp h).2)
      rcases List.mem_cons.mp ((ins_perm x r).mem_iff.mp hz) with rfl | hz
      · omega
      · exact (List.pairwise_cons.mp h).1 z hz
theorem srt_sorted : ∀ l, (srt l).Pairwise (· ≤ ·)
  | [] => .nil
  | x :: r => ins_sorted x _ (srt_sorted r)
theorem srt_eq {l' l : List Int} (p : l'.Perm l) (o : l'.Pairwise (· ≤ ·)) : l' = srt l :=
  List.Perm.eq_of_pairwise (fun a b _ _ h1 h2 => Int.le_antisymm h1 h2) o (srt_sorted l) (p.trans (srt_perm l).symm)

noncomputable def pws (p : Int) (n : Nat) : List Int := srt ((rangeKs 1 (Int.fdiv (p + 1) 2 - 1).toNat).map fun k => Int.fmod (k ^ n) p)


theorem C_pow2 {w : World} {news : List (Addr × Obj)} {p : Int} {tk tk2 : Tok} (hp : 13 ≤ p) (hp2 : p ≤ 53) :
   Con w 107 [.int p tk, .int 2 tk2] 1 news (fun v nw => ∃ l its n, v = .ref l ∧ nw = (l, PySem.W.listOf its.toArray n) :: news ∧ IntsAre its (pws p 2)) := by
  intro p loose mean mg mb dp un gd cn cs a ccd cl outer A₀ base h₀ L m s Q E B F X N T hk hd hu hret
  revert X; k_fill; intro X
  k_with_none
  k_with "m_bind" => first | exact BindsTo.of_eq rfl | exact binds_K (by k_in) rfl (by k_is) rfl rfl rfl
  k_with "m_in" => (k_here; k_dflt (refine wpAny_call ?_; first | (refine' code_def ?k1Zq ?k2Zq ?k3Zq ?k4Zq ?k5Zq ?kAZq ?kFZq ?kKZq ?k6Zq ?k7Zq ?k8Zq ?k9Zq ?kBZq ?_ ?c2Zq ?c3Zq ?c4Zq ?c5Zq; (case kAZq => exact rfl); (case kFZq => exact rfl); (case kKZq => first | exact rfl | assumption); (case k1Zq => k_asm); (case k2Zq => k_asm); (case k3Zq => k_asm); (case k4Zq => k_asm); (case k5Zq => k_asm); (case k6Zq => k_is); (case k7Zq => k_is); (case k8Zq => ktr_room); (case k9Zq => walk_at "m_bind"); (case c5Zq => decide); (case kBZq => exact locs rfl); (case c2Zq => exact rfl); (case c3Zq => exact rfl); (case c4Zq => exact rfl); k_whole; intro g' L' h' FG' F' N' B' X' T'; (try dsimp only); (try k_lift B'); (try k_fold)) | (refine' code_defC ?k1Zq ?k2Zq ?k3Zq ?k4Zq ?k5Zq ?kAZq ?kFZq ?kKZq ?k6Zq ?k7Zq ?k8Zq ?k9Zq ?kBZq ?kDZq ?_ ?c2Zq ?c3Zq ?c4Zq; (case kAZq => exact rfl); (case kFZq => exact rfl); (case kKZq => first | exact rfl | assumption); (case k1Zq => k_asm); (case k2Zq => k_asm); (case k3Zq => k_asm); (case k4Zq => k_asm); (case k5Zq => k_asm); (case k6Zq => k_is); (case k7Zq => k_is); (case k8Zq => ktr_room); (case k9Zq => walk_at "m_bind"); (case kBZq => exact rfl); (case kDZq => decide +kernel); (case c2Zq => exact rfl); (case c3Zq => exact rfl); (case c4Zq => exact rfl); k_whole; intro g' L' h' tk' cells' FG' F' N' Y' B' X' T' l1; (try k_lt l1); k_cells Y'; (try simp only [List.cons_append, List.nil_append] at N'); (try dsimp only); (try k_lift B'); (try k_fold)) | fail "m_in: not entered"))
  k_with "m_pre!" => first | assumption | k_mem | l_ints | omega | k_extra "m_pre" | decide
  k_with "m_end" => (refine con_ret ?aZq ?bZq ?cZq ?dZq; (case aZq => assumption); (case bZq => assumption); (case cZq => assumption))
  k_with "call ref!" => walk_at "m_in"
  k_with "m_sub" => kcf_all
  k_with "exec While Compare cons nil!" => k_extra "m_while"
  k_with "exec While Call cons nil!" => k_extra "m_while"
  k_with "CompSrcT!" => k_extra "m_compT"
  k_with "call builtin:sorted!" => (k_here; (with_reducible show wpAny _ _ (call (Value.builtin _) [Value.ref _]) _ _ _); (with_unfolding_all refine' kso_sorted ?k1Zq ?k2Zq ?k3Zq ?k4Zq ?k5Zq ?_; (case k1Zq => k_asm); (case k2Zq => k_asm); (case k3Zq => kso_list); (case k4Zq => l_ints); (case k5Zq => (simp only [List.length_map, rangeKs_length]; omega)); k_whole); intro D' v' n' c' h' F' N' l1 i' e' p' o' b'; clear b')
  have hq1 := half_lo hp hp2
  have hq2 := half_hi hp hp2
  walk_at "m_in"
  k_steps
  rename List.Perm _ _ => p8
  rename List.Pairwise _ _ => o8
  rename IntsAre _ _ => i8
  have e8 := srt_eq p8 o8
  exact con_ret hret (by assumption) (cb_drop (by assumption) (by walk_at "m_sub")) ⟨_, _, _, rfl, rfl, e8 ▸ i8⟩
theorem C_pow4 {w : World} {news : List (Addr × Obj)} {p : Int} {tk tk2 : Tok} (hp : 13 ≤ p) (hp2 : p ≤ 53) :
   Con w 107 [.int p tk, .int 4 tk2] 1 news (fun v nw => ∃ l its n, v = .ref l ∧ nw = (l, PySem.W.listOf its.toArray n) :: news ∧ IntsAre its (pws p 4)) := by
  intro p loose mean mg mb dp un gd cn cs a ccd cl outer A₀ base h₀ L m s Q E B F X N T hk hd hu hret
  revert X; k_fill; intro X
  k_with_none
  k_with "m_bind" => first | exact BindsTo.of_eq rfl | exact binds_K (by k_in) rfl (by k_is) rfl rfl rfl
  k_with "m_in" => (k_here; k_dflt (refine wpAny_call ?_; first | (refine' code_def ?k1Zq ?k2Zq ?k3Zq ?k4Zq ?k5Zq ?kAZq ?kFZq ?kKZq ?k6Zq ?k7Zq ?k8Zq ?k9Zq ?kBZq ?_ ?c2Zq ?c3Zq ?c4Zq ?c5Zq; (case kAZq => exact rfl); (case kFZq => exact rfl); (case kKZq => first | exact rfl | assumption); (case k1Zq => k_asm); (case k2Zq => k_asm); (case k3Zq => k_asm); (case k4Zq => k_asm); (case k5Zq => k_asm); (case k6Zq => k_is); (case k7Zq => k_is); (case k8Zq => ktr_room); (case k9Zq => walk_at "m_bind"); (case c5Zq => decide); (case kBZq => exact locs rfl); (case c2Zq => exact rfl); (case c3Zq => exact rfl); (case c4Zq => exact rfl); k_whole; intro g' L' h' FG' F' N' B' X' T'; (try dsimp only); (try k_lift B'); (try k_fold)) | (refine' code_defC ?k1Zq ?k2Zq ?k3Zq ?k4Zq ?k5Zq ?kAZq ?kFZq ?kKZq ?k6Zq ?k7Zq ?k8Zq ?k9Zq ?kBZq ?kDZq ?_ ?c2Zq ?c3Zq ?c4Zq; (case kAZq => exact rfl); (case kFZq => exact rfl); (case kKZq => first | exact rfl | assumption); (case k1Zq => k_asm); (case k2Zq => k_asm); (case k3Zq => k_asm); (case k4Zq => k_asm); (case k5Zq => k_asm); (case k6Zq => k_is); (case k7Zq => k_is); (case k8Zq => ktr_room); (case k9Zq => walk_at "m_bind"); (case kBZq => exact rfl); (case kDZq => decide +kernel); (case c2Zq => exact rfl); (case c3Zq => exact rfl); (case c4Zq => exact rfl); k_whole; intro g' L' h' tk' cells' FG' F' N' Y' B' X' T' l1; (try k_lt l1); k_cells Y'; (try simp only [List.cons_append, List.nil_append] at N'); (try dsimp only); (try k_lift B'); (try k_fold)) | fail "m_in: not entered"))
  k_with "m_pre!" => first | assumption | k_mem | l_ints | omega | k_extra "m_pre" | decide
  k_with "m_end" => (refine con_ret ?aZq ?bZq ?cZq ?dZq; (case aZq => assumption); (case bZq => assumption); (case cZq => assumption))
  k_with "call ref!" => walk_at "m_in"
  k_with "m_sub" => kcf_all
  k_with "exec While Compare cons nil!" => k_extra "m_while"
  k_with "exec While Call cons nil!" => k_extra "m_while"
  k_with "CompSrcT!" => k_extra "m_compT"
  k_with "call builtin:sorted!" => (k_here; (with_reducible show wpAny _ _ (call (Value.builtin _) [Value.ref _]) _ _ _); (with_unfolding_all refine' kso_sorted ?k1Zq ?k2Zq ?k3Zq ?k4Zq ?k5Zq ?_; (case k1Zq => k_asm); (case k2Zq => k_asm); (case k3Zq => kso_list); (case k4Zq => l_ints); (case k5Zq => (simp only [List.length_map, rangeKs_length]; omega)); k_whole); intro D' v' n' c' h' F' N' l1 i' e' p' o' b'; clear b')
  have hq1 := half_lo hp hp2
  have hq2 := half_hi hp hp2
  walk_at "m_in"
  k_steps
  rename List.Perm _ _ => p8
  rename List.Pairwise _ _ => o8
  rename IntsAre _ _ => i8
  have e8 := srt_eq p8 o8
  exact con_ret hret (by assumption) (cb_drop (by assumption) (by walk_at "m_sub")) ⟨_, _, _, rfl, rfl, e8 ▸ i8⟩
end
section
noncomputable def legs (p : Int) (wh : List Int) : Int × Int :=
  if cnt wh (p - 1 * 1) ≠ 0 then (1, bisectL wh (p - 1 * 1)) else if cnt wh (p - 3 * 3) ≠ 0 then (3, bisectL wh (p - 3 * 3)) else if cnt wh (p - 5 * 5) ≠ 0 then (5, bisectL wh (p - 5 * 5)) else (7, bisectL wh (p - 49))
section
variable {ns : List Int} {p : Int}
theorem legs_1 (h1 : cnt ns (p - 1 * 1) ≠ 0) : (1, bisectL ns (p - 1 * 1)) = legs p ns := by simp only [legs, if_pos h1]
theorem legs_3 (h1 : cnt ns (p - 1 * 1) = 0) (h3 : cnt ns (p - 3 * 3) ≠ 0) : (3, bisectL ns (p - 3 * 3)) = legs p ns := by simp only [legs, h1, ne_eq, not_true_eq_false, if_false, if_pos h3]
theorem legs_5 (h1 : cnt ns (p - 1 * 1) = 0) (h3 : cnt ns (p - 3 * 3) = 0) (h5 : cnt ns (p - 5 * 5) ≠ 0) : (5, bisectL ns (p - 5 * 5)) = legs p ns := by simp only [legs, h1, h3, ne_eq, not_true_eq_false, if_false, if_pos h5]
theorem legs_7 (h1 : cnt ns (p - 1 * 1) = 0) (h3 : cnt ns (p - 3 * 3) = 0) (h5 : cnt ns (p - 5 * 5) = 0) : (7, bisectL ns (p - 49)) = legs p ns := by simp only [legs, h1, h3, h5, ne_eq, not_true_eq_false, if_false]
end
theorem C_legs {w : World} {d2 d3 d4 : Addr} {o2 o3 o4 : Obj} {l : Addr} {vs : List Value} {n : Nat} {ns : List Int} {p : Int} {tk : Tok}
   (hi : IntsAre vs ns) (hfit : ns.length ≤ 100) :
   Con w 119 [.int p tk, .ref l] 3 [(d2, o2), (d3, o3), (d4, o4), (l, PySem.W.listOf vs.toArray n)] (fun v nw => ∃ a b l' t u n', (a, b) = legs p ns ∧ v = .ref l' ∧ nw = (l', PySem.W.listOf #[.int a t, .int b u] n') :: [(d2, o2), (d3, o3), (d4, o4), (l, PySem.W.listOf vs.toArray n)]) := by
  intro p loose mean mg mb dp un gd cn cs a ccd cl outer A₀ base h₀ L m s Q E B F X N T hk hd hu hret
  revert X; k_fill; intro X
  k_with_none
  k_with "m_bind" => first | exact BindsTo.of_eq rfl | exact binds_K (by k_in) rfl (by k_is) rfl rfl rfl
  k_with "m_in" => (k_here; k_dflt (refine wpAny_call ?_; first | (refine' code_def ?k1Zq ?k2Zq ?k3Zq ?k4Zq ?k5Zq ?kAZq ?kFZq ?kKZq ?k6Zq ?k7Zq ?k8Zq ?k9Zq ?kBZq ?_ ?c2Zq ?c3Zq ?c4Zq ?c5Zq; (case kAZq => exact rfl); (case kFZq => exact rfl); (case kKZq => first | exact rfl | assumption); (case k1Zq => k_asm); (case k2Zq => k_asm); (case k3Zq => k_asm); (case k4Zq => k_asm); (case k5Zq => k_asm); (case k6Zq => k_is); (case k7Zq => k_is); (case k8Zq => ktr_room); (case k9Zq => walk_at "m_bind"); (case c5Zq => decide); (case kBZq => exact locs rfl); (case c2Zq => exact rfl); (case c3Zq => exact rfl); (case c4Zq => exact rfl); k_whole; intro g' L' h' FG' F' N' B' X' T'; (try dsimp only); (try k_lift B'); (try k_fold)) | (refine' code_defC ?k1Zq ?k2Zq ?k3Zq ?k4Zq ?k5Zq ?kAZq ?kFZq ?kKZq ?k6Zq ?k7Zq ?k8Zq ?k9Zq ?kBZq ?kDZq ?_ ?c2Zq ?c3Zq ?c4Zq; (case kAZq => exact rfl); (case kFZq => exact rfl); (case kKZq => first | exact rfl | assumption); (case k1Zq => k_asm); (case k2Zq => k_asm); (case k3Zq => k_asm); (case k4Zq => k_asm); (case k5Zq => k_asm); (case k6Zq => k_is); (case k7Zq => k_is); (case k8Zq => ktr_room); (case k9Zq => walk_at "m_bind"); (case kBZq => exact rfl); (case kDZq => decide +kernel); (case c2Zq => exact rfl); (case c3Zq => exact rfl); (case c4Zq => exact rfl); k_whole; intro g' L' h' tk' cells' FG' F' N' Y' B' X' T' l1; (try k_lt l1); k_cells Y'; (try simp only [List.cons_append, List.nil_append] at N'); (try dsimp only); (try k_lift B'); (try k_fold)) | fail "m_in: not entered"))
  k_with "m_pre!" => first | assumption | k_mem | l_ints | omega | k_extra "m_pre" | decide
  k_with "m_end" => (refine con_ret ?aZq ?bZq ?cZq ?dZq; (case aZq => assumption); (case bZq => assumption); (case cZq => assumption))
  k_with "call ref!" => walk_at "m_in"
  k_with "m_sub" => kcf_all
  k_with "exec While Compare cons nil!" => k_extra "m_while"
  k_with "exec While Call cons nil!" => k_extra "m_while"
  k_with "CompSrcT!" => k_extra "m_compT"
  k_with "call ref!" => (k_here; k_dflt (refine' Con.use (C_bisL ?h1Zq ?h2Zq ?h3Zq) ?k1Zq ?k2Zq ?k3Zq ?k4Zq ?k5Zq ?kKZq ?kdZq ?kuZq ?_; (case k1Zq => k_asm); (case k2Zq => k_asm); (case k3Zq => k_asm); (case k4Zq => k_asm); (case k5Zq => k_asm); (case kKZq => first | exact rfl | assumption); (case h1Zq => walk_at "m_pre"); (case h2Zq => walk_at "m_pre"); (case h3Zq => walk_at "m_pre"); (case kdZq => ktr_room); (case kuZq => ktr_units)); intro v9 nw9 h9 tk9 hR F9 N9; (obtain ⟨⟨t9, e1⟩, e2⟩ := hR); subst v9; subst nw9; (try dsimp only); (try k_fold))
  k_with "call ref!" => (k_here; k_dflt (refine' Con.use (C_cnt ?h1Zq ?h2Zq ?h3Zq) ?k1Zq ?k2Zq ?k3Zq ?k4Zq ?k5Zq ?kKZq ?kdZq ?kuZq ?_; (case k1Zq => k_asm); (case k2Zq => k_asm); (case k3Zq => k_asm); (case k4Zq => k_asm); (case k5Zq => k_asm); (case kKZq => first | exact rfl | assumption); (case h1Zq => walk_at "m_pre"); (case h2Zq => walk_at "m_pre"); (case h3Zq => walk_at "m_pre"); (case kdZq => ktr_room); (case kuZq => ktr_units)); intro v9 nw9 h9 tk9 hR F9 N9; (obtain ⟨⟨t9, e1⟩, e2⟩ := hR); subst v9; subst nw9; (try dsimp only); (try k_fold))
  walk_at "m_in"
  k_steps
  all_goals first
    | (refine' con_ret hret (by assumption) (cb_drop (by assumption) ?s) ⟨_, _, _, _, _, _, legs_7 (by assumption) (by assumption) (by assumption), rfl, rfl⟩; (case s => kcf_all))
    | (refine' con_ret hret (by assumption) (cb_drop (by assumption) ?s) ⟨_, _, _, _, _, _, legs_5 (by assumption) (by assumption) (by assumption), rfl, rfl⟩; (case s => kcf_all))
    | (refine' con_ret hret (by assumption) (cb_drop (by assumption) ?s) ⟨_, _, _, _, _, _, legs_3 (by assumption) (by assumption), rfl, rfl⟩; (case s => kcf_all))
    | (refine' con_ret hret (by assumption) (cb_drop (by assumption) ?s) ⟨_, _, _, _, _, _, legs_1 (by assumption), rfl, rfl⟩; (case s => kcf_all))
theorem C_legs5 {w : World} {d2 d3 d4 d5 : Addr} {o2 o3 o4 o5 : Obj} {l : Addr} {vs : List Value} {n : Nat} {ns : List Int} {p : Int} {tk : Tok}
   (hi : IntsAre vs ns) (hfit : ns.length ≤ 100) :
   Con w 119 [.int p tk, .ref l] 3 [(d2, o2), (d3, o3), (d4, o4), (d5, o5), (l, PySem.W.listOf vs.toArray n)] (fun v nw => ∃ a b l' t u n', (a, b) = legs p ns ∧ v = .ref l' ∧ nw = (l', PySem.W.listOf #[.int a t, .int b u] n') :: [(d2, o2), (d3, o3), (d4, o4), (d5, o5), (l, PySem.W.listOf vs.toArray n)]) := by
  intro p loose mean mg mb dp un gd cn cs a ccd cl outer A₀ base h₀ L m s Q E B F X N T hk hd hu hret
  revert X; k_fill; intro X
  k_with_none
  k_with "m_bind" => first | exact BindsTo.of_eq rfl | exact binds_K (by k_in) rfl (by k_is) rfl rfl rfl
  k_with "m_in" => (k_here; k_dflt (refine wpAny_call ?_; first | (refine' code_def ?k1Zq ?k2Zq ?k3Zq ?k4Zq ?k5Zq ?kAZq ?kFZq ?kKZq ?k6Zq ?k7Zq ?k8Zq ?k9Zq ?kBZq ?_ ?c2Zq ?c3Zq ?c4Zq ?c5Zq; (case kAZq => exact rfl); (case kFZq => exact rfl); (case kKZq => first | exact rfl | assumption); (case k1Zq => k_asm); (case k2Zq => k_asm); (case k3Zq => k_asm); (case k4Zq => k_asm); (case k5Zq => k_asm); (case k6Zq => k_is); (case k7Zq => k_is); (case k8Zq => ktr_room); (case k9Zq => walk_at "m_bind"); (case c5Zq => decide); (case kBZq => exact locs rfl); (case c2Zq => exact rfl); (case c3Zq => exact rfl); (case c4Zq => exact rfl); k_whole; intro g' L' h' FG' F' N' B' X' T'; (try dsimp only); (try k_lift B'); (try k_fold)) | (refine' code_defC ?k1Zq ?k2Zq ?k3Zq ?k4Zq ?k5Zq ?kAZq ?kFZq ?kKZq ?k6Zq ?k7Zq ?k8Zq ?k9Zq ?kBZq ?kDZq ?_ ?c2Zq ?c3Zq ?c4Zq; (case kAZq => exact rfl); (case kFZq => exact rfl); (case kKZq => first | exact rfl | assumption); (case k1Zq => k_asm); (case k2Zq => k_asm); (case k3Zq => k_asm); (case k4Zq => k_asm); (case k5Zq => k_asm); (case k6Zq => k_is); (case k7Zq => k_is); (case k8Zq => ktr_room); (case k9Zq => walk_at "m_bind"); (case kBZq => exact rfl); (case kDZq => decide +kernel); (case c2Zq => exact rfl); (case c3Zq => exact rfl); (case c4Zq => exact rfl); k_whole; intro g' L' h' tk' cells' FG' F' N' Y' B' X' T' l1; (try k_lt l1); k_cells Y'; (try simp only [List.cons_append, List.nil_append] at N'); (try dsimp only); (try k_lift B'); (try k_fold)) | fail "m_in: not entered"))
  k_with "m_pre!" => first | assumption | k_mem | l_ints | omega | k_extra "m_pre" | decide
  k_with "m_end" => (refine con_ret ?aZq ?bZq ?cZq ?dZq; (case aZq => assumption); (case bZq => assumption); (case cZq => assumption))
  k_with "call ref!" => walk_at "m_in"
  k_with "m_sub" => kcf_all
  k_with "exec While Compare cons nil!" => k_extra "m_while"
  k_with "exec While Call cons nil!" => k_extra "m_while"
  k_with "CompSrcT!" => k_extra "m_compT"
  k_with "call ref!" => (k_here; k_dflt (refine' Con.use (C_bisL ?h1Zq ?h2Zq ?h3Zq) ?k1Zq ?k2Zq ?k3Zq ?k4Zq ?k5Zq ?kKZq ?kdZq ?kuZq ?_; (case k1Zq => k_asm); (case k2Zq => k_asm); (case k3Zq => k_asm); (case k4Zq => k_asm); (case k5Zq => k_asm); (case kKZq => first | exact rfl | assumption); (case h1Zq => walk_at "m_pre"); (case h2Zq => walk_at "m_pre"); (case h3Zq => walk_at "m_pre"); (case kdZq => ktr_room); (case kuZq => ktr_units)); intro v9 nw9 h9 tk9 hR F9 N9; (obtain ⟨⟨t9, e1⟩, e2⟩ := hR); subst v9; subst nw9; (try dsimp only); (try k_fold))
  k_with "call ref!" => (k_here; k_dflt (refine' Con.use (C_cnt ?h1Zq ?h2Zq ?h3Zq) ?k1Zq ?k2Zq ?k3Zq ?k4Zq ?k5Zq ?kKZq ?kdZq ?kuZq ?_; (case k1Zq => k_asm); (case k2Zq => k_asm); (case k3Zq => k_asm); (case k4Zq => k_asm); (case k5Zq => k_asm); (case kKZq => first | exact rfl | assumption); (case h1Zq => walk_at "m_pre"); (case h2Zq => walk_at "m_pre"); (case h3Zq => walk_at "m_pre"); (case kdZq => ktr_room); (case kuZq => ktr_units)); intro v9 nw9 h9 tk9 hR F9 N9; (obtain ⟨⟨t9, e1⟩, e2⟩ := hR); subst v9; subst nw9; (try dsimp only); (try k_fold))
  walk_at "m_in"
  k_steps
  all_goals first
    | (refine' con_ret hret (by assumption) (cb_drop (by assumption) ?s) ⟨_, _, _, _, _, _, legs_7 (by assumption) (by assumption) (by assumption), rfl, rfl⟩; (case s => kcf_all))
    | (refine' con_ret hret (by assumption) (cb_drop (by assumption) ?s) ⟨_, _, _, _, _, _, legs_5 (by assumption) (by assumption) (by assumption), rfl, rfl⟩; (case s => kcf_all))
    | (refine' con_ret hret (by assumption) (cb_drop (by assumption) ?s) ⟨_, _, _, _, _, _, legs_3 (by assumption) (by assumption), rfl, rfl⟩; (case s => kcf_all))
    | (refine' con_ret hret (by assumption) (cb_drop (by assumption) ?s) ⟨_, _, _, _, _, _, legs_1 (by assumption), rfl, rfl⟩; (case s => kcf_all))
theorem D_legs {w : World} {d2 d3 d4 : Addr} {o2 o3 o4 : Obj} {l : Addr} {vs : List Value} {n : Nat} {ns : List Int} {p : Int} {tk : Tok}
   (hi : IntsAre vs ns) (hfit : ns.length ≤ 100) :
   Con w 119 [.int p tk, .ref l] 3 [(d2, o2), (d3, o3), (d4, o4), (l, PySem.W.listOf vs.toArray n)] (fun v nw => ∃ l' t u n', v = .ref l' ∧ nw = (l', PySem.W.listOf #[.int (legs p ns).1 t, .int (legs p ns).2 u] n') :: [(d2, o2), (d3, o3), (d4, o4), (l, PySem.W.listOf vs.toArray n)]) :=
  (C_legs hi hfit).mono fun v nw ⟨a, b, l', t, u, n', e, e1, e2⟩ => ⟨l', t, u, n', e1, by rw [← e]; exact e2⟩
theorem D_legs5 {w : World} {d2 d3 d4 d5 : Addr} {o2 o3 o4 o5 : Obj} {l : Addr} {vs : List Value} {n : Nat} {ns : List Int} {p : Int} {tk : Tok}
   (hi : IntsAre vs ns) (hfit : ns.length ≤ 100) :
   Con w 119 [.int p tk, .ref l] 3 [(d2, o2), (d3, o3), (d4, o4), (d5, o5), (l, PySem.W.listOf vs.toArray n)] (fun v nw => ∃ l' t u n', v = .ref l' ∧ nw = (l', PySem.W.listOf #[.int (legs p ns).1 t, .int (legs p ns).2 u] n') :: [(d2, o2), (d3, o3), (d4, o4), (d5, o5), (l, PySem.W.listOf vs.toArray n)]) :=
  (C_legs5 hi hfit).mono fun v nw ⟨a, b, l', t, u, n', e, e1, e2⟩ => ⟨l', t, u, n', e1, by rw [← e]; exact e2⟩
end
section
/-- the run of quotients; none where the fuel ends or a state leaves the bounds -/
noncomputable def orun (root number : Int) : Nat → Int → Int → Int → Option Int
  | 0, _, _, _ => none
  | k + 1, m, d, st => if 0 ≤ m ∧ m ≤ 5000 ∧ 1 ≤ d ∧ d ≤ 5000 then (if 1 < d then orun root number k (Int.fdiv (root + m) d * d - m) (Int.fdiv (number - (Int.fdiv (root + m) d * d - m) * (Int.fdiv (root + m) d * d - m)) d) (st + 1) else some st) else none
theorem orun_facts {root number m d st r : Int} {k : Nat} (h : orun root number k m d st = some r) : 0 ≤ m ∧ m ≤ 5000 ∧ 1 ≤ d ∧ d ≤ 5000 := by
  cases k with
  | zero => cases h
  | succ k =>
    unfold orun at h
    split at h
    · assumption
    · cases h
theorem orun_end {root number m d st r : Int} {k : Nat} (h : orun root number k m d st = some r) (hd : ¬ 1 < d) : st = r := by
  cases k with
  | zero => cases h
  | succ k =>
    unfold orun at h
    split at h
    · exact Option.some.inj h
    · cases h
theorem orun_step {root number m d st r : Int} {k : Nat} (h : orun root number k m d st = some r) (hd : 1 < d) :
    ∃ k, orun root number k (Int.fdiv (root + m) d * d - m) (Int.fdiv (number - (Int.fdiv (root + m) d * d - m) * (Int.fdiv (root + m) d * d - m)) d) (st + 1) = some r := by
  cases k with
  | zero => cases h
  | succ k =>
    unfold orun at h
    split at h
    · exact ⟨k, h⟩
    · cases h
theorem orun_le {root number r : Int} : ∀ (k : Nat) (m d st : Int), orun root number k m d st = some r → st ≤ r
  | 0, _, _, _, h => by cases h
  | k + 1, m, d, st, h => by
    unfold orun at h
    split at h
    · split at h
      · have := orun_le k _ _ _ h; omega
      · cases h; exact Int.le_refl _
    · cases h
section
variable {root number m d st r : Int}
theorem orun_all (h : ∃ k, orun root number k m d st = some r) : 0 ≤ m ∧ m ≤ 5000 ∧ 1 ≤ d ∧ d ≤ 5000 ∧ st ≤ r ∧ ∃ k, orun root number k m d st = some r := by
  obtain ⟨k, h⟩ := h
  obtain ⟨a, b, c, e⟩ := orun_facts h
  exact ⟨a, b, c, e, orun_le _ _ _ _ h, k, h⟩
theorem orun_turn (h : ∃ k, orun root number k m d st = some r) (hd : 1 < d) :
    0 ≤ Int.fdiv (root + m) d * d - m ∧ Int.fdiv (root + m) d * d - m ≤ 5000 ∧ 1 ≤ Int.fdiv (number - (Int.fdiv (root + m) d * d - m) * (Int.fdiv (root + m) d * d - m)) d ∧ Int.fdiv (number - (Int.fdiv (root + m) d * d - m) * (Int.fdiv (root + m) d * d - m)) d ≤ 5000 ∧ st + 1 ≤ r ∧
    ∃ k, orun root number k (Int.fdiv (root + m) d * d - m) (Int.fdiv (number - (Int.fdiv (root + m) d * d - m) * (Int.fdiv (root + m) d * d - m)) d) (st + 1) = some r := by
  obtain ⟨_, h⟩ := h
  exact orun_all (orun_step h hd)
theorem orun_meas (h : ∃ k, orun root number k m d st = some r) (hd : 1 < d) : (r - (st + 1)).toNat < (r - st).toNat := by
  have := (orun_turn h hd).2.2.2.2.1
  omega
end
theorem C_orun {w : World} {news : List (Addr × Obj)} {l : Addr} {vs : List Value} {n : Nat} {ns : List Int} {x : Int} {tk : Tok} {r : Int}
   (hl : (l, PySem.W.listOf vs.toArray n) ∈ news) (hi : IntsAre vs ns) (hfit : ns.length ≤ 100) (hx0 : 0 ≤ x) (hx1 : x ≤ 5000) (hroot : 0 ≤ bisectR ns x - 1) (hroot1 : bisectR ns x - 1 ≤ 100)
   (hr : orun (bisectR ns x - 1) x 200 (bisectR ns x - 1) (x - (bisectR ns x - 1) * (bisectR ns x - 1)) 1 = some r) :
   Con w 126 [.int x tk, .ref l] 2 news (fun v nw => v = .bool (Int.fmod r 2 == 1) ∧ nw = news) := by
  intro p loose mean mg mb dp un gd cn cs a ccd cl outer A₀ base h₀ L m s Q E B F X N T hk hd hu hret
  revert X; k_fill; intro X
  k_with_none
  k_with "m_bind" => first | exact BindsTo.of_eq rfl | exact binds_K (by k_in) rfl (by k_is) rfl rfl rfl
  k_with "m_in" => (k_here; k_dflt (refine wpAny_call ?_; first | (refine' code_def ?k1Zq ?k2Zq ?k3Zq ?k4Zq ?k5Zq ?kAZq ?kFZq ?kKZq ?k6Zq ?k7Zq ?k8Zq ?k9Zq ?kBZq ?_ ?c2Zq ?c3Zq ?c4Zq ?c5Zq; (case kAZq => exact rfl); (case kFZq => exact rfl); (case kKZq => first | exact rfl | assumption); (case k1Zq => k_asm); (case k2Zq => k_asm); (case k3Zq => k_asm); (case k4Zq => k_asm); (case k5Zq => k_asm); (case k6Zq => k_is); (case k7Zq => k_is); (case k8Zq => ktr_room); (case k9Zq => walk_at "m_bind"); (case c5Zq => decide); (case kBZq => exact locs rfl); (case c2Zq => exact rfl); (case c3Zq => exact rfl); (case c4Zq => exact rfl); k_whole; intro g' L' h' FG' F' N' B' X' T'; (try dsimp only); (try k_lift B'); (try k_fold)) | (refine' code_defC ?k1Zq ?k2Zq ?k3Zq ?k4Zq ?k5Zq ?kAZq ?kFZq ?kKZq ?k6Zq ?k7Zq ?k8Zq ?k9Zq ?kBZq ?kDZq ?_ ?c2Zq ?c3Zq ?c4Zq; (case kAZq => exact rfl); (case kFZq => exact rfl); (case kKZq => first | exact rfl | assumption); (case k1Zq => k_asm); (case k2Zq => k_asm); (case k3Zq => k_asm); (case k4Zq => k_asm); (case k5Zq => k_asm); (case k6Zq => k_is); (case k7Zq => k_is); (case k8Zq => ktr_room); (case k9Zq => walk_at "m_bind"); (case kBZq => exact rfl); (case kDZq => decide +kernel); (case c2Zq => exact rfl); (case c3Zq => exact rfl); (case c4Zq => exact rfl); k_whole; intro g' L' h' tk' cells' FG' F' N' Y' B' X' T' l1; (try k_lt l1); k_cells Y'; (try simp only [List.cons_append, List.nil_append] at N'); (try dsimp only); (try k_lift B'); (try k_fold)) | fail "m_in: not entered"))
  k_with "m_pre!" => first | assumption | k_mem | l_ints | omega | k_extra "m_pre" | decide
  k_with "m_end" => (refine con_ret ?aZq ?bZq ?cZq ?dZq; (case aZq => assumption); (case bZq => assumption); (case cZq => assumption))
  k_with "call ref!" => walk_at "m_in"
  k_with "m_sub" => kcf_all
  k_with "exec While Compare cons nil!" => k_extra "m_while"
  k_with "exec While Call cons nil!" => k_extra "m_while"
  k_with "CompSrcT!" => k_extra "m_compT"
  k_with "call ref!" => (k_here; k_dflt (refine' Con.use (C_bisR ?h1Zq ?h2Zq ?h3Zq) ?k1Zq ?k2Zq ?k3Zq ?k4Zq ?k5Zq ?kKZq ?kdZq ?kuZq ?_; (case k1Zq => k_asm); (case k2Zq => k_asm); (case k3Zq => k_asm); (case k4Zq => k_asm); (case k5Zq => k_asm); (case kKZq => first | exact rfl | assumption); (case h1Zq => walk_at "m_pre"); (case h2Zq => walk_at "m_pre"); (case h3Zq => walk_at "m_pre"); (case kdZq => ktr_room); (case kuZq => ktr_units)); intro v9 nw9 h9 tk9 hR F9 N9; (obtain ⟨⟨t9, e1⟩, e2⟩ := hR); subst v9; subst nw9; (try dsimp only); (try k_fold))
  k_with "call ref!" => (k_here; k_dflt (refine' Con.use (C_cnt ?h1Zq ?h2Zq ?h3Zq) ?k1Zq ?k2Zq ?k3Zq ?k4Zq ?k5Zq ?kKZq ?kdZq ?kuZq ?_; (case k1Zq => k_asm); (case k2Zq => k_asm); (case k3Zq => k_asm); (case k4Zq => k_asm); (case k5Zq => k_asm); (case kKZq => first | exact rfl | assumption); (case h1Zq => walk_at "m_pre"); (case h2Zq => walk_at "m_pre"); (case h3Zq => walk_at "m_pre"); (case kdZq => ktr_room); (case kuZq => ktr_units)); intro v9 nw9 h9 tk9 hR F9 N9; (obtain ⟨⟨t9, e1⟩, e2⟩ := hR); subst v9; subst nw9; (try dsimp only); (try k_fold))
  walk_at "m_in"
  k_with "m_while" => k_while (fun _ m d st => 0 ≤ m ∧ m ≤ 5000 ∧ 1 ≤ d ∧ d ≤ 5000 ∧ st ≤ r ∧ (∃ k, orun (bisectR ns x - 1) x k m d st = some r)) (fun _ m d st => (r - st).toNat) "m" "d" "steps"
  k_with "state" => first | exact orun_all ⟨200, hr⟩ | exact orun_turn (by assumption) (by assumption)
  k_with "measure" => exact orun_meas (by assumption) (by assumption)
  k_steps
  rename (∃ k, _ = some r) => hk9
  obtain ⟨k9, hk9⟩ := hk9
  exact con_ret hret (by assumption) (by assumption) ⟨congrArg (fun z => Value.bool (Int.fmod z 2 == 1)) (orun_end hk9 (by assumption)), rfl⟩
end
section
noncomputable def ufind (p : Int) (wh : List Int) : Nat → Int → Option Int
  | 0, _ => none
  | k + 1, u => if 1 ≤ u ∧ u ≤ 100 then (if cnt wh (p * u * u - 4) = 0 then ufind p wh k (u + 1) else some u) else none
section
variable {p u r : Int} {wh : List Int}
theorem ufind_facts {k : Nat} (h : ufind p wh k u = some r) : 1 ≤ u ∧ u ≤ 100 := by
  cases k with
  | zero => cases h
  | succ k =>
    unfold ufind at h
    split at h
    · assumption
    · cases h
theorem ufind_end (h : ∃ k, ufind p wh k u = some r) (hd : ¬ cnt wh (p * u * u - 4) = 0) : u = r := by
  obtain ⟨k, h⟩ := h
  cases k with
  | zero => cases h
  | succ k =>
    unfold ufind at h
    split at h
    · exact Option.some.inj (by simpa [hd] using h)
    · cases h
theorem ufind_le : ∀ (k : Nat) (u : Int), ufind p wh k u = some r → u ≤ r
  | 0, _, h => by cases h
  | k + 1, u, h => by
    unfold ufind at h
    split at h
    · split at h
      · have := ufind_le k _ h; omega
      · cases h; exact Int.le_refl _
    · cases h
theorem ufind_all (h : ∃ k, ufind p wh k u = some r) : 1 ≤ u ∧ u ≤ 100 ∧ u ≤ r ∧ ∃ k, ufind p wh k u = some r := by
  obtain ⟨k, h⟩ := h
  obtain ⟨a, b⟩ := ufind_facts h
  exact ⟨a, b, ufind_le _ _ h, k, h⟩
theorem ufind_turn (h : ∃ k, ufind p wh k u = some r) (hd : cnt wh (p * u * u - 4) = 0) : 1 ≤ u + 1 ∧ u + 1 ≤ 100 ∧ u + 1 ≤ r ∧ ∃ k, ufind p wh k (u + 1) = some r := by
  obtain ⟨k, h⟩ := h
  cases k with
  | zero => cases h
  | succ k =>
    unfold ufind at h
    split at h
    · exact ufind_all ⟨k, by simpa [hd] using h⟩
    · cases h
theorem ufind_meas (h : ∃ k, ufind p wh k u = some r) (hd : cnt wh (p * u * u - 4) = 0) : (r - (u + 1)).toNat < (r - u).toNat := by
  have := (ufind_turn h hd).2.2.1
  omega
end
abbrev rts (x y : Int) : List Int := (rangeKs 1 (Int.fdiv (y + 1) 2 - 1).toNat).foldl (fun l k => if Int.fmod (k * k) y = Int.fmod x y then l ++ [k] else l) []
theorem C_unit {w : World} {news : List (Addr × Obj)} {l : Addr} {vs : List Value} {n : Nat} {ns : List Int} {x y : Int} {tk tk2 : Tok} {r : Int}
   (hl : (l, PySem.W.listOf vs.toArray n) ∈ news) (hi : IntsAre vs ns) (hfit : ns.length ≤ 100) (hx0 : 13 ≤ x) (hx1 : x ≤ 53) (hy0 : 13 ≤ y) (hy1 : y ≤ 53)
   (hr : ufind x ns 100 1 = some r) (hr0 : 0 < (rts x y).length) (hr1 : 0 ≤ (rts x y).getD (Int.toNat 0) 0) (hr2 : (rts x y).getD (Int.toNat 0) 0 ≤ 60) :
   Con w 112 [.int x tk, .int y tk2, .ref l] 3 news (fun v nw => (∃ t, v = .int (Int.fmod (2 * (bisectL ns (x * r * r - 4) + r * (rts x y).getD (Int.toNat 0) 0)) y) t) ∧ nw = news) := by
  intro p loose mean mg mb dp un gd cn cs a ccd cl outer A₀ base h₀ L m s Q E B F X N T hk hd hu hret
  revert X; k_fill; intro X
  k_with_none
  k_with "m_bind" => first | exact BindsTo.of_eq rfl | exact binds_K (by k_in) rfl (by k_is) rfl rfl rfl
  k_with "m_in" => (k_here; k_dflt (refine wpAny_call ?_; first | (refine' code_def ?k1Zq ?k2Zq ?k3Zq ?k4Zq ?k5Zq ?kAZq ?kFZq ?kKZq ?k6Zq ?k7Zq ?k8Zq ?k9Zq ?kBZq ?_ ?c2Zq ?c3Zq ?c4Zq ?c5Zq; (case kAZq => exact rfl); (case kFZq => exact rfl); (case kKZq => first | exact rfl | assumption); (case k1Zq => k_asm); (case k2Zq => k_asm); (case k3Zq => k_asm); (case k4Zq => k_asm); (case k5Zq => k_asm); (case k6Zq => k_is); (case k7Zq => k_is); (case k8Zq => ktr_room); (case k9Zq => walk_at "m_bind"); (case c5Zq => decide); (case kBZq => exact locs rfl); (case c2Zq => exact rfl); (case c3Zq => exact rfl); (case c4Zq => exact rfl); k_whole; intro g' L' h' FG' F' N' B' X' T'; (try dsimp only); (try k_lift B'); (try k_fold)) | (refine' code_defC ?k1Zq ?k2Zq ?k3Zq ?k4Zq ?k5Zq ?kAZq ?kFZq ?kKZq ?k6Zq ?k7Zq ?k8Zq ?k9Zq ?kBZq ?kDZq ?_ ?c2Zq ?c3Zq ?c4Zq; (case kAZq => exact rfl); (case kFZq => exact rfl); (case kKZq => first | exact rfl | assumption); (case k1Zq => k_asm); (case k2Zq => k_asm); (case k3Zq => k_asm); (case k4Zq => k_asm); (case k5Zq => k_asm); (case k6Zq => k_is); (case k7Zq => k_is); (case k8Zq => ktr_room); (case k9Zq => walk_at "m_bind"); (case kBZq => exact rfl); (case kDZq => decide +kernel); (case c2Zq => exact rfl); (case c3Zq => exact rfl); (case c4Zq => exact rfl); k_whole; intro g' L' h' tk' cells' FG' F' N' Y' B' X' T' l1; (try k_lt l1); k_cells Y'; (try simp only [List.cons_append, List.nil_append] at N'); (try dsimp only); (try k_lift B'); (try k_fold)) | fail "m_in: not entered"))
  k_with "m_pre!" => first | assumption | k_mem | l_ints | omega | k_extra "m_pre" | decide
  k_with "m_end" => (refine con_ret ?aZq ?bZq ?cZq ?dZq; (case aZq => assumption); (case bZq => assumption); (case cZq => assumption))
  k_with "call ref!" => walk_at "m_in"
  k_with "m_sub" => kcf_all
  k_with "exec While Compare cons nil!" => k_extra "m_while"
  k_with "exec While Call cons nil!" => k_extra "m_while"
  k_with "CompSrcT!" => k_extra "m_compT"
  k_with "call ref!" => (k_here; k_dflt (refine' Con.use (C_bisL ?h1Zq ?h2Zq ?h3Zq) ?k1Zq ?k2Zq ?k3Zq ?k4Zq ?k5Zq ?kKZq ?kdZq ?kuZq ?_; (case k1Zq => k_asm); (case k2Zq => k_asm); (case k3Zq => k_asm); (case k4Zq => k_asm); (case k5Zq => k_asm); (case kKZq => first | exact rfl | assumption); (case h1Zq => walk_at "m_pre"); (case h2Zq => walk_at "m_pre"); (case h3Zq => walk_at "m_pre"); (case kdZq => ktr_room); (case kuZq => ktr_units)); intro v9 nw9 h9 tk9 hR F9 N9; (obtain ⟨⟨t9, e1⟩, e2⟩ := hR); subst v9; subst nw9; (try dsimp only); (try k_fold))
  k_with "call ref!" => (k_here; k_dflt (refine' Con.use (C_cnt ?h1Zq ?h2Zq ?h3Zq) ?k1Zq ?k2Zq ?k3Zq ?k4Zq ?k5Zq ?kKZq ?kdZq ?kuZq ?_; (case k1Zq => k_asm); (case k2Zq => k_asm); (case k3Zq => k_asm); (case k4Zq => k_asm); (case k5Zq => k_asm); (case kKZq => first | exact rfl | assumption); (case h1Zq => walk_at "m_pre"); (case h2Zq => walk_at "m_pre"); (case h3Zq => walk_at "m_pre"); (case kdZq => ktr_room); (case kuZq => ktr_units)); intro v9 nw9 h9 tk9 hR F9 N9; (obtain ⟨⟨t9, e1⟩, e2⟩ := hR); subst v9; subst nw9; (try dsimp only); (try k_fold))
  k_with "CompEnd!" => (refine' LCg.CompEnd.intro ?FZq ?NZq _ ?subZq ?offZq ?srcZq (kci_no ?eZq rfl); (case FZq => assumption); (case NZq => assumption); (case subZq => kcf_all); (case offZq => first | assumption | (simp only [LCg.Off3, and_true]; done) | (simp only [LCg.Off3, and_true]; assumption)); (case srcZq => first | lcg_src | assumption); (case eZq => exact if_neg (by assumption)))
  k_with "CompEnd!" => (refine' LCg.CompEnd.intro ?FZq ?NZq _ ?subZq ?offZq ?srcZq (kci_el ?eZq rfl rfl); (case FZq => assumption); (case NZq => assumption); (case subZq => kcf_all); (case offZq => first | assumption | (simp only [LCg.Off3, and_true]; done) | (simp only [LCg.Off3, and_true]; assumption)); (case srcZq => first | lcg_src | assumption); (case eZq => exact if_pos (by assumption)))
  k_with "subscriptTail!" => k_extra "m_item"
  have hq1 := half_lo hy0 hy1
  have hq2 := half_hi hy0 hy1
  walk_at "m_in"
  k_with "m_while" => k_while (fun _ u => 1 ≤ u ∧ u ≤ 100 ∧ u ≤ r ∧ (∃ k, ufind x ns k u = some r)) (fun _ u => (r - u).toNat) "u"
  k_with "state" => first | exact ufind_all ⟨100, hr⟩ | exact ufind_turn (by assumption) (by assumption)
  k_with "measure" => exact ufind_meas (by assumption) (by assumption)
  k_with "m_compT" => k_dflt (refine LCt.CompSrcT.range (by rfl) (by k_asm) (by k_asm) (by assumption) (by exact small_one (by l_bnd) (by l_bnd) (by l_bnd) (by l_bnd)) (by exact rangeSize_nat _ _) (by rw [PySem.sizeLine_eq]; omega) ?_; intro g'; (refine' kci_range (fun l k => if Int.fmod (k * k) y = Int.fmod x y then l ++ [k] else l) (fun k' t' I' oI' C' oC' D' m' ys' l' h' tk' E' hlo' hhi' hI' hC' hx' F' N' off' ne' => ?_) ?_ ?_); (all_goals (try (simp only [LCg.Off3, and_true] at off'))); (all_goals (try ((show KPfMark → _); intro hMark'))); kcf_last)
  dsimp only [rts] at hr0 hr1 hr2
  k_with "m_item" => (with_unfolding_all refine' item_anyK ?k1 ?k2 ?k3 ?k4 ?k5 ?_ ?k6; (case k1 => is_list); (case k2 => l_ints); (case k3 => decide); (case k4 => exact Int.ofNat_lt.mpr hr0); (case k5 => decide); (case k6 => with_unfolding_all rfl); k_whole); intro _
  k_steps
  rename (∃ k, _ = some r) => hk9
  have e9 := ufind_end hk9 (by assumption)
  subst e9
  refine' con_ret hret (by assumption) (cb_drop (by assumption) ?s) ⟨⟨_, rfl⟩, rfl⟩
  (case s => kcf_all)
end
section
theorem ints_det : ∀ {vs : List Value} {ns ms : List Int}, IntsAre vs ns → IntsAre vs ms → ns = ms
  | _, _, _, .nil, .nil => rfl
  | _, _, _, .cons _ _ a, .cons _ _ b => by rw [ints_det a b]
section
variable {prog : Program} {w : World} {A : Around} {E : Value → Shared → Prop} {s : Shared}
theorem in_two {t a b f : Addr} {vf va vb : List Value} {nf na nb : List Int} {Q : Value → Shared → Prop} (ht : s.heap.IsTuple t #[.ref a, .ref b]) (hf : s.heap.IsList f vf.toArray) (jf : IntsAre vf nf)
    (ha : s.heap.IsList a va.toArray) (ja : IntsAre va na) (hb : s.heap.IsList b vb.toArray) (jb : IntsAre vb nb) (hu : A.in1.units + 64 < cLine)
    (h : Q (.bool (decide (na = nf) || decide (nb = nf))) s) : wpAny (model prog w) A (compareOp .In (.ref f) (.ref t)) Q E s := by
  refine SeqAt.in_tupleAt (fun y => if y = .ref a then decide (na = nf) else decide (nb = nf)) ht (fun y hy => ?_) ?_
  · by_cases e : y = .ref a
    · subst e
      rw [if_pos rfl]
      exact keq_ints ha ja hf jf hu
    · rw [if_neg e]
      have : y = .ref b := by simpa [e] using hy
      subst this
      exact keq_ints hb jb hf jf hu
  · by_cases e : b = a
    · subst e
      obtain ⟨o, ho, _, n, hd⟩ := ha
      obtain ⟨o', ho', _, n', hd'⟩ := hb
      rw [ho] at ho'
      cases ho'
      rw [hd] at hd'
      have e2 : va = vb := by simpa using (Data.seq.inj hd').1
      subst e2
      have := ints_det ja jb
      subst this
      simpa using h
    · simpa [e] using h
end
end
section
abbrev whl : List Int := List.map (fun k' => k' * k') (rangeKs 0 (65 - 0 : Int).toNat)
theorem pws_len (p : Int) (n : Nat) (h : 13 ≤ p) (h' : p ≤ 53) : (pws p n).length ≤ 100 := by
  have := half_hi h h'
  unfold pws
  rw [(srt_perm _).length_eq, List.length_map, rangeKs_length]
  omega
/-- what _law_tells answers, of the numbers that it reckons -/
noncomputable def tells (X Y U1 U2 Bd F1 F2 m8 : Int) (O : Bool) : Bool :=
  if X = 0 then (Y == 0 && O) else if Y = 0 then false
  else if [U1, U2] = [if m8 = 5 then 1 - Bd else Bd, if m8 = 5 then 1 - Bd else Bd] then
    (if ((decide ([0, 0] = [F1, F2]) || decide ([2, 2] = [F1, F2])) != ((if m8 = 5 then 1 - Bd else Bd) == 1)) = true then false
     else (decide ([F1, F2] = [2, 2]) || (O == decide ([F1, F2] = [0, 0]))))
  else false
section
variable {X Y U1 U2 Bd F1 F2 m8 : Int} {O : Bool}
theorem tl1 (h : tells X Y U1 U2 Bd F1 F2 m8 O = true) (a : X = 0) (b : Y = 0) : O = true := by simpa [tells, a, b] using h
theorem tl2 (h : tells X Y U1 U2 Bd F1 F2 m8 O = true) (a : X = 0) (b : Y ≠ 0) : (Y == 0) = true := by
  rw [tells, if_pos a] at h
  exact (Bool.and_eq_true_iff.mp h).1
theorem tl3 (h : tells X Y U1 U2 Bd F1 F2 m8 O = true) (a : X ≠ 0) (b : Y = 0) : false = true := by
  rw [tells, if_neg a, if_pos b] at h; exact h
theorem tl4 (h : tells X Y U1 U2 Bd F1 F2 m8 O = true) (a : X ≠ 0) (b : Y ≠ 0) (c : m8 = 5) (d : ¬ [U1, U2] = [1 - Bd, 1 - Bd]) : false = true := by
  rw [tells, if_neg a, if_neg b, if_pos c, if_neg d] at h; exact h
theorem tl5 (h : tells X Y U1 U2 Bd F1 F2 m8 O = true) (a : X ≠ 0) (b : Y ≠ 0) (c : m8 ≠ 5) (d : ¬ [U1, U2] = [Bd, Bd]) : false = true := by
  rw [tells, if_neg a, if_neg b, if_neg c, if_neg d] at h; exact h
theorem tl6 (h : tells X Y U1 U2 Bd F1 F2 m8 O = true) (a : X ≠ 0) (b : Y ≠ 0) (c : m8 = 5) (d : [U1, U2] = [1 - Bd, 1 - Bd])
    (e : ((decide ([0, 0] = [F1, F2]) || decide ([2, 2] = [F1, F2])) != (1 - Bd == 1)) = true) : false = true := by
  rw [tells, if_neg a, if_neg b, if_pos c, if_pos d, if_pos e] at h; exact h
theorem tl7 (h : tells X Y U1 U2 Bd F1 F2 m8 O = true) (a : X ≠ 0) (b : Y ≠ 0) (c : m8 ≠ 5) (d : [U1, U2] = [Bd, Bd])
    (e : ((decide ([0, 0] = [F1, F2]) || decide ([2, 2] = [F1, F2])) != (Bd == 1)) = true) : false = true := by
  rw [tells, if_neg a, if_neg b, if_neg c, if_pos d, if_pos e] at h; exact h
theorem tl8 (h : tells X Y U1 U2 Bd F1 F2 m8 O = true) (a : X ≠ 0) (b : Y ≠ 0) (c : m8 = 5) (d : [U1, U2] = [1 - Bd, 1 - Bd])
    (e : ((decide ([0, 0] = [F1, F2]) || decide ([2, 2] = [F1, F2])) != (1 - Bd == 1)) = false) (f : ¬ [F1, F2] = [2, 2]) : (O == decide ([F1, F2] = [0, 0])) = true := by
  rw [tells, if_neg a, if_neg b, if_pos c, if_pos d, if_neg (by rw [e]; decide), decide_eq_false f] at h; exact h
theorem tl9 (h : tells X Y U1 U2 Bd F1 F2 m8 O = true) (a : X ≠ 0) (b : Y ≠ 0) (c : m8 ≠ 5) (d : [U1, U2] = [Bd, Bd])
    (e : ((decide ([0, 0] = [F1, F2]) || decide ([2, 2] = [F1, F2])) != (Bd == 1)) = false) (f : ¬ [F1, F2] = [2, 2]) : (O == decide ([F1, F2] = [0, 0])) = true := by
  rw [tells, if_neg a, if_neg b, if_neg c, if_pos d, if_neg (by rw [e]; decide), decide_eq_false f] at h; exact h
end
/-- all that the walk of _law_tells asks of p and q -/
abbrev Asks (p q ro rp rq : Int) : Prop :=
  13 ≤ p ∧ p ≤ 53 ∧ 13 ≤ q ∧ q ≤ 53 ∧ 0 ≤ p * q ∧ p * q ≤ 5000 ∧ 0 ≤ bisectR whl (p * q) - 1 ∧ bisectR whl (p * q) - 1 ≤ 100 ∧
  orun (bisectR whl (p * q) - 1) (p * q) 200 (bisectR whl (p * q) - 1) (p * q - (bisectR whl (p * q) - 1) * (bisectR whl (p * q) - 1)) 1 = some ro ∧
  ufind p whl 100 1 = some rp ∧ ufind q whl 100 1 = some rq ∧
  (cnt (pws q 2) (Int.fmod p q) ≠ 0 → cnt (pws p 2) (Int.fmod q p) ≠ 0 → 0 < (rts p q).length ∧ 0 ≤ (rts p q).getD (Int.toNat 0) 0 ∧ (rts p q).getD (Int.toNat 0) 0 ≤ 60 ∧ 0 < (rts q p).length ∧ 0 ≤ (rts q p).getD (Int.toNat 0) 0 ∧ (rts q p).getD (Int.toNat 0) 0 ≤ 60) ∧
  (0 ≤ (legs p whl).1 ∧ (legs p whl).1 ≤ 7 ∧ 0 ≤ (legs p whl).2 ∧ (legs p whl).2 ≤ 65) ∧ (0 ≤ (legs q whl).1 ∧ (legs q whl).1 ≤ 7 ∧ 0 ≤ (legs q whl).2 ∧ (legs q whl).2 ≤ 65) ∧
  tells (cnt (pws q 2) (Int.fmod p q)) (cnt (pws p 2) (Int.fmod q p))
    (cnt (pws q 2) (Int.fmod (2 * (bisectL whl (p * rp * rp - 4) + rp * (rts p q).getD (Int.toNat 0) 0)) q))
    (cnt (pws p 2) (Int.fmod (2 * (bisectL whl (q * rq * rq - 4) + rq * (rts q p).getD (Int.toNat 0) 0)) p))
    (cnt (pws q 2) (Int.fmod ((legs p whl).1 * (legs q whl).2 - (legs p whl).2 * (legs q whl).1) q))
    (cnt (pws q 4) (Int.fmod p q)) (cnt (pws p 4) (Int.fmod q p)) (Int.fmod q 8) (Int.fmod ro 2 == 1) = true
noncomputable def okB (p q : Int) : Bool :=
  match orun (bisectR whl (p * q) - 1) (p * q) 200 (bisectR whl (p * q) - 1) (p * q - (bisectR whl (p * q) - 1) * (bisectR whl (p * q) - 1)) 1, ufind p whl 100 1, ufind q whl 100 1 with
  | some ro, some rp, some rq => decide (Asks p q ro rp rq)
  | _, _, _ => false
theorem okB_asks {p q : Int} (h : okB p q = true) : ∃ ro rp rq, Asks p q ro rp rq := by
  unfold okB at h
  split at h
  · exact ⟨_, _, _, of_decide_eq_true h⟩
  · cases h
def prs : List Int := [13, 17, 29, 37, 41, 53]
theorem ok_all : ∀ i < 6, ∀ j < 6, i ≠ j → okB (prs.getD i 0) (prs.getD j 0) = true := by decide +kernel
end
section
theorem C_tells {w : World} {p q : Int} {tk tk2 : Tok} {ro rp rq : Int} (H : Asks p q ro rp rq) :
   Con w 131 [.int p tk, .int q tk2] 5 [] (fun v nw => v = .bool true ∧ nw = []) := by
  intro p loose mean mg mb dp un gd cn cs a ccd cl outer A₀ base h₀ L m s Q E B F X N T hk hd hu hret
  revert X; k_fill; intro X
  k_with_none
  k_with "m_bind" => first | exact BindsTo.of_eq rfl | exact binds_K (by k_in) rfl (by k_is) rfl rfl rfl
  k_with "m_in" => (k_here; k_dflt (refine wpAny_call ?_; first | (refine' code_def ?k1Zq ?k2Zq ?k3Zq ?k4Zq ?k5Zq ?kAZq ?kFZq ?kKZq ?k6Zq ?k7Zq ?k8Zq ?k9Zq ?kBZq ?_ ?c2Zq ?c3Zq ?c4Zq ?c5Zq; (case kAZq => exact rfl); (case kFZq => exact rfl); (case kKZq => first | exact rfl | assumption); (case k1Zq => k_asm); (case k2Zq => k_asm); (case k3Zq => k_asm); (case k4Zq => k_asm); (case k5Zq => k_asm); (case k6Zq => k_is); (case k7Zq => k_is); (case k8Zq => ktr_room); (case k9Zq => walk_at "m_bind"); (case c5Zq => decide); (case kBZq => exact locs rfl); (case c2Zq => exact rfl); (case c3Zq => exact rfl); (case c4Zq => exact rfl); k_whole; intro g' L' h' FG' F' N' B' X' T'; (try dsimp only); (try k_lift B'); (try k_fold)) | (refine' code_defC ?k1Zq ?k2Zq ?k3Zq ?k4Zq ?k5Zq ?kAZq ?kFZq ?kKZq ?k6Zq ?k7Zq ?k8Zq ?k9Zq ?kBZq ?kDZq ?_ ?c2Zq ?c3Zq ?c4Zq; (case kAZq => exact rfl); (case kFZq => exact rfl); (case kKZq => first | exact rfl | assumption); (case k1Zq => k_asm); (case k2Zq => k_asm); (case k3Zq => k_asm); (case k4Zq => k_asm); (case k5Zq => k_asm); (case k6Zq => k_is); (case k7Zq => k_is); (case k8Zq => ktr_room); (case k9Zq => walk_at "m_bind"); (case kBZq => exact rfl); (case kDZq => decide +kernel); (case c2Zq => exact rfl); (case c3Zq => exact rfl); (case c4Zq => exact rfl); k_whole; intro g' L' h' tk' cells' FG' F' N' Y' B' X' T' l1; (try k_lt l1); k_cells Y'; (try simp only [List.cons_append, List.nil_append] at N'); (try dsimp only); (try k_lift B'); (try k_fold)) | fail "m_in: not entered"))
  k_with "m_pre!" => first | assumption | k_mem | l_ints | omega | k_extra "m_pre" | decide
  k_with "m_end" => (refine con_ret ?aZq ?bZq ?cZq ?dZq; (case aZq => assumption); (case bZq => assumption); (case cZq => assumption))
  k_with "call ref!" => walk_at "m_in"
  k_with "m_sub" => kcf_all
  k_with "exec While Compare cons nil!" => k_extra "m_while"
  k_with "exec While Call cons nil!" => k_extra "m_while"
  k_with "CompSrcT!" => k_extra "m_compT"
  k_with "call ref!" => (k_here; k_dflt (refine' Con.use (C_cnt ?h1Zq ?h2Zq ?h3Zq) ?k1Zq ?k2Zq ?k3Zq ?k4Zq ?k5Zq ?kKZq ?kdZq ?kuZq ?_; (case k1Zq => k_asm); (case k2Zq => k_asm); (case k3Zq => k_asm); (case k4Zq => k_asm); (case k5Zq => k_asm); (case kKZq => first | exact rfl | assumption); (case h1Zq => walk_at "m_pre"); (case h2Zq => walk_at "m_pre"); (case h3Zq => walk_at "m_pre"); (case kdZq => ktr_room); (case kuZq => ktr_units)); intro v9 nw9 h9 tk9 hR F9 N9; (obtain ⟨⟨t9, e1⟩, e2⟩ := hR); subst v9; subst nw9; (try dsimp only); (try k_fold))
  k_with "call ref!" => (k_here; k_dflt (refine' Con.use (C_pow2 ?h1Zq ?h2Zq) ?k1Zq ?k2Zq ?k3Zq ?k4Zq ?k5Zq ?kKZq ?kdZq ?kuZq ?_; (case k1Zq => k_asm); (case k2Zq => k_asm); (case k3Zq => k_asm); (case k4Zq => k_asm); (case k5Zq => k_asm); (case kKZq => first | exact rfl | assumption); (case h1Zq => walk_at "m_pre"); (case h2Zq => walk_at "m_pre"); (case kdZq => ktr_room); (case kuZq => ktr_units)); intro v9 nw9 h9 tk9 hR F9 N9; (obtain ⟨l9, its9, n9, e1, e2, hI9⟩ := hR); subst v9; subst nw9; (try dsimp only); (try k_fold))
  k_with "call ref!" => (k_here; k_dflt (refine' Con.use (C_pow4 ?h1Zq ?h2Zq) ?k1Zq ?k2Zq ?k3Zq ?k4Zq ?k5Zq ?kKZq ?kdZq ?kuZq ?_; (case k1Zq => k_asm); (case k2Zq => k_asm); (case k3Zq => k_asm); (case k4Zq => k_asm); (case k5Zq => k_asm); (case kKZq => first | exact rfl | assumption); (case h1Zq => walk_at "m_pre"); (case h2Zq => walk_at "m_pre"); (case kdZq => ktr_room); (case kuZq => ktr_units)); intro v9 nw9 h9 tk9 hR F9 N9; (obtain ⟨l9, its9, n9, e1, e2, hI9⟩ := hR); subst v9; subst nw9; (try dsimp only); (try k_fold))
  k_with "call ref!" => (k_here; k_dflt (refine' Con.use (C_orun ?h1Zq ?h2Zq ?h3Zq ?h4Zq ?h5Zq ?h6Zq ?h7Zq ?h8Zq) ?k1Zq ?k2Zq ?k3Zq ?k4Zq ?k5Zq ?kKZq ?kdZq ?kuZq ?_; (case k1Zq => k_asm); (case k2Zq => k_asm); (case k3Zq => k_asm); (case k4Zq => k_asm); (case k5Zq => k_asm); (case kKZq => first | exact rfl | assumption); (case h1Zq => walk_at "m_pre"); (case h2Zq => walk_at "m_pre"); (case h3Zq => walk_at "m_pre"); (case h4Zq => walk_at "m_pre"); (case h5Zq => walk_at "m_pre"); (case h6Zq => walk_at "m_pre"); (case h7Zq => walk_at "m_pre"); (case h8Zq => walk_at "m_pre"); (case kdZq => ktr_room); (case kuZq => ktr_units)); intro v9 nw9 h9 tk9 hR F9 N9; (obtain ⟨e1, e2⟩ := hR); subst v9; subst nw9; (try dsimp only); (try k_fold))
  k_with "call ref!" => (k_here; k_dflt (refine' Con.use (C_unit ?h1Zq ?h2Zq ?h3Zq ?h4Zq ?h5Zq ?h6Zq ?h7Zq ?h8Zq ?h9Zq ?h10Zq ?h11Zq) ?k1Zq ?k2Zq ?k3Zq ?k4Zq ?k5Zq ?kKZq ?kdZq ?kuZq ?_; (case k1Zq => k_asm); (case k2Zq => k_asm); (case k3Zq => k_asm); (case k4Zq => k_asm); (case k5Zq => k_asm); (case kKZq => first | exact rfl | assumption); (case h1Zq => walk_at "m_pre"); (case h2Zq => walk_at "m_pre"); (case h3Zq => walk_at "m_pre"); (case h4Zq => walk_at "m_pre"); (case h5Zq => walk_at "m_pre"); (case h6Zq => walk_at "m_pre"); (case h7Zq => walk_at "m_pre"); (case h8Zq => walk_at "m_pre"); (case h9Zq => walk_at "m_pre"); (case h10Zq => walk_at "m_pre"); (case h11Zq => walk_at "m_pre"); (case kdZq => ktr_room); (case kuZq => ktr_units)); intro v9 nw9 h9 tk9 hR F9 N9; (obtain ⟨⟨t9, e1⟩, e2⟩ := hR); subst v9; subst nw9; (try dsimp only); (try k_fold))
  k_with "call ref!" => (k_here; k_dflt (refine' Con.use (D_legs ?h1Zq ?h2Zq) ?k1Zq ?k2Zq ?k3Zq ?k4Zq ?k5Zq ?kKZq ?kdZq ?kuZq ?_; (case k1Zq => k_asm); (case k2Zq => k_asm); (case k3Zq => k_asm); (case k4Zq => k_asm); (case k5Zq => k_asm); (case kKZq => first | exact rfl | assumption); (case h1Zq => walk_at "m_pre"); (case h2Zq => walk_at "m_pre"); (case kdZq => ktr_room); (case kuZq => ktr_units)); intro v9 nw9 h9 tk9 hR F9 N9; (obtain ⟨l9, t9, u9, n9, e1, e2⟩ := hR); subst v9; subst nw9; (try dsimp only); (try k_fold))
  k_with "call ref!" => (k_here; k_dflt (refine' Con.use (D_legs5 ?h1Zq ?h2Zq) ?k1Zq ?k2Zq ?k3Zq ?k4Zq ?k5Zq ?kKZq ?kdZq ?kuZq ?_; (case k1Zq => k_asm); (case k2Zq => k_asm); (case k3Zq => k_asm); (case k4Zq => k_asm); (case k5Zq => k_asm); (case kKZq => first | exact rfl | assumption); (case h1Zq => walk_at "m_pre"); (case h2Zq => walk_at "m_pre"); (case kdZq => ktr_room); (case kuZq => ktr_units)); intro v9 nw9 h9 tk9 hR F9 N9; (obtain ⟨l9, t9, u9, n9, e1, e2⟩ := hR); subst v9; subst nw9; (try dsimp only); (try k_fold))
  k_with "compareOp In ref ref!" => (k_here; (with_reducible show wpAny _ _ (compareOp CmpOp.In (Value.ref _) (Value.ref _)) _ _ _); k_dflt (refine' in_two ?tZq ?fZq ?iZq ?aZq ?iaZq ?bZq ?ibZq ?uZq ?_; (case tZq => exact News.isTup (by k_asm) (by news_mem)); (case fZq => is_list); (case iZq => l_intsC); (case aZq => is_list); (case iaZq => l_intsC); (case bZq => is_list); (case ibZq => l_intsC); (case uZq => ktr_units); k_whole))
  dsimp only [Asks, whl] at H
  obtain ⟨hp0, hp1, hq0, hq1, hpq0, hpq1, hor0, hor1, hor, hup, huq, hpu, ⟨hlp1, hlp2, hlp3, hlp4⟩, ⟨hlq1, hlq2, hlq3, hlq4⟩, hT⟩ := H
  walk_at "m_in"
  k_with "m_pre" => first | exact pws_len _ _ (by assumption) (by assumption) | exact (hpu (by assumption) (by assumption)).1 | exact (hpu (by assumption) (by assumption)).2.1 | exact (hpu (by assumption) (by assumption)).2.2.1 | exact (hpu (by assumption) (by assumption)).2.2.2.1 | exact (hpu (by assumption) (by assumption)).2.2.2.2.1 | exact (hpu (by assumption) (by assumption)).2.2.2.2.2 | (simp only [List.length_map, rangeKs_length]; decide)
  k_steps
  all_goals (refine con_ret hret (by assumption) (cb_drop (by assumption) (List.forall_mem_nil _)) ⟨congrArg Value.bool ?e, rfl⟩; (case e => first
    | exact tl1 hT (by assumption) (by assumption)
    | exact tl2 hT (by assumption) (by assumption)
    | exact tl3 hT (by assumption) (by assumption)
    | exact tl4 hT (by assumption) (by assumption) (by assumption) (by assumption)
    | exact tl5 hT (by assumption) (by assumption) (by assumption) (by assumption)
    | exact tl6 hT (by assumption) (by assumption) (by assumption) (by assumption) (by assumption)
    | exact tl7 hT (by assumption) (by assumption) (by assumption) (by assumption) (by assumption)
    | exact tl8 hT (by assumption) (by assumption) (by assumption) (by assumption) (by assumption) (by assumption)
    | exact tl9 hT (by assumption) (by assumption) (by assumption) (by assumption) (by assumption) (by assumption)
    | exact decide_eq_true (by assumption)))
end
section
section
variable {prog : Program} {w : World} {A : Around} {E : Value → Shared → Prop} {s : Shared} {h₀ : Heap} {L l : Addr} {m : Str → Option Value} {news : List (Addr × Obj)} {value slice : PySem.Expr} {vs : List Value} {ns : List Int} {vl vu vk : Value} {lo hi st : Option Int} {Q : Value → Shared → Prop}
theorem m_slice3 {ops : List Value} (F : Fr h₀ L s.heap m) (N : News h₀ L s.heap news) (hl : s.heap.IsList l vs.toArray) (hi' : IntsAre vs ns) (pl : IsPart vl lo) (pu : IsPart vu hi) (pk : IsPart vk st) (h0 : st ≠ some 0)
    (h : ∀ D ws h', Fr h₀ L h' m → News h₀ L h' ((D, PySem.W.listOf (List.toArray ws) 0) :: news) → (∀ p ∈ news, p.1 < D) → IntsAre ws (pickNums ns lo hi st) → Q (.ref D) { s with heap := h' })
    (hs : subscripted slice false (.ref l) (.ref s.heap.objs.size) = operate ops (getItem (.ref l) (.ref s.heap.objs.size))) (ht : ∀ r, letTemporaryGo value (.ref l) r = pure ()) (hz : vs.toArray.size ≤ sizeLine) :
    wpAny (model prog w) A (subscriptTail value slice (.ref l) (.ref s.heap.objs.size)) Q E { s with heap := s.heap.push { cls := .type "slice", data := .fields #[vl, vu, vk] } } :=
  kmk_slice3_lit F N hl pl pu pk h0 rfl (fun D h' F' N' l1 => h D _ h' F' N' l1 (hi'.pick lo hi st)) hs ht hz
end
abbrev prsL : List Int := [13, 17, 29, 37, 41, 53]
abbrev sgsL : List Str := [Str.ofString ";", Str.ofString "/", Str.ofString "<=", Str.ofString "-=", Str.ofString "&=", Str.ofString ":="]
theorem ij_ne {a b : Int} : (Int.fmod a 6).toNat < 6 ∧ (Int.fmod (Int.fmod a 6 + 1 + Int.fmod b 5) 6).toNat < 6 ∧ (Int.fmod a 6).toNat ≠ (Int.fmod (Int.fmod a 6 + 1 + Int.fmod b 5) 6).toNat := by
  rw [Int.fmod_eq_emod_of_nonneg a (by decide), Int.fmod_eq_emod_of_nonneg b (by decide), Int.fmod_eq_emod_of_nonneg _ (by decide)]
  omega
/-- the sum that the turn k reckons -/
def sm (ns : List Int) (k : Int) : Int := Int.fmod (([0, 0, 464090] : List Int).getD k.toNat 0 + (pickNums ns (some k) (some 20) (some 3)).sum) (10 ^ Int.toNat 6)
theorem done3 {ns : List Int} {news : List (Addr × Obj)} {Fin : List Value → List (Addr × Obj) → Prop}
    (h : ∀ ys a b c, IntsAre ys [a, b, c] → 0 ≤ a → a < 1000000 → 0 ≤ b → b < 1000000 → 0 ≤ c → c < 1000000 → Fin ys news) : KPfDone (∀ ys, IntsAre ys ((rangeKs 0 (3 - 0 : Int).toNat).map (sm ns)) → Fin ys news) := by
  intro ys hy
  have lo (k : Int) : 0 ≤ sm ns k := Int.fmod_nonneg_of_pos _ (by decide)
  have hi (k : Int) : sm ns k < 1000000 := Int.fmod_lt_of_pos _ (by decide)
  exact h ys (sm ns 0) (sm ns 1) (sm ns 2) hy (lo _) (hi _) (lo _) (hi _) (lo _) (hi _)
set_option maxHeartbeats 2000000 in
theorem C_drawn {w : World} {l : Addr} {vs : List Value} {ns : List Int} (hi : IntsAre vs ns) (hfit : ns.length ≤ 63) :
   ConL w 88 [.ref l] 1 [] l vs (fun v nw => ∃ (i j : Nat) (c : Int) (l' : Addr) (t1 t2 t3 t4 : Tok) (n : Nat), i < 6 ∧ j < 6 ∧ i ≠ j ∧ 0 ≤ c ∧ c < 1000000 ∧ v = .ref l' ∧
     nw = [(l', PySem.W.listOf #[.int (prsL.getD i 0) t1, .int (prsL.getD j 0) t2, .str (sgsL.getD i Str.empty ++ Str.ofString " " ++ sgsL.getD j Str.empty) t3, .int c t4] n)]) := by
  intro p loose mean mg mb dp un gd cn cs a ccd cl outer A₀ base h₀ L m s Q E B F X N T hk hd hu hl hret
  revert X; k_fill; intro X
  k_with_none
  k_with "m_bind" => first | exact BindsTo.of_eq rfl | exact binds_K (by k_in) rfl (by k_is) rfl rfl rfl
  k_with "m_in" => (k_here; k_dflt (refine wpAny_call ?_; first | (refine' code_def ?k1Zq ?k2Zq ?k3Zq ?k4Zq ?k5Zq ?kAZq ?kFZq ?kKZq ?k6Zq ?k7Zq ?k8Zq ?k9Zq ?kBZq ?_ ?c2Zq ?c3Zq ?c4Zq ?c5Zq; (case kAZq => exact rfl); (case kFZq => exact rfl); (case kKZq => first | exact rfl | assumption); (case k1Zq => k_asm); (case k2Zq => k_asm); (case k3Zq => k_asm); (case k4Zq => k_asm); (case k5Zq => k_asm); (case k6Zq => k_is); (case k7Zq => k_is); (case k8Zq => ktr_room); (case k9Zq => walk_at "m_bind"); (case c5Zq => decide); (case kBZq => exact locs rfl); (case c2Zq => exact rfl); (case c3Zq => exact rfl); (case c4Zq => exact rfl); k_whole; intro g' L' h' FG' F' N' B' X' T'; (try dsimp only); (try k_lift B'); (try k_fold)) | (refine' code_defC ?k1Zq ?k2Zq ?k3Zq ?k4Zq ?k5Zq ?kAZq ?kFZq ?kKZq ?k6Zq ?k7Zq ?k8Zq ?k9Zq ?kBZq ?kDZq ?_ ?c2Zq ?c3Zq ?c4Zq; (case kAZq => exact rfl); (case kFZq => exact rfl); (case kKZq => first | exact rfl | assumption); (case k1Zq => k_asm); (case k2Zq => k_asm); (case k3Zq => k_asm); (case k4Zq => k_asm); (case k5Zq => k_asm); (case k6Zq => k_is); (case k7Zq => k_is); (case k8Zq => ktr_room); (case k9Zq => walk_at "m_bind"); (case kBZq => exact rfl); (case kDZq => decide +kernel); (case c2Zq => exact rfl); (case c3Zq => exact rfl); (case c4Zq => exact rfl); k_whole; intro g' L' h' tk' cells' FG' F' N' Y' B' X' T' l1; (try k_lt l1); k_cells Y'; (try simp only [List.cons_append, List.nil_append] at N'); (try dsimp only); (try k_lift B'); (try k_fold)) | fail "m_in: not entered"))
  k_with "m_pre!" => first | assumption | k_mem | l_ints | omega | k_extra "m_pre" | decide
  k_with "m_end" => (refine con_ret ?aZq ?bZq ?cZq ?dZq; (case aZq => assumption); (case bZq => assumption); (case cZq => assumption))
  k_with "call ref!" => walk_at "m_in"
  k_with "m_sub" => kcf_all
  k_with "exec While Compare cons nil!" => k_extra "m_while"
  k_with "exec While Call cons nil!" => k_extra "m_while"
  k_with "CompSrcT!" => k_extra "m_compT"
  k_with "CompSrc!" => k_extra "m_comp"
  k_with "KCfEl!" => exact ⟨rfl, _, rfl⟩
  k_with "KPfDone!" => (refine done3 ?_; intro ys a8 b8 c8 hI8 ha8 ha9 hb8 hb9 hc8 hc9)
  k_with "subscriptTail Name Slice ref ref!" => (k_here; k_dflt (show wpAny _ _ (subscriptTail _ (PySem.Expr.Slice _ _ (some _) _) (Value.ref _) (Value.ref _)) _ _ _); k_dflt (refine' m_slice3 (s := ⟨_, _, _, _, _⟩) ?FZq ?NZq ?lZq ?iZq ?pZq ?qZq ?kZq ?oZq ?_ ?sZq ?tZq ?zZq; (case FZq => k_asm); (case NZq => k_asm); (case lZq => kmk_list); (case pZq => kmk_part); (case qZq => kmk_part); (case kZq => kmk_part); (case iZq => l_ints); (case oZq => decide); (case sZq => with_unfolding_all rfl); (case tZq => kmk_pure); (case zZq => kmk_size)); intro D' ws' h' F' N' l1 hI'; (try k_lt l1))
  k_with "call builtin:sum!" => (k_here; k_dflt (show wpAny _ _ (call (Value.builtin "sum") [Value.ref _]) _ _ _); (with_unfolding_all refine' sumK ?k0Zq ?k1Zq ?k2Zq ?k3Zq ?k4Zq ?_; (case k0Zq => with_unfolding_all rfl); (case k1Zq => k_asm); (case k2Zq => k_asm); (case k3Zq => is_list); (case k4Zq => l_ints); k_whole); intro h' tk' t' F' N')
  k_with "binaryOp Pow int int!" => (k_here; (with_reducible refine pow_int_small ?kb1Zq ?kb2Zq ?kb3Zq ?_); (case kb1Zq => decide); (case kb2Zq => decide); (case kb3Zq => decide))
  k_lift B
  walk_at "m_in"
  k_with "table" => skip
  k_with "m_comp" => k_dflt (refine LCg.CompSrc.range (by rfl) (by k_asm) (by k_asm) (by assumption) (by decide) (by exact rangeSize_nat _ _) (by exact Nat.le_of_ble_eq_true rfl) ?_; intro g'; (refine' kcf_range (sm ns) (fun k' t' I' oI' C' oC' D' m' ys' h' tk' E' hlo' hhi' hC' hx' F' N' off' ne' hMark' => ?_) ?_); (all_goals (try (simp only [LCg.Off3, and_true] at off'))); kcf_last)
  k_steps
  refine' con_ret hret (by assumption) (cb_drop (by assumption) ?s) ⟨_, _, _, _, _, _, _, _, _, (ij_ne (a := ?a) (b := ?b)).1, (ij_ne (a := ?a) (b := ?b)).2.1, (ij_ne (a := ?a) (b := ?b)).2.2, ?h1, ?h2, rfl, rfl⟩
  (case s => kcf_all)
  (case h1 => assumption)
  (case h2 => assumption)
end
section
theorem plainAttrs_pat : PlainAttrs "re.Pattern" :=
  ⟨⟨"object.__getattribute__", by rw [typeLookup_type, builtinLookup_eq_fast]; kernel_rfl, by decide +kernel⟩, by rw [typeLookup_type, builtinLookup_eq_fast]; kernel_rfl⟩
theorem slot_pat_sub : Slot "re.Pattern" "sub" "re.Pattern.sub" :=
  .of (owner := "re.Pattern") (n := "sub") (by rw [typeLookup_type, builtinLookup_eq_fast]; kernel_rfl) (by decide +kernel) (by decide +kernel) (by decide +kernel)
    (by first | exact .inl (by decide +kernel) | exact .inr (by decide +kernel)) (by rw [isSubtype_type]; kernel_rfl)
theorem type_pat_sub : typeOf (.builtin "re.Pattern.sub") = pure (.type "method_descriptor") := by show builtinType _ = _; rw [builtinType_eq_fast]; kernel_rfl
theorem entry_pat_sub : entryFor table "re.Pattern.sub" = some Builtin.«re.Pattern.sub» := entryFor_of_tree (by kernel_rfl)
theorem entry_pat_loop : entryFor table "re.Pattern.sub.loop" = some Builtin.«re.Pattern.sub.loop» := entryFor_of_tree (by kernel_rfl)
theorem plain_pat_loop : plainId "re.Pattern.sub.loop" = true := by decide +kernel
theorem args_pat_sub_3 (a b c : Value) : argsOk "re.Pattern.sub" ⟨[a, b, c], []⟩ := by unfold argsOk; kernel_rfl
end
section
section
open PySem.Sre PySem.Sre.M
def c1 : Array Nat := #[14, 4, 0, 1, 1, 6, 1, 16, 46, 1]
def c2 : Array Nat := #[14, 9, 4, 1, 2, 16, 10, 16, 13, 0, 7, 7, 16, 13, 16, 10, 15, 18, 5, 16, 10, 15, 13, 11, 16, 13, 5, 5, 0, 16, 10, 1, 15, 2, 0, 1]

theorem runFor_add : ∀ (a b : Nat) (m : M), runFor (a + b) m = runFor b (runFor a m)
  | 0, b, m => by rw [Nat.zero_add]; rfl
  | a + 1, b, m => by
    rw [Nat.succ_add]
    show (if m.outcome.isSome then m else runFor (a + b) m.step) = runFor b (if m.outcome.isSome then m else runFor a m.step)
    by_cases h : m.outcome.isSome
    · rw [if_pos h, if_pos h]
      cases b with
      | zero => rfl
      | succ b => show m = if m.outcome.isSome then m else _; rw [if_pos h]
    · rw [if_neg h, if_neg h]; exact runFor_add a b m.step
theorem runFor_done {m : M} (h : m.outcome.isSome) : ∀ n, runFor n m = m
  | 0 => rfl
  | n + 1 => by show (if m.outcome.isSome then m else _) = m; rw [if_pos h]

/-- a search ends, in few enough steps -/
def Search (code text : Array Nat) (start lim : Nat) (must : Bool) (r : Option (Nat × Nat)) : Prop :=
  ∃ n, n ≤ 2 ^ 32 ∧ match r with
    | some (a, b) => (runFor n (forSearch code text 0 start lim must)).outcome = some .matched ∧ (runFor n (forSearch code text 0 start lim must)).start = a ∧ (runFor n (forSearch code text 0 start lim must)).handed = b
    | none => (runFor n (forSearch code text 0 start lim must)).outcome = some .failed

theorem inSet2 (c : Nat) (sn0 : Sre.Seen) : ∃ sn, inSet c2 c 36 5 true sn0 = .ok (c == 10 || c == 13, sn) := by
  have e : inSet c2 c 36 5 true sn0 = if c == 10 then .ok (true, sn0.add 16) else if c == 13 then .ok (true, (sn0.add 16).add 16) else .ok (false, ((sn0.add 16).add 16).add 0) := rfl
  rw [e]
  by_cases h : (c == 10) = true
  · exact ⟨_, by rw [if_pos h, h]; rfl⟩
  · rw [if_neg h]
    by_cases h' : (c == 13) = true
    · exact ⟨_, by rw [if_pos h', h', Bool.or_true]⟩
    · exact ⟨_, by rw [if_neg h', Bool.eq_false_iff.mpr h, Bool.eq_false_iff.mpr h']; rfl⟩
theorem admitted2 {m : M} (hc : m.code = c2) {e : Nat} (he : e < m.lim) (hin : m.text.getD e 0 = 10 ∨ m.text.getD e 0 = 13) :
    ∀ (fuel s : Nat) (sn0 : Sre.Seen), s ≤ e → e - s < fuel → (∀ i, s ≤ i → i < e → m.text.getD i 0 ≠ 10 ∧ m.text.getD i 0 ≠ 13) → ∃ sn, admitted m fuel s sn0 = .ok (some e, sn)
  | 0, s, sn0, _, h, _ => absurd h (Nat.not_lt_zero _)
  | fuel + 1, s, sn0, hs, hf, hno => by
    unfold admitted
    rw [if_neg (by omega), hc]
    obtain ⟨sn, h1⟩ := inSet2 (m.text.getD s 0) sn0
    have h1' : inSet c2 (m.text.getD s 0) c2.size 5 true sn0 = .ok (m.text.getD s 0 == 10 || m.text.getD s 0 == 13, sn) := h1
    rw [h1']
    by_cases hse : s = e
    · subst hse
      have : (m.text.getD s 0 == 10 || m.text.getD s 0 == 13) = true := by rcases hin with h | h <;> rw [h] <;> rfl
      rw [this]
      exact ⟨sn, rfl⟩
    · have hn := hno s (Nat.le_refl _) (by omega)
      have : (m.text.getD s 0 == 10 || m.text.getD s 0 == 13) = false := by rw [beq_eq_false_iff_ne.mpr hn.1, beq_eq_false_iff_ne.mpr hn.2]; rfl
      rw [this]
      exact admitted2 hc he hin fuel (s + 1) sn (by omega) (by omega) fun i h1 h2 => hno i (by omega) h2
theorem runFor_succ {m : M} (h : m.outcome = none) (n : Nat) : runFor (n + 1) m = runFor n m.step := by
  show (if m.outcome.isSome then m else runFor n m.step) = _
  rw [h]; rfl
theorem step_exec {m : M} (h : m.outcome = none) (ha : m.answer = none) (hp : m.pc < m.code.size) : m.step = m.exec := by
  unfold M.step
  rw [h, ha]
  simp only [Option.isSome_none, Bool.false_eq_true, if_false, if_pos hp]
theorem exec_lit {m : M} (h : ops[m.code.getD m.pc 0]? = some .LITERAL) :
    m.exec = if m.pos ≥ m.lim then { m with seen := m.seen.add (m.word 0) }.say false
      else if m.text.getD m.pos 0 = m.code.getD (m.pc + 1) 0 then { m with seen := m.seen.add (m.word 0), pc := m.pc + 2, pos := m.pos + 1 }
      else { m with seen := m.seen.add (m.word 0) }.say false := by
  have hw : ops[m.word 0]? = some .LITERAL := h
  unfold M.exec
  simp only [hw]
  by_cases h1 : m.pos ≥ m.lim
  · rw [if_pos h1, if_pos h1]
  · rw [if_neg h1, if_neg h1]
    unfold accepts
    simp only [h]
    by_cases h2 : m.text.getD m.pos 0 = m.code.getD (m.pc + 1) 0
    · rw [if_pos h2, beq_iff_eq.mpr h2]
      simp only [itemWidth, h]
    · rw [if_neg h2, beq_eq_false_iff_ne.mpr h2]
abbrev b2 (text : Array Nat) (lim e : Nat) (sn : Sre.Seen) (pc pos handed : Nat) (out : Bool) (fr : List Sre.Frame) (wt : Nat) (ans : Option Bool) : M :=
  { code := c2, text, lim, start := e, lastStart := lim, mustAdvance := false, pc, pos, handed, outermost := out, marks := #[], frames := fr, weight := wt, answer := ans, seen := sn }
abbrev f0 (e : Nat) : Sre.Frame := { wait := .nextStart, pc := 10, pos := e, outermost := true }
abbrev fB (e k : Nat) : Sre.Frame := { wait := .nextBranch, pc := k, pos := e, outermost := true }
section
variable {text : Array Nat} {lim e : Nat} {sn : Sre.Seen}
theorem lit_no {pos pc hd w : Nat} {out : Bool} {fr : List Sre.Frame} {wt : Nat} (h : lim ≤ pos ∨ text.getD pos 0 ≠ w)
    (hop : ops[c2.getD pc 0]? = some .LITERAL := by rfl) (hw : c2.getD (pc + 1) 0 = w := by rfl) (hp : pc < c2.size := by decide) :
    (b2 text lim e sn pc pos hd out fr wt none).step = b2 text lim e (sn.add (c2.getD pc 0)) pc pos hd out fr wt (some false) := by
  rw [step_exec rfl rfl hp, exec_lit (m := b2 text lim e sn pc pos hd out fr wt none) hop]
  by_cases h1 : lim ≤ pos
  · rw [if_pos h1]; rfl
  · rw [if_neg h1, if_neg]
    · rfl
    · show ¬ text.getD pos 0 = c2.getD (pc + 1) 0
      rw [hw]; exact h.resolve_left h1
theorem lit_ok {pos pc hd w : Nat} {out : Bool} {fr : List Sre.Frame} {wt : Nat} (h : pos < lim) (h' : text.getD pos 0 = w)
    (hop : ops[c2.getD pc 0]? = some .LITERAL := by rfl) (hw : c2.getD (pc + 1) 0 = w := by rfl) (hp : pc < c2.size := by decide) :
    (b2 text lim e sn pc pos hd out fr wt none).step = b2 text lim e (sn.add (c2.getD pc 0)) (pc + 2) (pos + 1) hd out fr wt none := by
  rw [step_exec rfl rfl hp, exec_lit (m := b2 text lim e sn pc pos hd out fr wt none) hop]
  rw [if_neg (show ¬ pos ≥ lim by omega), if_pos (show text.getD pos 0 = c2.getD (pc + 1) 0 by rw [hw]; exact h')]
  rfl
theorem reach {m m' r : M} {n : Nat} (h : m.outcome = none) (hs : m.step = m') (hr : runFor n m' = r) : runFor (n + 1) m = r := by rw [runFor_succ h, hs, hr]
section
variable {hd k j pc : Nat} {out : Bool} {fr : List Sre.Frame} {wt : Nat}
theorem l12n (h : lim ≤ k ∨ text.getD k 0 ≠ 13) : (b2 text lim e sn 12 k hd out fr wt none).step = b2 text lim e (sn.add 16) 12 k hd out fr wt (some false) := lit_no (pc := 12) h
theorem l12y (h : k < lim) (h' : text.getD k 0 = 13) : (b2 text lim e sn 12 k hd out fr wt none).step = b2 text lim e (sn.add 16) 14 (k + 1) hd out fr wt none := lit_ok (pc := 12) h h'
theorem l14n (h : lim ≤ k ∨ text.getD k 0 ≠ 10) : (b2 text lim e sn 14 k hd out fr wt none).step = b2 text lim e (sn.add 16) 14 k hd out fr wt (some false) := lit_no (pc := 14) h
theorem l14y (h : k < lim) (h' : text.getD k 0 = 10) : (b2 text lim e sn 14 k hd out fr wt none).step = b2 text lim e (sn.add 16) 16 (k + 1) hd out fr wt none := lit_ok (pc := 14) h h'
theorem l19n (h : lim ≤ k ∨ text.getD k 0 ≠ 10) : (b2 text lim e sn 19 k hd out fr wt none).step = b2 text lim e (sn.add 16) 19 k hd out fr wt (some false) := lit_no (pc := 19) h
theorem l19y (h : k < lim) (h' : text.getD k 0 = 10) : (b2 text lim e sn 19 k hd out fr wt none).step = b2 text lim e (sn.add 16) 21 (k + 1) hd out fr wt none := lit_ok (pc := 19) h h'
theorem l24y (h : k < lim) (h' : text.getD k 0 = 13) : (b2 text lim e sn 24 k hd out fr wt none).step = b2 text lim e (sn.add 16) 26 (k + 1) hd out fr wt none := lit_ok (pc := 24) h h'
theorem l29n (h : lim ≤ k ∨ text.getD k 0 ≠ 10) : (b2 text lim e sn 29 k hd out fr wt none).step = b2 text lim e (sn.add 16) 29 k hd out fr wt (some false) := lit_no (pc := 29) h
theorem s10 : (b2 text lim e sn 10 e e true [f0 e] 1 none).step = b2 text lim e (sn.add 7) 12 e e true [fB e 11, f0 e] 2 none := rfl
theorem sB11 : (b2 text lim e sn pc k hd true [fB e 11, f0 e] 2 (some false)).step = b2 text lim e sn 19 e e true [fB e 18, f0 e] 2 none := rfl
theorem sB18 : (b2 text lim e sn pc k hd true [fB e 18, f0 e] 2 (some false)).step = b2 text lim e sn 24 e e true [fB e 23, f0 e] 2 none := rfl
abbrev fL (p : Nat) : Sre.Frame := { wait := .lookNot, pc := 26, pos := p, outermost := true }
theorem s26 : (b2 text lim e sn 26 k hd true [fB e j, f0 e] 2 none).step = b2 text lim e (sn.add 5) 29 k k false [fL k, fB e j, f0 e] 3 none := rfl
theorem sL : (b2 text lim e sn pc k hd out [fL k, fB e j, f0 e] 3 (some false)).step = b2 text lim e sn 32 k hd true [fB e j, f0 e] 2 none := rfl
theorem s16 : (b2 text lim e sn 16 k hd true [fB e j, f0 e] 2 none).step = b2 text lim e (sn.add 15) 35 k hd true [fB e j, f0 e] 2 none := rfl
theorem s21 : (b2 text lim e sn 21 k hd true [fB e j, f0 e] 2 none).step = b2 text lim e (sn.add 15) 35 k hd true [fB e j, f0 e] 2 none := rfl
theorem s32 : (b2 text lim e sn 32 k hd true [fB e j, f0 e] 2 none).step = b2 text lim e (sn.add 15) 35 k hd true [fB e j, f0 e] 2 none := rfl
theorem s35 : (b2 text lim e sn 35 k hd true [fB e j, f0 e] 2 none).step = b2 text lim e (sn.add 1) 35 k k true [fB e j, f0 e] 2 (some true) := rfl
theorem sE1 : (b2 text lim e sn 35 k hd true [fB e j, f0 e] 2 (some true)).step = b2 text lim e sn j e hd true [f0 e] 1 (some true) := rfl
theorem sE2 : (b2 text lim e sn j e hd true [f0 e] 1 (some true)).step = b2 text lim e sn 10 e hd true [] 0 (some true) := rfl
theorem sE3 : (b2 text lim e sn 10 e hd true [] 0 (some true)).step = { b2 text lim e sn 10 e hd true [] 0 (some true) with outcome := some .matched } := rfl
end
theorem end35 {k hd j : Nat} : ∃ s', runFor 4 (b2 text lim e sn 35 k hd true [fB e j, f0 e] 2 none) = { b2 text lim e s' 10 e k true [] 0 (some true) with outcome := some .matched } :=
  ⟨_, reach rfl s35 (reach rfl sE1 (reach rfl sE2 (reach rfl sE3 rfl)))⟩
/-- a line feed -/
theorem at_lf (hl : e < lim) (h : text.getD e 0 = 10) : ∃ s', runFor 9 (b2 text lim e sn 10 e e true [f0 e] 1 none) = { b2 text lim e s' 10 e (e + 1) true [] 0 (some true) with outcome := some .matched } := by
  obtain ⟨s', k⟩ := end35 (text := text) (lim := lim) (e := e) (sn := ((((sn.add 7).add 16).add 16).add 15)) (k := e + 1) (hd := e) (j := 18)
  exact ⟨s', reach rfl s10 (reach rfl (l12n (.inr (by rw [h]; decide))) (reach rfl sB11 (reach rfl (l19y hl h) (reach rfl s21 k))))⟩
theorem at_crlf (hl : e + 1 < lim) (h : text.getD e 0 = 13) (h' : text.getD (e + 1) 0 = 10) : ∃ s', runFor 8 (b2 text lim e sn 10 e e true [f0 e] 1 none) = { b2 text lim e s' 10 e (e + 1 + 1) true [] 0 (some true) with outcome := some .matched } := by
  obtain ⟨s', k⟩ := end35 (text := text) (lim := lim) (e := e) (sn := ((((sn.add 7).add 16).add 16).add 15)) (k := e + 1 + 1) (hd := e) (j := 11)
  exact ⟨s', reach rfl s10 (reach rfl (l12y (by omega) h) (reach rfl (l14y hl h') (reach rfl s16 k)))⟩
theorem at_cr (hl : e < lim) (h : text.getD e 0 = 13) (h' : lim ≤ e + 1 ∨ text.getD (e + 1) 0 ≠ 10) : ∃ s', runFor 15 (b2 text lim e sn 10 e e true [f0 e] 1 none) = { b2 text lim e s' 10 e (e + 1) true [] 0 (some true) with outcome := some .matched } := by
  obtain ⟨s', k⟩ := end35 (text := text) (lim := lim) (e := e) (sn := ((((((((sn.add 7).add 16).add 16).add 16).add 16).add 5).add 16).add 15)) (k := e + 1) (hd := e + 1) (j := 23)
  exact ⟨s', reach rfl s10 (reach rfl (l12y hl h) (reach rfl (l14n h') (reach rfl sB11 (reach rfl (l19n (.inr (by rw [h]; decide))) (reach rfl sB18 (reach rfl (l24y hl h) (reach rfl s26 (reach rfl (l29n h') (reach rfl sL (reach rfl s32 k))))))))))⟩
end
end
end
section
section
open PySem.Sre PySem.Sre.M
abbrev m2 (text : Array Nat) (start lim : Nat) (must : Bool) : M :=
  { code := c2, text, lim, start, lastStart := lim, mustAdvance := must, pc := 10, pos := start, handed := start, marks := #[], seen := ({} : Sre.Seen).add 14 }
section
variable {text : Array Nat} {start lim e : Nat} {must : Bool}
theorem for2 (hs : start < lim) : forSearch c2 text 0 start lim must = (m2 text start lim must).attemptFrom start true := by
  have h : (decide (start > lim) || decide (lim - start < 1)) = false := by
    rw [decide_eq_false (by omega), decide_eq_false (by omega)]; rfl
  show (if (decide (start > lim) || decide (lim - start < 1)) = true then _ else (m2 text start lim must).attemptFrom start true) = _
  rw [h]; rfl
theorem begin2 (hs : start ≤ e) (he : e < lim) (hin : text.getD e 0 = 10 ∨ text.getD e 0 = 13) (hno : ∀ i, start ≤ i → i < e → text.getD i 0 ≠ 10 ∧ text.getD i 0 ≠ 13) :
    ∃ s', forSearch c2 text 0 start lim must = b2 text lim e s' 10 e e true [f0 e] 1 none := by
  obtain ⟨sn, h⟩ := admitted2 (m := m2 text start lim must) rfl he hin (lim + 1 - start) start (({} : Sre.Seen).add 14) hs (by omega) hno
  refine ⟨sn, ?_⟩
  rw [for2 (by omega)]
  unfold attemptFrom
  have h' : admitted (m2 text start lim must) ((m2 text start lim must).lim + 1 - start) start (m2 text start lim must).seen = .ok (some e, sn) := h
  rw [show (!(m2 text start lim must).hasFirstSet) = false from rfl, if_neg Bool.false_ne_true, h']
  rfl
theorem search_end (hs : lim ≤ start) : Search c2 text start lim must none := by
  refine ⟨1, by decide, ?_⟩
  have h : (decide (start > lim) || decide (lim - start < 1)) = true := by
    rw [decide_eq_true (show lim - start < 1 by omega), Bool.or_true]
  have e : forSearch c2 text 0 start lim must = ({ m2 text start lim must with lastStart := 0 } : M).say false := by
    show (if (decide (start > lim) || decide (lim - start < 1)) = true then ({ m2 text start lim must with lastStart := 0 } : M).say false else _) = _
    rw [h]; rfl
  rw [e]
  rfl
theorem search_lf (hs : start ≤ e) (he : e < lim) (hno : ∀ i, start ≤ i → i < e → text.getD i 0 ≠ 10 ∧ text.getD i 0 ≠ 13) (h : text.getD e 0 = 10) : Search c2 text start lim must (some (e, e + 1)) := by
  obtain ⟨s', k⟩ := begin2 (must := must) hs he (.inl h) hno
  obtain ⟨s2, k2⟩ := at_lf (sn := s') he h
  refine ⟨9, by decide, ?_⟩
  dsimp only
  rw [k, k2]
  exact ⟨rfl, rfl, rfl⟩
theorem search_crlf (hs : start ≤ e) (he : e + 1 < lim) (hno : ∀ i, start ≤ i → i < e → text.getD i 0 ≠ 10 ∧ text.getD i 0 ≠ 13) (h : text.getD e 0 = 13) (h' : text.getD (e + 1) 0 = 10) : Search c2 text start lim must (some (e, e + 2)) := by
  obtain ⟨s', k⟩ := begin2 (must := must) hs (by omega : e < lim) (.inr h) hno
  obtain ⟨s2, k2⟩ := at_crlf (sn := s') he h h'
  refine ⟨8, by decide, ?_⟩
  dsimp only
  rw [k, k2]
  exact ⟨rfl, rfl, rfl⟩
theorem search_cr (hs : start ≤ e) (he : e < lim) (hno : ∀ i, start ≤ i → i < e → text.getD i 0 ≠ 10 ∧ text.getD i 0 ≠ 13) (h : text.getD e 0 = 13) (h' : lim ≤ e + 1 ∨ text.getD (e + 1) 0 ≠ 10) : Search c2 text start lim must (some (e, e + 1)) := by
  obtain ⟨s', k⟩ := begin2 (must := must) hs he (.inr h) hno
  obtain ⟨s2, k2⟩ := at_cr (sn := s') he h h'
  refine ⟨15, by decide, ?_⟩
  dsimp only
  rw [k, k2]
  exact ⟨rfl, rfl, rfl⟩
end
end
end
section
section
open PySem.Sre PySem.Sre.M
theorem exec_at {m : M} (h : ops[m.code.getD m.pc 0]? = some .AT) (hw : m.code.getD (m.pc + 1) 0 = 1) :
    m.exec = if m.pos = 0 ∨ m.text.getD (m.pos - 1) 0 = 10 then { m with seen := (m.seen.add (m.word 0)).add 44, pc := m.pc + 2 }
      else { m with seen := (m.seen.add (m.word 0)).add 44 }.say false := by
  have hw0 : ops[m.word 0]? = some .AT := h
  unfold M.exec
  simp only [hw0]
  have hi : isAt { m with seen := m.seen.add (m.word 0) } (m.word 1) = .ok (m.pos == 0 || m.text.getD (m.pos - 1) 0 == 10) := by
    have : m.word 1 = 1 := hw
    rw [this]; rfl
  have hi' : isAt { m with seen := m.seen.add (m.word 0) } (word { m with seen := m.seen.add (m.word 0) } 1) = .ok (m.pos == 0 || m.text.getD (m.pos - 1) 0 == 10) := hi
  rw [hi']
  have h1 : word { m with seen := m.seen.add (m.word 0) } 1 = 1 := hw
  by_cases hc : m.pos = 0 ∨ m.text.getD (m.pos - 1) 0 = 10
  · have hb : (m.pos == 0 || m.text.getD (m.pos - 1) 0 == 10) = true := by
      rcases hc with h | h <;> simp only [h, beq_self_eq_true, Bool.true_or, Bool.or_true]
    rw [if_pos hc, hb]
    simp only [h1, if_true]
  · have hb : (m.pos == 0 || m.text.getD (m.pos - 1) 0 == 10) = false := by
      rw [not_or] at hc
      rw [beq_eq_false_iff_ne.mpr hc.1, beq_eq_false_iff_ne.mpr hc.2]; rfl
    rw [if_neg hc, hb]
    simp only [h1, Bool.false_eq_true, if_false]
abbrev b1 (text : Array Nat) (lim e : Nat) (sn : Sre.Seen) (pc pos handed : Nat) (out : Bool) (fr : List Sre.Frame) (wt : Nat) (ans : Option Bool) : M :=
  { code := c1, text, lim, start := e, lastStart := lim, mustAdvance := false, pc, pos, handed, outermost := out, marks := #[], frames := fr, weight := wt, answer := ans, seen := sn }
abbrev g0 (e : Nat) (out : Bool) : Sre.Frame := { wait := .nextStart, pc := 5, pos := e, outermost := out }
/-- the machine about to try the place e -/
abbrev try1 (text : Array Nat) (lim e : Nat) (sn : Sre.Seen) (out : Bool) : M := b1 text lim e sn 5 e e out [g0 e out] 1 none
section
variable {text : Array Nat} {lim e : Nat} {sn : Sre.Seen} {out : Bool}
theorem for1 {start : Nat} (hs : start < lim) : forSearch c1 text 0 start lim false = try1 text lim start (({} : Sre.Seen).add 14) true := by
  have h : (decide (start > lim) || decide (lim - start < 1)) = false := by
    rw [decide_eq_false (by omega), decide_eq_false (by omega)]; rfl
  show (if (decide (start > lim) || decide (lim - start < 1)) = true then _ else try1 text lim start (({} : Sre.Seen).add 14) true) = _
  rw [h]; rfl
theorem at_no (h : ¬ (e = 0 ∨ text.getD (e - 1) 0 = 10)) : (try1 text lim e sn out).step = b1 text lim e ((sn.add 6).add 44) 5 e e out [g0 e out] 1 (some false) := by
  rw [step_exec rfl rfl (show 5 < 10 by decide), exec_at (m := try1 text lim e sn out) rfl rfl]
  rw [if_neg h]; rfl
theorem at_yes (h : e = 0 ∨ text.getD (e - 1) 0 = 10) : (try1 text lim e sn out).step = b1 text lim e ((sn.add 6).add 44) 7 e e out [g0 e out] 1 none := by
  rw [step_exec rfl rfl (show 5 < 10 by decide), exec_at (m := try1 text lim e sn out) rfl rfl]
  rw [if_pos h]; rfl
theorem dot_no (h : lim ≤ e ∨ text.getD e 0 ≠ 46) : (b1 text lim e sn 7 e e out [g0 e out] 1 none).step = b1 text lim e (sn.add 16) 7 e e out [g0 e out] 1 (some false) := by
  rw [step_exec rfl rfl (show 7 < 10 by decide), exec_lit (m := b1 text lim e sn 7 e e out [g0 e out] 1 none) rfl]
  by_cases h1 : lim ≤ e
  · rw [if_pos h1]; rfl
  · rw [if_neg h1, if_neg]
    · rfl
    · exact h.resolve_left h1
theorem dot_yes (h : e < lim) (h' : text.getD e 0 = 46) : (b1 text lim e sn 7 e e out [g0 e out] 1 none).step = b1 text lim e (sn.add 16) 9 (e + 1) e out [g0 e out] 1 none := by
  rw [step_exec rfl rfl (show 7 < 10 by decide), exec_lit (m := b1 text lim e sn 7 e e out [g0 e out] 1 none) rfl]
  rw [if_neg (show ¬ e ≥ lim by omega), if_pos (show text.getD e 0 = c1.getD (7 + 1) 0 from h')]
  rfl
theorem next_ {pc : Nat} (h : e < lim) : (b1 text lim e sn pc e e out [g0 e out] 1 (some false)).step = try1 text lim (e + 1) sn false := by
  show (if e < lim then try1 text lim (e + 1) sn false else _) = _
  rw [if_pos h]
theorem last_ {pc : Nat} (h : ¬ e < lim) : (b1 text lim e sn pc e e out [g0 e out] 1 (some false)).step = b1 text lim e sn 5 e e out [] 0 (some false) := by
  show (if e < lim then _ else b1 text lim e sn 5 e e out [] 0 (some false)) = _
  rw [if_neg h]
theorem over_ {pc k : Nat} : (b1 text lim e sn pc k k out [] 0 (some false)).step = { b1 text lim e sn pc k k out [] 0 (some false) with outcome := some .failed } := rfl
theorem win1 : (b1 text lim e sn 9 (e + 1) e out [g0 e out] 1 none).step = b1 text lim e (sn.add 1) 9 (e + 1) (e + 1) out [g0 e out] 1 (some true) := by cases out <;> rfl
theorem win2 : (b1 text lim e sn 9 (e + 1) (e + 1) out [g0 e out] 1 (some true)).step = b1 text lim e sn 5 e (e + 1) out [] 0 (some true) := rfl
theorem win3 : (b1 text lim e sn 5 e (e + 1) out [] 0 (some true)).step = { b1 text lim e sn 5 e (e + 1) out [] 0 (some true) with outcome := some .matched } := rfl
/-- the place is none for the pattern -/
def Off (text : Array Nat) (lim i : Nat) : Prop := ¬ (i = 0 ∨ text.getD (i - 1) 0 = 10) ∨ lim ≤ i ∨ text.getD i 0 ≠ 46
theorem off_false (h : Off text lim e) : ∃ n, n ≤ 2 ∧ ∃ s' pc, runFor n (try1 text lim e sn out) = b1 text lim e s' pc e e out [g0 e out] 1 (some false) := by
  by_cases h1 : e = 0 ∨ text.getD (e - 1) 0 = 10
  · have h2 : lim ≤ e ∨ text.getD e 0 ≠ 46 := h.resolve_left (fun x => x h1)
    exact ⟨2, Nat.le_refl _, _, _, reach rfl (at_yes h1) (reach rfl (dot_no h2) rfl)⟩
  · exact ⟨1, by decide, _, _, reach rfl (at_no h1) rfl⟩
theorem skip1 : ∀ (k e : Nat) (sn : Sre.Seen) (out : Bool), e + k ≤ lim → (∀ i, e ≤ i → i < e + k → Off text lim i) → ∃ n, n ≤ 3 * k ∧ ∃ s' o', runFor n (try1 text lim e sn out) = try1 text lim (e + k) s' o'
  | 0, e, sn, out, _, _ => ⟨0, Nat.le_refl _, sn, out, rfl⟩
  | k + 1, e, sn, out, hk, ho => by
    obtain ⟨n, hn, s', pc, h⟩ := off_false (sn := sn) (out := out) (ho e (Nat.le_refl _) (by omega))
    obtain ⟨n2, hn2, s2, o2, h2⟩ := skip1 k (e + 1) s' false (by omega) fun i h1 h2 => ho i (by omega) (by omega)
    refine ⟨n + (1 + n2), by omega, s2, o2, ?_⟩
    rw [runFor_add, h, runFor_add, show runFor 1 (b1 text lim e s' pc e e out [g0 e out] 1 (some false)) = try1 text lim (e + 1) s' false from reach rfl (next_ (by omega)) rfl, h2]
    rw [show e + 1 + k = e + (k + 1) by omega]
theorem search_dot {start : Nat} (hl : lim ≤ 1000) (hs : start ≤ e) (he : e < lim) (ho : ∀ i, start ≤ i → i < e → Off text lim i) (h1 : e = 0 ∨ text.getD (e - 1) 0 = 10) (h2 : text.getD e 0 = 46) : Search c1 text start lim false (some (e, e + 1)) := by
  obtain ⟨n, hn, s', o', h⟩ := skip1 (text := text) (lim := lim) (e - start) start (({} : Sre.Seen).add 14) true (by omega) fun i a b => ho i a (by omega)
  rw [show start + (e - start) = e by omega] at h
  have hw : runFor 5 (try1 text lim e s' o') = { b1 text lim e ((((s'.add 6).add 44).add 16).add 1) 5 e (e + 1) o' [] 0 (some true) with outcome := some .matched } :=
    reach rfl (at_yes h1) (reach rfl (dot_yes he h2) (reach rfl win1 (reach rfl win2 (reach rfl win3 rfl))))
  refine ⟨n + 5, by omega, ?_⟩
  dsimp only
  rw [for1 (by omega), runFor_add, h, hw]
  exact ⟨rfl, rfl, rfl⟩
theorem search_none {start : Nat} (hl : lim ≤ 1000) (hs : start < lim) (ho : ∀ i, start ≤ i → i ≤ lim → Off text lim i) : Search c1 text start lim false none := by
  obtain ⟨n, hn, s', o', h⟩ := skip1 (text := text) (lim := lim) (lim - start) start (({} : Sre.Seen).add 14) true (by omega) fun i a b => ho i a (by omega)
  rw [show start + (lim - start) = lim by omega] at h
  obtain ⟨n2, hn2, s2, pc, h2⟩ := off_false (sn := s') (out := o') (ho lim (by omega) (Nat.le_refl _))
  have hw : runFor 2 (b1 text lim lim s2 pc lim lim o' [g0 lim o'] 1 (some false)) = { b1 text lim lim s2 5 lim lim o' [] 0 (some false) with outcome := some .failed } :=
    reach rfl (last_ (Nat.lt_irrefl _)) (reach rfl over_ rfl)
  refine ⟨n + (n2 + 2), by omega, ?_⟩
  dsimp only
  rw [for1 hs, runFor_add, h, runFor_add, h2, hw]
end
end
end
section
section
open PySem.Sre PySem.Sre.M PySem.Builtin.Re
variable {prog : Program} {w : World} {A : Around} {E : Value → Shared → Prop} {s : Shared}
theorem wp_drive : ∀ (turns n : Nat) (m : M) (Q : M → Shared → Prop), n < 4 * turns → (runFor n m).outcome.isSome = true → Q (runFor n m) s → wpAny (model prog w) A (reDrive turns m) Q E s
  | 0, n, m, Q, hn, ho, hq => absurd hn (by omega)
  | turns + 1, n, m, Q, hn, ho, hq => by
    unfold reDrive
    show wpAny (model prog w) A (if (runFor 4 m).outcome.isSome = true then pure (runFor 4 m) else do rule "sre.turn"; reDrive turns (runFor 4 m)) Q E s
    by_cases h4 : (runFor 4 m).outcome.isSome = true
    · have e : runFor n m = runFor 4 m := by
        by_cases hle : n ≤ 4
        · obtain ⟨d, hd⟩ : ∃ d, 4 = n + d := ⟨4 - n, by omega⟩
          rw [hd, runFor_add, runFor_done ho]
        · obtain ⟨d, hd⟩ : ∃ d, n = 4 + d := ⟨n - 4, by omega⟩
          rw [hd, runFor_add, runFor_done h4]
      rw [if_pos h4]
      rw [e] at hq
      exact wpAny_pure hq
    · rw [if_neg h4]
      have hgt : 4 < n := by
        apply Nat.lt_of_not_le
        intro hle
        obtain ⟨d, hd⟩ : ∃ d, 4 = n + d := ⟨4 - n, by omega⟩
        exact h4 (by rw [hd, runFor_add, runFor_done ho]; exact ho)
      obtain ⟨d, hd⟩ : ∃ d, n = 4 + d := ⟨n - 4, by omega⟩
      rw [hd, runFor_add] at ho hq
      exact wpAny_bind (wpAny_rule (wp_drive turns d _ Q (by omega) ho hq))
theorem wp_rules (c : Nat → Bool) (f : Nat → String) (l : List Nat) {Q : PUnit → Shared → Prop} (h : Q ⟨⟩ s) :
    wpAny (model prog w) A (forIn l PUnit.unit fun i (_ : PUnit) => if c i = true then (do rule (f i); pure (ForInStep.yield PUnit.unit)) else pure (ForInStep.yield PUnit.unit)) Q E s := by
  refine wpAny_forIn_list _ (fun _ _ s' => s' = s) _ (fun x rest b s' hs => ?_) (fun b s' hs => by subst hs; exact h) l _ rfl
  subst hs
  by_cases hc : c x = true
  · rw [if_pos hc]; exact wpAny_bind (wpAny_rule (wpAny_pure rfl))
  · rw [if_neg hc]; exact wpAny_pure rfl
theorem wp_toEnd {m : M} {n : Nat} {Q : Option M → Shared → Prop} (hn : n ≤ 2 ^ 32)
    (h : ((runFor n m).outcome = some .matched ∧ Q (some (runFor n m)) s) ∨ ((runFor n m).outcome = some .failed ∧ Q none s)) : wpAny (model prog w) A (reRunToEnd m) Q E s := by
  unfold reRunToEnd
  have ho : (runFor n m).outcome.isSome = true := by rcases h with h | h <;> rw [h.1] <;> rfl
  refine wpAny_bind (wp_drive (2 ^ 64) n m _ (by omega) ho ?_)
  refine wpAny_bind (wp_rules (fun i => (runFor n m).seen.has i) (fun i => names.getD i "") _ ?_)
  rcases h with h | h
  · rw [h.1]; exact wpAny_pure h.2
  · rw [h.1]; exact wpAny_pure h.2
theorem wp_next {t : ReTarget} {start : Nat} {must : Bool} {r : Option (Nat × Nat)} {Q : Option M → Shared → Prop} (hg : t.groups = 0) (S : Search t.code t.text start t.lim must r)
    (h : match r with | some (a, b) => ∀ m : M, m.start = a → m.handed = b → Q (some m) s | none => Q none s) : wpAny (model prog w) A (reNextFound t start must) Q E s := by
  obtain ⟨n, hn, k⟩ := S
  unfold reNextFound
  rw [hg]
  refine wp_toEnd hn ?_
  match r, k, h with
  | some (a, b), k, h => exact .inl ⟨k.1, h _ k.2.1 k.2.2⟩
  | none, k, h => exact .inr ⟨k, h⟩
end
end
section
section
open PySem.Sre PySem.Sre.M PySem.Builtin.Re
/-- a compiled pattern lies in the heap -/
structure Pat (h : Heap) (P C : Addr) (code : Array Nat) : Prop where
  pat : ∃ (pt : Str) (tp tf t1 t2 : Tok) (fl : Int) (d : Option Addr) (sl : Array (Option Value)), h.get? P = some { cls := .type "re.Pattern", dict := d, data := .fields #[.str pt tp, .int fl tf, .int 0 t1, .none, .none, .ref C, .int 0 t2], slots := sl }
  code : ∃ (o : Obj) (its : Array Value) (n : Nat), h.get? C = some o ∧ o.data = .seq its n ∧ (its.map reRawOf).map (·.toNat) = code
theorem Pat.keeps {h h' : Heap} {P C : Addr} {code : Array Nat} (x : Pat h P C code) (k : ∀ b o, h.get? b = some o → h'.get? b = some o) : Pat h' P C code := by
  obtain ⟨⟨pt, tp, tf, t1, t2, fl, d, sl, hp⟩, ⟨o, its, n, ho, hd, hc⟩⟩ := x
  exact ⟨⟨pt, tp, tf, t1, t2, fl, d, sl, k _ _ hp⟩, ⟨o, its, n, k _ _ ho, hd, hc⟩⟩
section
variable {prog : Program} {w : World} {A : Around} {E : Value → Shared → Prop} {s : Shared} {P C : Addr} {code : Array Nat} {x r : Str} {tx tr : Tok}
abbrev targ (P : Addr) (x : Str) (tx : Tok) (code : Array Nat) : ReTarget := { pattern := .ref P, string := .str x tx, code, text := x.cps, kind := 0, groups := 0, pos := 0, lim := x.cps.size }
theorem wp_target {Q : ReTarget → Shared → Prop} (hp : Pat s.heap P C code) (h : Q (targ P x tx code) s) : wpAny (model prog w) A (reWholeTarget (.ref P) (.str x tx)) Q E s := by
  obtain ⟨⟨pt, tp, tf, t1, t2, fl, d, sl, hP⟩, ⟨o, its, n, ho, hd, hc⟩⟩ := hp
  unfold reWholeTarget
  refine wpAny_bind (wpAny_fieldsOf hP rfl ?_)
  refine wpAny_bind (wpAny_of_eq (a := (x.cps, 0)) rfl ?_)
  refine wpAny_bind (wpAny_of_eq (a := ()) rfl ?_)
  show wpAny (model prog w) A (do
    let its ← reRawItems (.ref C)
    pure { pattern := .ref P, string := .str x tx, code := its.map (·.toNat), text := x.cps, kind := 0, groups := 0, pos := 0, lim := x.cps.size }) Q E s
  unfold reRawItems
  subst hc
  exact wpAny_bind (wpAny_bind (wpAny_seqItems ho hd (wpAny_pure (wpAny_pure h))))
theorem wp_slice {text : Array Nat} {a b : Nat} {Q : Value → Shared → Prop} (hz : text.size ≤ 1000) (h : Q (.str ⟨text.extract a b⟩ s.toks) { s with toks := s.toks + 1 }) : wpAny (model prog w) A (reSlice text 0 a b) Q E s := by
  unfold reSlice
  refine wpAny_mkStr h ?_
  show (text.extract a b).size ≤ sizeLine
  rw [Array.size_extract, sizeLine_eq]
  omega
theorem push_at {D : Addr} {its : Array Value} {n : Nat} {v : Value} {Q : Unit → Shared → Prop} (ho : s.heap.get? D = some { cls := .type "list", data := .seq its n })
    (hz : its.size ≤ 1000) (h : ∀ h', Heap.SameBut D s.heap h' → h'.get? D = some { cls := .type "list", data := .seq (its.push v) (n + 1) } → Q () { s with heap := h' }) :
    wpAny (model prog w) A (updateSeq D (·.push v)) Q E s := by
  refine wpAny_updateSeq ho rfl (h _ (Heap.SameBut.update ..) ?_) (by rw [sizeLine_eq]; omega) (by rw [sizeLine_eq, Array.size_push]; omega)
  rw [Heap.get?_update_self _ ho (by rw [mapSeq_push]; rfl), mapSeq_push]
end
/-- what the substitution lays down from the place p on -/
inductive Subs (code text : Array Nat) (r : Str) : Nat → List Str → Prop
  | stop {p : Nat} (h : Search code text p text.size false none) : Subs code text r p (if p < text.size then [⟨text.extract p text.size⟩] else [])
  | hit {p a b : Nat} {rest : List Str} (h : Search code text p text.size false (some (a, b))) (hab : a < b) (t : Subs code text r b rest) : Subs code text r p ((if p < a then [⟨text.extract p a⟩] else []) ++ r :: rest)
end
end
section
section
open PySem.Sre PySem.Sre.M PySem.Builtin.Re
theorem strsAre_push {l : List Value} {ys : List Str} (h : StrsAre l ys) (y : Str) (t : Tok) : StrsAre (l ++ [.str y t]) (ys ++ [y]) := by
  induction h with
  | nil => exact .cons y t .nil
  | cons z t' _ ih => exact .cons z t' ih
theorem strsAre_pushA {its : Array Value} {ys : List Str} (h : StrsAre its.toList ys) (y : Str) (t : Tok) : StrsAre (its.push (.str y t)).toList (ys ++ [y]) := by
  rw [Array.toList_push]; exact strsAre_push h y t
theorem Pat.same {h h' : Heap} {P C D : Addr} {code : Array Nat} (x : Pat h P C code) (hP : P ≠ D) (hC : C ≠ D) (k : Heap.SameBut D h h') : Pat h' P C code := by
  obtain ⟨⟨pt, tp, tf, t1, t2, fl, d, sl, hp⟩, ⟨o, its, n, ho, hd, hc⟩⟩ := x
  exact ⟨⟨pt, tp, tf, t1, t2, fl, d, sl, (k.2 P hP).trans hp⟩, ⟨o, its, n, (k.2 C hC).trans ho, hd, hc⟩⟩
theorem same_trans {D : Addr} {a b c : Heap} (h : Heap.SameBut D a b) (k : Heap.SameBut D b c) : Heap.SameBut D a c := ⟨by first | exact k.1.trans h.1 | exact h.1.trans k.1, fun b hb => (k.2 b hb).trans (h.2 b hb)⟩
abbrev subArgs (P : Addr) (x r : Str) (tx tr : Tok) (k : Int) (p : Nat) (D : Addr) : Args := ⟨[.ref P, .str x tx, .str r tr, rawInt 0, rawInt 0, rawInt k, rawInt p, rawInt p, .bool false, .ref D, .bool false], []⟩
abbrev listObj (its : Array Value) (n : Nat) : Obj := { cls := .type "list", data := .seq its n }
theorem empty_cut (x : Str) : (⟨x.cps.extract 0 0⟩ : Str) = Str.empty := by
  have : x.cps.extract 0 0 = #[] := by simp
  rw [this]; rfl
theorem sub_join {prog : Program} {w : World} {A : Around} {E : Value → Shared → Prop} {s : Shared} {β : Type} {j : Value → Sem β} {Q : β → Shared → Prop} {D : Addr} {its : Array Value} {n : Nat} {ys : List Str} {x : Str} {tk : Tok}
    (hD : s.heap.get? D = some (listObj its n)) (hi : StrsAre its.toList ys) (hw : (ys.map (·.length)).sum + ys.length ≤ 1048576)
    (hj : ∀ t' k', wpAny (model prog w) A (j (.str (Txt.join Str.empty ys) t')) Q E { s with toks := k' }) :
    wpAny (model prog w) A (if its.isEmpty = true then (pure (.str ⟨x.cps.extract 0 0⟩ tk) >>= j) else (call (.builtin "str.join") [.str ⟨x.cps.extract 0 0⟩ tk, .ref D] >>= j)) Q E s := by
  rw [empty_cut]
  refine wpAny_ite_split (fun he => ?_) (fun he => ?_)
  · refine wpAny_bind (wpAny_pure ?_)
    have e : its.toList = [] := by simpa using he
    rw [e] at hi
    cases hi
    exact hj tk s.toks
  · exact wpAny_bind (join_listW ⟨_, hD, rfl, n, rfl⟩ hi (by decide) hw fun t' k => hj t' k)
theorem sub_loopAt {P C D : Addr} {code : Array Nat} {x r : Str} {tx tr : Tok} {hb : Heap} (hz : x.cps.size ≤ 1000) (hPD : P ≠ D) (hCD : C ≠ D) {p : Nat} {rest : List Str} (S : Subs code x.cps r p rest) :
    ∀ (its : Array Value) (n : Nat) (ys : List Str) (k : Int), StrsAre its.toList ys → its.size + rest.length ≤ 900 → ((ys ++ rest).map (·.length)).sum + (ys ++ rest).length ≤ 1048576 →
    Meets (Builtin.«re.Pattern.sub.loop» (subArgs P x r tx tr k p D))
      (fun A R s => Pat s.heap P C code ∧ s.heap.get? D = some (listObj its n) ∧ Heap.SameBut D hb s.heap ∧
        (∀ h' t k', Heap.SameBut D hb h' → (∃ its' n', h'.get? D = some (listObj its' n')) → R (.ok (.ret (.str (Txt.join Str.empty (ys ++ rest)) t))) { s with heap := h', toks := k' })) := by
  induction S with
  | @stop p hs =>
    intro its n ys k hi hsz hw prog w A R s ⟨hP, hD, hsb, h⟩
    refine wpAny_bind (wp_target hP ?_)
    refine wpAny_ite_split (fun _ => ?_) (fun h0 => absurd rfl h0)
    refine wpAny_bind (wpAny_of_eq (a := ()) rfl ?_)
    refine wpAny_bind (wpAny_ite_split (fun h0 => Bool.noConfusion h0) (fun _ => wp_next (start := p) rfl hs ?_))
    by_cases hp : p < x.cps.size
    · rw [if_pos hp] at h hw hsz
      refine wpAny_ite_split (fun _ => ?_) (fun h0 => absurd hp h0)
      refine wpAny_bind (wp_slice hz ?_)
      refine wpAny_bind (push_at (s := { s with toks := s.toks + 1 }) hD (by omega) fun h' hs' hD' => ?_)
      refine wpAny_bind (wp_slice hz ?_)
      refine wpAny_bind (wpAny_seqItems hD' rfl ?_)
      refine sub_join (x := x) hD' (strsAre_pushA hi _ _) hw (fun t' k' => wpAny_pure ?_)
      exact h h' t' k' (same_trans hsb hs') ⟨_, _, hD'⟩
    · rw [if_neg hp, List.append_nil] at h hw
      refine wpAny_ite_split (fun h0 => absurd h0 hp) (fun _ => ?_)
      refine wpAny_bind (wp_slice hz ?_)
      refine wpAny_bind (wpAny_seqItems hD rfl ?_)
      refine sub_join (x := x) hD hi hw (fun t' k' => wpAny_pure ?_)
      exact h s.heap t' k' hsb ⟨_, _, hD⟩
  | @hit p a b rest hs hab t ih =>
    intro its n ys k hi hsz hw prog w A R s ⟨hP, hD, hsb, h⟩
    refine wpAny_bind (wp_target hP ?_)
    refine wpAny_ite_split (fun _ => ?_) (fun h0 => absurd rfl h0)
    refine wpAny_bind (wpAny_of_eq (a := ()) rfl ?_)
    refine wpAny_bind (wpAny_ite_split (fun h0 => Bool.noConfusion h0) (fun _ => wp_next (start := p) rfl hs ?_))
    intro m ha hb'
    have e : (b == a) = false := beq_false_of_ne (by omega)
    by_cases hp : p < a
    · rw [if_pos hp] at h hw hsz
      refine wpAny_ite_split (fun _ => ?_) (fun h0 => absurd (by rw [ha]; exact hp) h0)
      rw [ha, hb', e]
      refine wpAny_bind (wp_slice hz ?_)
      refine wpAny_bind (push_at (s := { s with toks := s.toks + 1 }) hD (by omega) fun h1 hs1 hD1 => ?_)
      refine wpAny_ite_split (fun _ => ?_) (fun h0 => absurd rfl h0)
      refine wpAny_bind (wpAny_pure ?_)
      refine wpAny_ite_split (fun _ => ?_) (fun h0 => absurd rfl h0)
      refine wpAny_bind (push_at (s := { s with heap := h1, toks := s.toks + 1 }) hD1 (by rw [Array.size_push]; simp only [List.length_append, List.length_cons, List.length_nil] at hsz; omega) fun h2 hs2 hD2 => ?_)
      refine wpAny_pure ⟨plainId_quiet plain_pat_loop _, codeAny_builtin entry_pat_loop (by
        rw [Around.under_plainId plain_pat_loop _]
        refine ih _ _ (ys ++ [⟨x.cps.extract p a⟩] ++ [r]) (k + 1) (strsAre_pushA (strsAre_pushA hi _ _) _ _) ?_ ?_ prog w A R _ ⟨(hP.same hPD hCD hs1).same hPD hCD hs2, hD2, same_trans (same_trans hsb hs1) hs2, ?_⟩
        · rw [Array.size_push, Array.size_push]; simp only [List.length_append, List.length_cons, List.length_nil] at hsz; omega
        · simpa only [List.append_assoc, List.cons_append, List.nil_append] using hw
        · simpa only [List.append_assoc, List.cons_append, List.nil_append] using h)⟩
    · rw [if_neg hp, List.nil_append] at h hw hsz
      refine wpAny_ite_split (fun h0 => absurd (by rw [ha] at h0; exact h0) hp) (fun _ => ?_)
      rw [hb', ha, e]
      refine wpAny_ite_split (fun _ => ?_) (fun h0 => absurd rfl h0)
      refine wpAny_bind (wpAny_pure ?_)
      refine wpAny_ite_split (fun _ => ?_) (fun h0 => absurd rfl h0)
      refine wpAny_bind (push_at hD (by omega) fun h2 hs2 hD2 => ?_)
      refine wpAny_pure ⟨plainId_quiet plain_pat_loop _, codeAny_builtin entry_pat_loop (by
        rw [Around.under_plainId plain_pat_loop _]
        refine ih _ _ (ys ++ [r]) (k + 1) (strsAre_pushA hi _ _) ?_ ?_ prog w A R _ ⟨hP.same hPD hCD hs2, hD2, same_trans hsb hs2, ?_⟩
        · rw [Array.size_push]; simp only [List.length_cons] at hsz; omega
        · simpa only [List.append_assoc, List.cons_append, List.nil_append] using hw
        · simpa only [List.append_assoc, List.cons_append, List.nil_append] using h)⟩
theorem no_call : typeLookup (.type "str") (Str.ofString "__call__") = pure none := by rw [typeLookup_type, builtinLookup_eq_fast]; kernel_rfl
theorem sub_at {P C : Addr} {code : Array Nat} {x r : Str} {tx tr : Tok} (hz : x.cps.size ≤ 1000) (hr : r.cps.contains 92 = false) {ys : List Str} (S : Subs code x.cps r 0 ys) (hn : ys.length ≤ 900) (hw : (ys.map (·.length)).sum + ys.length ≤ 1048576) :
    Meets (Builtin.«re.Pattern.sub» ⟨[.ref P, .str r tr, .str x tx], []⟩)
      (fun A R s => Pat s.heap P C code ∧
        (∀ h' t k', Heap.SameBut s.heap.objs.size (s.heap.push (listObj #[] 0)) h' → (∃ its' n', h'.get? s.heap.objs.size = some (listObj its' n')) → R (.ok (.ret (.str (Txt.join Str.empty ys) t))) { s with heap := h', toks := k' })) := by
  intro prog w A R s ⟨hP, h⟩
  have hP' := hP
  obtain ⟨⟨pt, tp, tf, t1, t2, fl, d, sl, hp⟩, ⟨o, its, n, ho, hd, hc⟩⟩ := hP'
  have hPs : P ≠ s.heap.objs.size := Nat.ne_of_lt (Heap.lt_size hp)
  have hCs : C ≠ s.heap.objs.size := Nat.ne_of_lt (Heap.lt_size ho)
  unfold Builtin.«re.Pattern.sub» reSubstitute
  refine wpAny_bind (wpAny_of_eq (a := [some (.str r tr), some (.str x tx), none]) rfl ?_)
  refine wpAny_bind (wpAny_pure ?_)
  refine wpAny_bind (wpAny_specialOf_val (T := "str") (r := none) rfl no_call ?_)
  refine wpAny_ite_split (fun h0 => Bool.noConfusion h0) (fun _ => ?_)
  refine wpAny_bind (wpAny_of_eq (a := some r) rfl ?_)
  refine wpAny_bind (wpAny_pure ?_)
  refine wpAny_ite_split (fun h0 => Bool.noConfusion h0) (fun _ => ?_)
  refine wpAny_ite_split (fun _ => ?_) (fun h0 => absurd (by rw [hr]; rfl) h0)
  refine wpAny_bind (wpAny_pure ?_)
  refine wpAny_bind (wpAny_holding (wp_target hP ?_))
  refine wpAny_ite_split (fun h0 => Bool.noConfusion h0) (fun _ => ?_)
  refine wpAny_bind (wpAny_newList ?_)
  refine wpAny_pure ⟨plainId_quiet plain_pat_loop _, codeAny_builtin entry_pat_loop (by
    rw [Around.under_plainId plain_pat_loop _]
    refine sub_loopAt (hb := s.heap.push (listObj #[] 0)) hz hPs hCs S #[] 0 [] 0 .nil (by simpa using hn) (by simpa using hw) prog w A R _ ⟨hP.keeps fun b o e => Heap.get?_push_of_some _ e, Heap.get?_push_size _ rfl, ⟨rfl, fun _ _ => rfl⟩, h⟩)⟩
end
end
section
section
open PySem.Sre PySem.Sre.M PySem.Builtin.Re
theorem gl {a b : Array Nat} {i : Nat} (h : i < a.size) : (a ++ b).getD i 0 = a.getD i 0 := by
  simp [Array.getD_eq_getD_getElem?, Array.getElem?_append, h]
theorem gr {a b : Array Nat} {i : Nat} (h : a.size ≤ i) : (a ++ b).getD i 0 = b.getD (i - a.size) 0 := by
  simp [Array.getD_eq_getD_getElem?, Array.getElem?_append, Nat.not_lt.mpr h]
theorem g_out {a : Array Nat} {i : Nat} (h : a.size ≤ i) : a.getD i 0 = 0 := by
  simp [Array.getD_eq_getD_getElem?, h]
def clean (a : Array Nat) : Prop := ∀ i, i < a.size → a.getD i 0 ≠ 10 ∧ a.getD i 0 ≠ 13
theorem cut3 {a b c : Array Nat} : (a ++ (b ++ c)).extract a.size (a.size + b.size) = b := by
  apply Array.ext'
  simp
theorem cutL {a b : Array Nat} : (a ++ b).extract a.size (a ++ b).size = b := by
  apply Array.ext'
  simp
theorem hit2 {X B e Y : Array Nat} (hB : clean B) (he : e = #[10] ∨ e = #[13] ∨ e = #[13, 10]) (hY : Y.getD 0 0 ≠ 10) :
    Search c2 (X ++ (B ++ (e ++ Y))) X.size (X ++ (B ++ (e ++ Y))).size false (some (X.size + B.size, X.size + B.size + e.size)) := by
  have hz : (X ++ (B ++ (e ++ Y))).size = X.size + (B.size + (e.size + Y.size)) := by simp only [Array.size_append]
  have hno : ∀ i, X.size ≤ i → i < X.size + B.size → (X ++ (B ++ (e ++ Y))).getD i 0 ≠ 10 ∧ (X ++ (B ++ (e ++ Y))).getD i 0 ≠ 13 := by
    intro i h1 h2
    rw [gr h1, gl (by omega)]
    exact hB _ (by omega)
  have hat : ∀ k, k < e.size → (X ++ (B ++ (e ++ Y))).getD (X.size + B.size + k) 0 = e.getD k 0 := by
    intro k hk
    rw [gr (by omega), gr (by omega), gl (by omega), show X.size + B.size + k - X.size - B.size = k by omega]
  rcases he with he | he | he
  · have es : e.size = 1 := by rw [he]; rfl
    have h0 := hat 0 (by omega)
    rw [es]
    exact search_lf (by omega) (by omega) hno (by rw [← Nat.add_zero (X.size + B.size), h0, he]; rfl)
  · have es : e.size = 1 := by rw [he]; rfl
    have h0 := hat 0 (by omega)
    rw [es]
    refine search_cr (by omega) (by omega) hno (by rw [← Nat.add_zero (X.size + B.size), h0, he]; rfl) (.inr ?_)
    rw [gr (by omega), gr (by omega), gr (by omega), show X.size + B.size + 1 - X.size - B.size - e.size = 0 by omega]
    exact hY
  · have es : e.size = 2 := by rw [he]; rfl
    have h0 := hat 0 (by omega)
    have h1 := hat 1 (by omega)
    rw [es]
    exact search_crlf (by omega) (by omega) hno (by rw [← Nat.add_zero (X.size + B.size), h0, he]; rfl) (by rw [h1, he]; rfl)
theorem subs2 {A e B : Array Nat} (hA : clean A) (hB : clean B) (nA : 0 < A.size) (nB : 0 < B.size) (he : e = #[10] ∨ e = #[13] ∨ e = #[13, 10]) (r : Str) :
    Subs c2 (A ++ (e ++ (B ++ e))) r 0 [⟨A⟩, r, ⟨B⟩, r] := by
  have es : 0 < e.size := by rcases he with he | he | he <;> rw [he] <;> decide
  have e1 : A ++ (e ++ (B ++ e)) = #[] ++ (A ++ (e ++ (B ++ e))) := by simp
  have e2 : A ++ (e ++ (B ++ e)) = (A ++ e) ++ (B ++ (e ++ #[])) := by simp only [Array.append_assoc, Array.append_empty]
  have s1 := hit2 (X := #[]) (Y := B ++ e) hA he (by rw [gl nB]; exact (hB 0 nB).1)
  rw [← e1, show (#[] : Array Nat).size = 0 from rfl, Nat.zero_add] at s1
  have s2 := hit2 (X := A ++ e) (Y := #[]) hB he (by decide)
  rw [← e2, Array.size_append] at s2
  have s3 : Search c2 (A ++ (e ++ (B ++ e))) (A.size + e.size + B.size + e.size) (A ++ (e ++ (B ++ e))).size false none := search_end (by simp only [Array.size_append]; omega)
  have t3 := Subs.stop (r := r) s3
  rw [if_neg (by simp only [Array.size_append]; omega)] at t3
  have t2 := Subs.hit s2 (by omega) t3
  rw [if_pos (by omega)] at t2
  have c1' : (A ++ (e ++ (B ++ e))).extract (A.size + e.size) (A.size + e.size + B.size) = B := by
    have h := cut3 (a := A ++ e) (b := B) (c := e)
    rw [Array.size_append, Array.append_assoc] at h
    exact h
  rw [c1'] at t2
  have t1 := Subs.hit s1 (by omega) t2
  rw [if_pos nA] at t1
  have c0 : (A ++ (e ++ (B ++ e))).extract 0 A.size = A := by
    have h := cut3 (a := #[]) (b := A) (c := e ++ (B ++ e))
    rw [← e1, show (#[] : Array Nat).size = 0 from rfl, Nat.zero_add] at h
    exact h
  rw [c0] at t1
  exact t1
abbrev crlfA : Array Nat := #[13, 10]
theorem off1 {A B : Array Nat} (hA : clean A) (nA : 0 < A.size) (h0 : A.getD 0 0 ≠ 46) {lim i : Nat} (hi : i < A.size + 2) : Off (A ++ (crlfA ++ B)) lim i := by
  by_cases hz : i = 0
  · subst hz
    exact .inr (.inr (by rw [gl nA]; exact h0))
  · refine .inl (not_or.mpr ⟨hz, ?_⟩)
    by_cases hl : i - 1 < A.size
    · rw [gl hl]; exact (hA _ hl).1
    · rw [gr (by omega), show i - 1 - A.size = 0 by omega, gl (by decide)]
      decide
theorem off2 {X B : Array Nat} (hB : clean B) {i : Nat} (hi : X.size < i) : Off (X ++ (B ++ crlfA)) (X ++ (B ++ crlfA)).size i := by
  have hz : (X ++ (B ++ crlfA)).size = X.size + (B.size + 2) := by simp only [Array.size_append]; rfl
  by_cases hl : (X ++ (B ++ crlfA)).size ≤ i
  · exact .inr (.inl hl)
  · refine .inl (not_or.mpr ⟨by omega, ?_⟩)
    rw [gr (by omega)]
    by_cases hb : i - 1 - X.size < B.size
    · rw [gl hb]; exact (hB _ hb).1
    · rw [gr (by omega), show i - 1 - X.size - B.size = 0 by omega]
      decide
theorem subs1_no {A B : Array Nat} (hA : clean A) (hB : clean B) (nA : 0 < A.size) (h0 : A.getD 0 0 ≠ 46) (nB : 0 < B.size) (hd : B.getD 0 0 ≠ 46) (hz : (A ++ (crlfA ++ (B ++ crlfA))).size ≤ 1000) (r : Str) :
    Subs c1 (A ++ (crlfA ++ (B ++ crlfA))) r 0 [⟨A ++ (crlfA ++ (B ++ crlfA))⟩] := by
  have e2 : A ++ (crlfA ++ (B ++ crlfA)) = (A ++ crlfA) ++ (B ++ crlfA) := by simp only [Array.append_assoc]
  have hs : (A ++ (crlfA ++ (B ++ crlfA))).size = A.size + (2 + (B.size + 2)) := by simp only [Array.size_append]; rfl
  have xs : (A ++ crlfA).size = A.size + 2 := by simp only [Array.size_append]; rfl
  have S : Search c1 (A ++ (crlfA ++ (B ++ crlfA))) 0 (A ++ (crlfA ++ (B ++ crlfA))).size false none := search_none hz (by omega) (by
    intro i _ h2
    by_cases h1 : i < A.size + 2
    · exact off1 hA nA h0 h1
    · by_cases h3 : i = A.size + 2
      · refine .inr (.inr ?_)
        rw [e2, gr (by omega), gl (by omega), show i - (A ++ crlfA).size = 0 by omega]
        exact hd
      · rw [e2]; exact off2 hB (by omega))
  have t := Subs.stop (r := r) S
  rw [if_pos (by omega)] at t
  rwa [Array.extract_size] at t
theorem subs1_dot {A B : Array Nat} (hA : clean A) (hB : clean (#[46] ++ B)) (nA : 0 < A.size) (h0 : A.getD 0 0 ≠ 46) (hz : (A ++ (crlfA ++ ((#[46] ++ B) ++ crlfA))).size ≤ 1000) (r : Str) :
    Subs c1 (A ++ (crlfA ++ ((#[46] ++ B) ++ crlfA))) r 0 [⟨A ++ crlfA⟩, r, ⟨B ++ crlfA⟩] := by
  have e2 : A ++ (crlfA ++ ((#[46] ++ B) ++ crlfA)) = (A ++ crlfA) ++ ((#[46] ++ B) ++ crlfA) := by simp only [Array.append_assoc]
  have e3 : A ++ (crlfA ++ ((#[46] ++ B) ++ crlfA)) = (A ++ crlfA ++ #[46]) ++ (B ++ crlfA) := by simp only [Array.append_assoc]
  have hs : (A ++ (crlfA ++ ((#[46] ++ B) ++ crlfA))).size = A.size + (2 + ((1 + B.size) + 2)) := by simp only [Array.size_append]; rfl
  have xs : (A ++ crlfA).size = A.size + 2 := by simp only [Array.size_append]; rfl
  have ys : (A ++ crlfA ++ #[46]).size = A.size + 2 + 1 := by simp only [Array.size_append]; rfl
  have S1 : Search c1 (A ++ (crlfA ++ ((#[46] ++ B) ++ crlfA))) 0 (A ++ (crlfA ++ ((#[46] ++ B) ++ crlfA))).size false (some (A.size + 2, A.size + 2 + 1)) :=
    search_dot hz (Nat.zero_le _) (by omega) (fun i _ h2 => off1 hA nA h0 h2)
      (.inr (by rw [gr (by omega), gl (by show A.size + 2 - 1 - A.size < 2; omega), show A.size + 2 - 1 - A.size = 1 by omega]; rfl))
      (by rw [e2, gr (by omega), gl (by have h46 : (#[46] : Array Nat).size = 1 := rfl; simp only [Array.size_append]; rw [h46]; have hc : crlfA.size = 2 := rfl; omega), show A.size + 2 - (A ++ crlfA).size = 0 by omega, gl (by decide)]; rfl)
  have S2 : Search c1 (A ++ (crlfA ++ ((#[46] ++ B) ++ crlfA))) (A.size + 2 + 1) (A ++ (crlfA ++ ((#[46] ++ B) ++ crlfA))).size false none :=
    search_none hz (by omega) (fun i h1 _ => by rw [e2]; exact off2 hB (by omega))
  have t2 := Subs.stop (r := r) S2
  rw [if_pos (by omega)] at t2
  have c2' : (A ++ (crlfA ++ ((#[46] ++ B) ++ crlfA))).extract (A.size + 2 + 1) (A ++ (crlfA ++ ((#[46] ++ B) ++ crlfA))).size = B ++ crlfA := by
    rw [e3, ← ys]; exact cutL
  rw [c2'] at t2
  have t1 := Subs.hit S1 (by omega) t2
  rw [if_pos (by omega)] at t1
  have c1' : (A ++ (crlfA ++ ((#[46] ++ B) ++ crlfA))).extract 0 (A.size + 2) = A ++ crlfA := by
    have h := cut3 (a := #[]) (b := A ++ crlfA) (c := (#[46] ++ B) ++ crlfA)
    rw [xs, show (#[] : Array Nat).size = 0 from rfl, Nat.zero_add, Array.empty_append, ← e2] at h
    exact h
  rw [c1'] at t1
  exact t1
end
end
section
section
open PySem.Sre PySem.Sre.M PySem.Builtin.Re
theorem call_sub {prog : Program} {w : World} {A : Around} {E : Value → Shared → Prop} {s : Shared} {h₀ : Heap} {L : Addr} {m : Str → Option Value} {news : List (Addr × Obj)} {Q : Value → Shared → Prop}
    {P C : Addr} {code : Array Nat} {x r : Str} {tx tr : Tok} {ys : List Str}
    (F : Fr h₀ L s.heap m) (N : News h₀ L s.heap news) (hP : Pat h₀ P C code) (hz : x.cps.size ≤ 1000) (hr : r.cps.contains 92 = false) (S : Subs code x.cps r 0 ys) (hn : ys.length ≤ 900) (hw : (ys.map (·.length)).sum + ys.length ≤ 1048576)
    (h : ∀ h' t k, Fr h₀ L h' m → News h₀ L h' news → Q (.str (Txt.join Str.empty ys) t) { s with heap := h', toks := k }) :
    wpAny (model prog w) A (call (.builtin "re.Pattern.sub") [.ref P, .str r tr, .str x tx]) Q E s := by
  have hPs := hP.keeps F.keep
  obtain ⟨pt, tp, tf, t1, t2, fl, d, sl, hp⟩ := hPs.pat
  refine call_meets slot_pat_sub (T := "re.Pattern") ⟨_, hp, rfl⟩ entry_pat_sub (args_pat_sub_3 _ _ _) (sub_at hz hr S hn hw) ⟨hPs, fun h' t k' hsb ⟨its', n', hD⟩ => ?_⟩
  have N1 := News.push F N (listObj #[] 0)
  have h1 := N1 _ (.head _)
  have F2 := (F.push (listObj #[] 0)).change hsb h1.2.1 h1.2.2
  have N2 := N1.setHead (N.apart) hsb hD
  exact h h' t k' F2 fun p hp => N2 p (.tail _ hp)
end
theorem pat1_of {w : World} {h : Heap} (X : (Mine.hd.heap_1_39 w.params).In h) : Pat h 61 60 c1 := by
  constructor
  · exact ⟨_, _, _, _, _, _, _, _, X _ _ rfl⟩
  · exact ⟨_, _, _, X _ _ rfl, rfl, by decide +kernel⟩
theorem pat2_of {w : World} {h : Heap} (X : (Mine.hd.heap_1_39 w.params).In h) : Pat h 66 65 c2 := by
  constructor
  · exact ⟨_, _, _, _, _, _, _, _, X _ _ rfl⟩
  · exact ⟨_, _, _, X _ _ rfl, rfl, by decide +kernel⟩
theorem join1 (a : Str) : Txt.join Str.empty [a] = a := by
  show Builtin.Str.glued _ _ = _
  rw [StrLaws.glued_eq_join]; rfl
theorem join3 (a b c : Str) : Txt.join Str.empty [a, b, c] = ⟨a.cps ++ (b.cps ++ c.cps)⟩ := by
  show Builtin.Str.glued _ _ = _
  rw [StrLaws.glued_eq_join]
  show (⟨a.cps ++ #[] ++ (b.cps ++ #[] ++ c.cps)⟩ : Str) = _
  simp only [Array.append_empty]
theorem join4 (a b c d : Str) : Txt.join Str.empty [a, b, c, d] = ⟨a.cps ++ (b.cps ++ (c.cps ++ d.cps))⟩ := by
  show Builtin.Str.glued _ _ = _
  rw [StrLaws.glued_eq_join]
  show (⟨a.cps ++ #[] ++ (b.cps ++ #[] ++ (c.cps ++ #[] ++ d.cps))⟩ : Str) = _
  simp only [Array.append_empty]
section
variable {prog : Program} {w : World} {A₁ : Around} {E : Value → Shared → Prop} {s : Shared} {h₀ : Heap} {L : Addr} {m : Str → Option Value} {news : List (Addr × Obj)} {Q : Value → Shared → Prop} {tr tx : Tok}
theorem m_pat1 {Q : Value × List Value → Shared → Prop} {pl : Sem Bool} (X : (Mine.hd.heap_1_39 w.params).In h₀) (F : Fr h₀ L s.heap m) (h : Q (.builtin "re.Pattern.sub", [.ref 61]) s) : wpAny (model prog w) A₁ (getMethod (.ref 61) (Str.ofString "sub") pl) Q E s :=
  getMethod_builtin (T := "re.Pattern") ⟨_, F.keep _ _ (X _ _ rfl), rfl⟩ plainAttrs_pat slot_pat_sub type_pat_sub (fun a e => by cases e; exact ⟨_, F.keep _ _ (X _ _ rfl), rfl⟩) h
theorem m_pat2 {Q : Value × List Value → Shared → Prop} {pl : Sem Bool} (X : (Mine.hd.heap_1_39 w.params).In h₀) (F : Fr h₀ L s.heap m) (h : Q (.builtin "re.Pattern.sub", [.ref 66]) s) : wpAny (model prog w) A₁ (getMethod (.ref 66) (Str.ofString "sub") pl) Q E s :=
  getMethod_builtin (T := "re.Pattern") ⟨_, F.keep _ _ (X _ _ rfl), rfl⟩ plainAttrs_pat slot_pat_sub type_pat_sub (fun a e => by cases e; exact ⟨_, F.keep _ _ (X _ _ rfl), rfl⟩) h
theorem m_sub2 {d : Str} {A e B : Array Nat} (F : Fr h₀ L s.heap m) (N : News h₀ L s.heap news) (X : (Mine.hd.heap_1_39 w.params).In h₀) (hd0 : d.cps = A ++ (e ++ (B ++ e))) (hA : clean A) (hB : clean B) (nA : 0 < A.size) (nB : 0 < B.size) (he : e = #[10] ∨ e = #[13] ∨ e = #[13, 10]) (hz : A.size + B.size ≤ 900)
    (h : ∀ h' t k, Fr h₀ L h' m → News h₀ L h' news → Q (.str ⟨A ++ (crlfA ++ (B ++ crlfA))⟩ t) { s with heap := h', toks := k }) :
    wpAny (model prog w) A₁ (call (.builtin "re.Pattern.sub") [.ref 66, .str (Str.ofString "\r\n") tr, .str d tx]) Q E s := by
  have es : e.size ≤ 2 := by rcases he with he | he | he <;> rw [he] <;> decide
  have S := subs2 hA hB nA nB he (Str.ofString "\r\n")
  rw [← hd0] at S
  refine call_sub F N (pat2_of X) (by rw [hd0]; simp only [Array.size_append]; omega) (by decide +kernel) S (by simp) ?_ fun h' t k F' N' => ?_
  · show A.size + (2 + (B.size + (2 + 0))) + 4 ≤ 1048576
    omega
  · rw [join4]
    exact h h' t k F' N'
theorem m_sub1 {A B : Array Nat} (F : Fr h₀ L s.heap m) (N : News h₀ L s.heap news) (X : (Mine.hd.heap_1_39 w.params).In h₀) (hA : clean A) (hB : clean B) (nA : 0 < A.size) (nB : 0 < B.size) (h46 : A.getD 0 0 ≠ 46) (hz : A.size + B.size ≤ 900)
    (h : ∀ h' t k, Fr h₀ L h' m → News h₀ L h' news → Q (.str ⟨A ++ (crlfA ++ ((if B.getD 0 0 = 46 then #[46] else #[]) ++ (B ++ crlfA)))⟩ t) { s with heap := h', toks := k }) :
    wpAny (model prog w) A₁ (call (.builtin "re.Pattern.sub") [.ref 61, .str (Str.ofString "..") tr, .str ⟨A ++ (crlfA ++ (B ++ crlfA))⟩ tx]) Q E s := by
  have hs : (A ++ (crlfA ++ (B ++ crlfA))).size = A.size + (2 + (B.size + 2)) := by simp only [Array.size_append]; rfl
  by_cases hd : B.getD 0 0 = 46
  · obtain ⟨B', rfl⟩ : ∃ B', B = #[46] ++ B' := by
      refine ⟨B.extract 1 B.size, ?_⟩
      apply Array.ext'
      match hb : B, nB, hd with
      | ⟨c :: r⟩, _, hd => simpa using hd
    have S := subs1_dot hA hB nA h46 (by omega) (Str.ofString "..")
    refine call_sub F N (pat1_of X) (by show (A ++ (crlfA ++ ((#[46] ++ B') ++ crlfA))).size ≤ 1000; omega) (by decide +kernel) S (by simp) ?_ fun h' t k F' N' => ?_
    · show (A ++ crlfA).size + (2 + ((B' ++ crlfA).size + 0)) + 3 ≤ 1048576
      simp only [Array.size_append] at hz ⊢
      have : crlfA.size = 2 := rfl
      omega
    · have := h h' t k F' N'
      rw [if_pos hd] at this
      rw [join3]
      have e : (A ++ crlfA) ++ ((Str.ofString "..").cps ++ (B' ++ crlfA)) = A ++ (crlfA ++ (#[46] ++ ((#[46] ++ B') ++ crlfA))) := by
        rw [show (Str.ofString "..").cps = #[46] ++ #[46] from by decide +kernel]
        simp only [Array.append_assoc]
      show Q (.str ⟨(A ++ crlfA) ++ ((Str.ofString "..").cps ++ (B' ++ crlfA))⟩ t) _
      rw [e]; exact this
  · have S := subs1_no hA hB nA h46 nB hd (by omega) (Str.ofString "..")
    refine call_sub F N (pat1_of X) (by show (A ++ (crlfA ++ (B ++ crlfA))).size ≤ 1000; omega) (by decide +kernel) S (by simp) ?_ fun h' t k F' N' => ?_
    · show (A ++ (crlfA ++ (B ++ crlfA))).size + 0 + 1 ≤ 1048576
      omega
    · have := h h' t k F' N'
      rw [if_neg hd, Array.empty_append] at this
      rw [join1]
      exact this
end
theorem C_quote {w : World} {news : List (Addr × Obj)} {d : Str} {tk : Tok} {A e B : Array Nat} (hd0 : d.cps = A ++ (e ++ (B ++ e))) (hA : clean A) (hB : clean B) (nA : 0 < A.size) (nB : 0 < B.size) (h46 : A.getD 0 0 ≠ 46) (he : e = #[10] ∨ e = #[13] ∨ e = #[13, 10]) (hz : A.size + B.size ≤ 900) :
   Con w 73 [.str d tk] 1 news (fun v nw => (∃ t, v = .str ⟨A ++ (crlfA ++ ((if B.getD 0 0 = 46 then #[46] else #[]) ++ (B ++ crlfA)))⟩ t) ∧ nw = news) := by
  intro p loose mean mg mb dp un gd cn cs a ccd cl outer A₀ base h₀ L m s Q E B F X N T hk hd hu hret
  revert X; k_fill; intro X
  k_with_none
  k_with "m_bind" => first | exact BindsTo.of_eq rfl | exact binds_K (by k_in) rfl (by k_is) rfl rfl rfl
  k_with "m_in" => (k_here; k_dflt (refine wpAny_call ?_; first | (refine' code_def ?k1Zq ?k2Zq ?k3Zq ?k4Zq ?k5Zq ?kAZq ?kFZq ?kKZq ?k6Zq ?k7Zq ?k8Zq ?k9Zq ?kBZq ?_ ?c2Zq ?c3Zq ?c4Zq ?c5Zq; (case kAZq => exact rfl); (case kFZq => exact rfl); (case kKZq => first | exact rfl | assumption); (case k1Zq => k_asm); (case k2Zq => k_asm); (case k3Zq => k_asm); (case k4Zq => k_asm); (case k5Zq => k_asm); (case k6Zq => k_is); (case k7Zq => k_is); (case k8Zq => ktr_room); (case k9Zq => walk_at "m_bind"); (case c5Zq => decide); (case kBZq => exact locs rfl); (case c2Zq => exact rfl); (case c3Zq => exact rfl); (case c4Zq => exact rfl); k_whole; intro g' L' h' FG' F' N' B' X' T'; (try dsimp only); (try k_lift B'); (try k_fold)) | (refine' code_defC ?k1Zq ?k2Zq ?k3Zq ?k4Zq ?k5Zq ?kAZq ?kFZq ?kKZq ?k6Zq ?k7Zq ?k8Zq ?k9Zq ?kBZq ?kDZq ?_ ?c2Zq ?c3Zq ?c4Zq; (case kAZq => exact rfl); (case kFZq => exact rfl); (case kKZq => first | exact rfl | assumption); (case k1Zq => k_asm); (case k2Zq => k_asm); (case k3Zq => k_asm); (case k4Zq => k_asm); (case k5Zq => k_asm); (case k6Zq => k_is); (case k7Zq => k_is); (case k8Zq => ktr_room); (case k9Zq => walk_at "m_bind"); (case kBZq => exact rfl); (case kDZq => decide +kernel); (case c2Zq => exact rfl); (case c3Zq => exact rfl); (case c4Zq => exact rfl); k_whole; intro g' L' h' tk' cells' FG' F' N' Y' B' X' T' l1; (try k_lt l1); k_cells Y'; (try simp only [List.cons_append, List.nil_append] at N'); (try dsimp only); (try k_lift B'); (try k_fold)) | fail "m_in: not entered"))
  k_with "m_pre!" => first | assumption | k_mem | l_ints | omega | k_extra "m_pre" | decide
  k_with "m_end" => (refine con_ret ?aZq ?bZq ?cZq ?dZq; (case aZq => assumption); (case bZq => assumption); (case cZq => assumption))
  k_with "call ref!" => walk_at "m_in"
  k_with "m_sub" => kcf_all
  k_with "exec While Compare cons nil!" => k_extra "m_while"
  k_with "exec While Call cons nil!" => k_extra "m_while"
  k_with "CompSrcT!" => k_extra "m_compT"
  k_with "getMethod ref!" => (k_here; k_dflt (first | (refine' m_pat1 ?XZq ?FZq ?_; (case XZq => assumption); (case FZq => k_asm)) | (refine' m_pat2 ?XZq ?FZq ?_; (case XZq => assumption); (case FZq => k_asm))))
  k_with "call builtin:re.Pattern.sub!" => (k_here; k_dflt (first | (refine' m_sub2 ?FZq ?NZq ?XZq (by assumption) (by assumption) (by assumption) (by assumption) (by assumption) (by assumption) (by assumption) ?_; (case XZq => assumption); (case FZq => k_asm); (case NZq => k_asm)) | (refine' m_sub1 ?FZq ?NZq ?XZq (by assumption) (by assumption) (by assumption) (by assumption) (by assumption) (by assumption) ?_; (case XZq => assumption); (case FZq => k_asm); (case NZq => k_asm))); intro h' t' k' F' N')
  walk_at "m_in"
  k_steps
  exact con_ret hret (by assumption) (by assumption) ⟨⟨_, rfl⟩, rfl⟩
end
section
def two (n : Int) : Str := Txt.item (Str.ofString "0123456789") (n.fdiv 10) ++ Txt.item (Str.ofString "0123456789") (n.fmod 10)
theorem C_two {w : World} {news : List (Addr × Obj)} {n : Int} {tk : Tok} (h0 : 0 ≤ n) (h1 : n < 100) :
   Con w 95 [.int n tk] 1 news (fun v nw => (∃ t, v = .str (two n) t) ∧ nw = news) := by
  intro p loose mean mg mb dp un gd cn cs a ccd cl outer A₀ base h₀ L m s Q E B F X N T hk hd hu hret
  revert X; k_fill; intro X
  k_with_none
  k_with "m_bind" => first | exact BindsTo.of_eq rfl | exact binds_K (by k_in) rfl (by k_is) rfl rfl rfl
  k_with "m_in" => (k_here; k_dflt (refine wpAny_call ?_; first | (refine' code_def ?k1Zq ?k2Zq ?k3Zq ?k4Zq ?k5Zq ?kAZq ?kFZq ?kKZq ?k6Zq ?k7Zq ?k8Zq ?k9Zq ?kBZq ?_ ?c2Zq ?c3Zq ?c4Zq ?c5Zq; (case kAZq => exact rfl); (case kFZq => exact rfl); (case kKZq => first | exact rfl | assumption); (case k1Zq => k_asm); (case k2Zq => k_asm); (case k3Zq => k_asm); (case k4Zq => k_asm); (case k5Zq => k_asm); (case k6Zq => k_is); (case k7Zq => k_is); (case k8Zq => ktr_room); (case k9Zq => walk_at "m_bind"); (case c5Zq => decide); (case kBZq => exact locs rfl); (case c2Zq => exact rfl); (case c3Zq => exact rfl); (case c4Zq => exact rfl); k_whole; intro g' L' h' FG' F' N' B' X' T'; (try dsimp only); (try k_lift B'); (try k_fold)) | (refine' code_defC ?k1Zq ?k2Zq ?k3Zq ?k4Zq ?k5Zq ?kAZq ?kFZq ?kKZq ?k6Zq ?k7Zq ?k8Zq ?k9Zq ?kBZq ?kDZq ?_ ?c2Zq ?c3Zq ?c4Zq; (case kAZq => exact rfl); (case kFZq => exact rfl); (case kKZq => first | exact rfl | assumption); (case k1Zq => k_asm); (case k2Zq => k_asm); (case k3Zq => k_asm); (case k4Zq => k_asm); (case k5Zq => k_asm); (case k6Zq => k_is); (case k7Zq => k_is); (case k8Zq => ktr_room); (case k9Zq => walk_at "m_bind"); (case kBZq => exact rfl); (case kDZq => decide +kernel); (case c2Zq => exact rfl); (case c3Zq => exact rfl); (case c4Zq => exact rfl); k_whole; intro g' L' h' tk' cells' FG' F' N' Y' B' X' T' l1; (try k_lt l1); k_cells Y'; (try simp only [List.cons_append, List.nil_append] at N'); (try dsimp only); (try k_lift B'); (try k_fold)) | fail "m_in: not entered"))
  k_with "m_pre!" => first | assumption | k_mem | l_ints | omega | k_extra "m_pre" | decide
  k_with "m_end" => (refine con_ret ?aZq ?bZq ?cZq ?dZq; (case aZq => assumption); (case bZq => assumption); (case cZq => assumption))
  k_with "call ref!" => walk_at "m_in"
  k_with "m_sub" => kcf_all
  k_with "exec While Compare cons nil!" => k_extra "m_while"
  k_with "exec While Call cons nil!" => k_extra "m_while"
  k_with "CompSrcT!" => k_extra "m_compT"
  walk_at "m_in"
  k_steps
  exact con_ret hret (by assumption) (by assumption) ⟨⟨_, rfl⟩, rfl⟩
end
section
section
open Builtin Builtin.Str
def digs (n : Int) : List Nat := (Str.ofString (toString ((n.natAbs : Nat) : Int))).cps.toList
abbrev padC (W : Nat) : Percent := { zero := true, width := some W, type := 100 }
def padS (W : Nat) (n : Int) : Str := ⟨((percentField (padC W) true (digs n)).getD (digs n)).toArray⟩
theorem after_pad {M : Model} {A : Around} {E : Value → Shared → Prop} {s : Shared} {c : Percent} {W : Nat} {n : Int} {d : List Nat} {pd : List Value} {w : Writer} {r : List Nat} {o : Option Value} {Q : ForInStep (List Value × Writer × List Nat) → Shared → Prop}
    (hc : c = padC W) (hn : 0 ≤ n) (hd : d = digs n) (ho : o = none) (h : Q (.yield (pd, w.add ⟨(padS W n).cps.toList.toArray⟩ none, r)) s) :
    wpAny M A (match percentField c true (percentInt c (decide (n < 0)) d) with | none => pure (.yield (pd, w.add ⟨(percentInt c (decide (n < 0)) d).toArray⟩ o, r)) | some x => pure (.yield (pd, w.add ⟨x.toArray⟩ none, r))) Q E s := by
  subst hc ho hd
  rw [KPc.int_text (padC W) rfl (.inl rfl) rfl hn]
  unfold padS at h
  rw [show (⟨((percentField (padC W) true (digs n)).getD (digs n)).toArray⟩ : Str).cps.toList = (percentField (padC W) true (digs n)).getD (digs n) from rfl] at h
  cases hf : percentField (padC W) true (digs n) with
  | none => rw [hf] at h; exact wpAny_pure h
  | some x => rw [hf] at h; exact wpAny_pure h
abbrev fmtS : Str := Str.ofString "%s, %02d %s %04d %02d:%02d:%02d %s"
abbrev fmtT (dn mn zone : Str) (d y h p q : Int) : Str := dn ++ Str.ofString ", " ++ padS 2 d ++ Str.ofString " " ++ mn ++ Str.ofString " " ++ padS 4 y ++ Str.ofString " " ++ padS 2 h ++ Str.ofString ":" ++ padS 2 p ++ Str.ofString ":" ++ padS 2 q ++ Str.ofString " " ++ zone
theorem fmt_meets {dn mn zone : Str} {d y h p q : Int} {t t1 t2 t3 t4 t5 t6 t7 t8 : Tok} {b : Addr} (hd0 : 0 ≤ d) (hd1 : d < 100) (hy0 : 0 ≤ y) (hy1 : y < 10000) (hh0 : 0 ≤ h) (hh1 : h < 100) (hp0 : 0 ≤ p) (hp1 : p < 100) (hq0 : 0 ≤ q) (hq1 : q < 100)
    (kd : (padS 2 d).length ≤ 10) (ky : (padS 4 y).length ≤ 10) (kh : (padS 2 h).length ≤ 10) (kp : (padS 2 p).length ≤ 10) (kq : (padS 2 q).length ≤ 10)
    (hdn : dn.length ≤ 1000000) (hmn : mn.length ≤ 1000000) (hz : zone.length ≤ 1000000) :
    Meets («str.__mod__» ⟨[.str ⟨fmtS.cps⟩ t, .ref b], []⟩) (fun _ R s => IsTup s.heap b #[.str dn t1, .int d t2, .str mn t3, .int y t4, .int h t5, .int p t6, .int q t7, .str zone t8] ∧ ∀ t' k, R (.ok (.ret (.str (fmtT dn mn zone d y h p q) t'))) { s with toks := k }) := by
  rw [show fmtS.cps = #[37, 115, 44, 32, 37, 48, 50, 100, 32, 37, 115, 32, 37, 48, 52, 100, 32, 37, 48, 50, 100, 58, 37, 48, 50, 100, 58, 37, 48, 50, 100, 32, 37, 115] from by decide +kernel]
  apply KPt.meets_tup
  intro _ _ _ _ _ _ kptH _
  obtain ⟨kptO, kptG, kptC, kptN, kptD⟩ := kptH
  rw [KPt.entry_is_r]
  unfold Builtin.Str.percentFormat
  refine wpAny_bind (wpAny_isInstance (T := "tuple") ⟨kptO, kptG, kptC⟩ KPt.sub_tt ?_)
  refine wpAny_bind (KPt.asStr_ref kptG kptD ?_)
  refine wpAny_bind (KPt.fills_ref ⟨kptO, kptG, kptC⟩ ?_)
  intro _
  kpc_if
  refine wpAny_bind (wpAny_seqItems kptG kptD ?_)
  refine wpAny_bind (wpAny_pure ?_)
  refine wpAny_bind ?_
  rw [KPc.range_list]
  refine KPc.start ?_
  intro _ _
  refine KPc.turn ?_; kpc_check; (repeat kpc_if)
  (refine wpAny_bind ?_; refine wpAny_holding ?_; (repeat kpc_if); kpt_conv; refine wpAny_pure ?_; refine wpAny_pure ?_; kpt_piece)
  refine KPc.turn ?_; kpc_check; (repeat kpc_if)
  (refine wpAny_pure ?_; kpt_piece)
  refine KPc.turn ?_; kpc_check; (repeat kpc_if)
  (refine wpAny_bind ?_; refine wpAny_holding ?_; (repeat kpc_if); kpt_conv; refine wpAny_pure ?_)
  refine after_pad (W := 2) rfl (by assumption) rfl (by kpc_none) ?_
  refine KPc.after_str (K := 10) (by kpc_g) (by assumption) (KPc.obj_none rfl) ?_; intro _ _
  refine KPc.turn ?_; kpc_check; (repeat kpc_if)
  (refine wpAny_pure ?_; kpt_piece)
  refine KPc.turn ?_; kpc_check; (repeat kpc_if)
  (refine wpAny_bind ?_; refine wpAny_holding ?_; (repeat kpc_if); kpt_conv; refine wpAny_pure ?_; refine wpAny_pure ?_; kpt_piece)
  refine KPc.turn ?_; kpc_check; (repeat kpc_if)
  (refine wpAny_pure ?_; kpt_piece)
  refine KPc.turn ?_; kpc_check; (repeat kpc_if)
  (refine wpAny_bind ?_; refine wpAny_holding ?_; (repeat kpc_if); kpt_conv; refine wpAny_pure ?_)
  refine after_pad (W := 4) rfl (by assumption) rfl (by kpc_none) ?_
  refine KPc.after_str (K := 10) (by kpc_g) (by assumption) (KPc.obj_none rfl) ?_; intro _ _
  refine KPc.turn ?_; kpc_check; (repeat kpc_if)
  (refine wpAny_pure ?_; kpt_piece)
  refine KPc.turn ?_; kpc_check; (repeat kpc_if)
  (refine wpAny_bind ?_; refine wpAny_holding ?_; (repeat kpc_if); kpt_conv; refine wpAny_pure ?_)
  refine after_pad (W := 2) rfl (by assumption) rfl (by kpc_none) ?_
  refine KPc.after_str (K := 10) (by kpc_g) (by assumption) (KPc.obj_none rfl) ?_; intro _ _
  refine KPc.turn ?_; kpc_check; (repeat kpc_if)
  (refine wpAny_pure ?_; kpt_piece)
  refine KPc.turn ?_; kpc_check; (repeat kpc_if)
  (refine wpAny_bind ?_; refine wpAny_holding ?_; (repeat kpc_if); kpt_conv; refine wpAny_pure ?_)
  refine after_pad (W := 2) rfl (by assumption) rfl (by kpc_none) ?_
  refine KPc.after_str (K := 10) (by kpc_g) (by assumption) (KPc.obj_none rfl) ?_; intro _ _
  refine KPc.turn ?_; kpc_check; (repeat kpc_if)
  (refine wpAny_pure ?_; kpt_piece)
  refine KPc.turn ?_; kpc_check; (repeat kpc_if)
  (refine wpAny_bind ?_; refine wpAny_holding ?_; (repeat kpc_if); kpt_conv; refine wpAny_pure ?_)
  refine after_pad (W := 2) rfl (by assumption) rfl (by kpc_none) ?_
  refine KPc.after_str (K := 10) (by kpc_g) (by assumption) (KPc.obj_none rfl) ?_; intro _ _
  refine KPc.turn ?_; kpc_check; (repeat kpc_if)
  (refine wpAny_pure ?_; kpt_piece)
  refine KPc.turn ?_; kpc_check; (repeat kpc_if)
  (refine wpAny_bind ?_; refine wpAny_holding ?_; (repeat kpc_if); kpt_conv; refine wpAny_pure ?_; refine wpAny_pure ?_; kpt_piece)
  refine KPc.turn ?_; kpc_check; (repeat kpc_if)
  kpc_close
end
end
section
abbrev daysL : List Str := [Str.ofString "Mon", Str.ofString "Tue", Str.ofString "Wed", Str.ofString "Thu", Str.ofString "Fri", Str.ofString "Sat", Str.ofString "Sun"]
abbrev monsL : List Str := [Str.ofString "Jan", Str.ofString "Feb", Str.ofString "Mar", Str.ofString "Apr", Str.ofString "May", Str.ofString "Jun", Str.ofString "Jul", Str.ofString "Aug", Str.ofString "Sep", Str.ofString "Oct", Str.ofString "Nov", Str.ofString "Dec"]
theorem getD_len : ∀ (l : List Str), l.all (fun x => decide (x.length ≤ 1000000)) = true → ∀ i : Nat, (l.getD i Str.empty).length ≤ 1000000
  | [], _, i => by rw [List.getD_nil]; decide
  | a :: l, h, i => by
    rw [List.all_cons, Bool.and_eq_true] at h
    cases i with
    | zero => exact of_decide_eq_true h.1
    | succ i => exact getD_len l h.2 i
theorem C_fmt {w : World} {news : List (Addr × Obj)} {T : Addr} {n : Nat} {y mo d h p' q' day : Int} {t1 t2 t3 t4 t5 t6 t7 tk : Tok} {zone : Str}
   (hT : (T, ({ cls := .type "tuple", data := .seq #[.int y t1, .int mo t2, .int d t3, .int h t4, .int p' t5, .int q' t6, .int day t7] n } : Obj)) ∈ news)
   (hy0 : 0 ≤ y) (hy1 : y < 10000) (hm0 : 1 ≤ mo) (hm1 : mo < 13) (hd0 : 0 ≤ d) (hd1 : d < 100) (hh0 : 0 ≤ h) (hh1 : h < 100) (hp0 : 0 ≤ p') (hp1 : p' < 100) (hq0 : 0 ≤ q') (hq1 : q' < 100) (hw0 : 0 ≤ day) (hw1 : day < 7) (hz : zone.length ≤ 1000000)
   (kd : (padS 2 d).length ≤ 10) (ky : (padS 4 y).length ≤ 10) (kh : (padS 2 h).length ≤ 10) (kp : (padS 2 p').length ≤ 10) (kq : (padS 2 q').length ≤ 10) :
   Con w 38 [.ref T, .str zone tk] 1 news (fun v nw => (∃ t, v = .str (fmtT (daysL.getD day.toNat Str.empty) (monsL.getD (mo - 1).toNat Str.empty) zone d y h p' q') t) ∧ nw = news) := by
  intro p loose mean mg mb dp un gd cn cs a ccd cl outer A₀ base h₀ L m s Q E B F X N T hk hd hu hret
  revert X; k_fill; intro X
  k_with_none
  k_with "m_bind" => first | exact BindsTo.of_eq rfl | exact binds_K (by k_in) rfl (by k_is) rfl rfl rfl
  k_with "m_in" => (k_here; k_dflt (refine wpAny_call ?_; first | (refine' code_def ?k1Zq ?k2Zq ?k3Zq ?k4Zq ?k5Zq ?kAZq ?kFZq ?kKZq ?k6Zq ?k7Zq ?k8Zq ?k9Zq ?kBZq ?_ ?c2Zq ?c3Zq ?c4Zq ?c5Zq; (case kAZq => exact rfl); (case kFZq => exact rfl); (case kKZq => first | exact rfl | assumption); (case k1Zq => k_asm); (case k2Zq => k_asm); (case k3Zq => k_asm); (case k4Zq => k_asm); (case k5Zq => k_asm); (case k6Zq => k_is); (case k7Zq => k_is); (case k8Zq => ktr_room); (case k9Zq => walk_at "m_bind"); (case c5Zq => decide); (case kBZq => exact locs rfl); (case c2Zq => exact rfl); (case c3Zq => exact rfl); (case c4Zq => exact rfl); k_whole; intro g' L' h' FG' F' N' B' X' T'; (try dsimp only); (try k_lift B'); (try k_fold)) | (refine' code_defC ?k1Zq ?k2Zq ?k3Zq ?k4Zq ?k5Zq ?kAZq ?kFZq ?kKZq ?k6Zq ?k7Zq ?k8Zq ?k9Zq ?kBZq ?kDZq ?_ ?c2Zq ?c3Zq ?c4Zq; (case kAZq => exact rfl); (case kFZq => exact rfl); (case kKZq => first | exact rfl | assumption); (case k1Zq => k_asm); (case k2Zq => k_asm); (case k3Zq => k_asm); (case k4Zq => k_asm); (case k5Zq => k_asm); (case k6Zq => k_is); (case k7Zq => k_is); (case k8Zq => ktr_room); (case k9Zq => walk_at "m_bind"); (case kBZq => exact rfl); (case kDZq => decide +kernel); (case c2Zq => exact rfl); (case c3Zq => exact rfl); (case c4Zq => exact rfl); k_whole; intro g' L' h' tk' cells' FG' F' N' Y' B' X' T' l1; (try k_lt l1); k_cells Y'; (try simp only [List.cons_append, List.nil_append] at N'); (try dsimp only); (try k_lift B'); (try k_fold)) | fail "m_in: not entered"))
  k_with "m_pre!" => first | assumption | k_mem | l_ints | omega | k_extra "m_pre" | decide
  k_with "m_end" => (refine con_ret ?aZq ?bZq ?cZq ?dZq; (case aZq => assumption); (case bZq => assumption); (case cZq => assumption))
  k_with "call ref!" => walk_at "m_in"
  k_with "m_sub" => kcf_all
  k_with "exec While Compare cons nil!" => k_extra "m_while"
  k_with "exec While Call cons nil!" => k_extra "m_while"
  k_with "CompSrcT!" => k_extra "m_compT"
  k_with "binaryOp Mod str ref!" => (k_here; k_dflt (refine' KPt.mod_tuple (X' := ⟨fmtS.cps⟩) ?kptNZq ?kptbZq ?kptFZq ?kptmZq ?_; (case kptNZq => k_asm); (case kptbZq => k_mem); (case kptFZq => exact rfl); (case kptmZq => k_extra "m_fmt")); intro _ _)
  walk_at "m_in"
  k_with "table" => skip
  k_with "m_fmt" => exact fmt_meets (by assumption) (by assumption) (by assumption) (by assumption) (by assumption) (by assumption) (by assumption) (by assumption) (by assumption) (by assumption) (by assumption) (by assumption) (by assumption) (by assumption) (by assumption) (getD_len daysL (by decide +kernel) _) (getD_len monsL (by decide +kernel) _) (by assumption)
  k_steps
  refine' con_ret hret (by assumption) (cb_drop (by assumption) ?s) ⟨⟨_, rfl⟩, rfl⟩
  (case s => kcf_all)
end
section
theorem pad_two : ∀ k : Fin 100, padS 2 (k.val : Int) = two (k.val : Int) := by decide +kernel
theorem pad2 {n : Int} (h0 : 0 ≤ n) (h1 : n < 100) : padS 2 n = two n := by
  have := pad_two ⟨n.toNat, by omega⟩
  simpa [Int.toNat_of_nonneg h0] using this
def yearOk (y : Int) : Bool := padS 4 y == (two (Int.fdiv y 100) ++ two (Int.fmod y 100)) && decide ((padS 4 y).length ≤ 10)
theorem year_ok : ∀ i : Fin 6, ∀ j : Fin 6, i ≠ j → yearOk (([13, 17, 29, 37, 41, 53] : List Int).getD i.val 0 * ([13, 17, 29, 37, 41, 53] : List Int).getD j.val 0) = true := by decide +kernel
theorem two_len : ∀ k : Fin 100, (two (k.val : Int)).length = 2 := by decide +kernel
end
section
theorem ConL.mono {w : World} {f : Addr} {args : List Value} {dep : Nat} {news : List (Addr × Obj)} {l : Addr} {vs : List Value} {R R' : Value → List (Addr × Obj) → Prop} (C : ConL w f args dep news l vs R) (h : ∀ v nw, R v nw → R' v nw) : ConL w f args dep news l vs R' :=
  fun p loose mean mg mb dp un gd cn cs a ccd cl outer A₀ base h₀ L m s Q E B F X N T hk hd hu hl ret => C p loose mean mg mb dp un gd cn cs a ccd cl outer A₀ base h₀ L m s Q E B F X N T hk hd hu hl fun v nw h' tk' r => ret v nw h' tk' (h v nw r)
/-- which two primes, with their signs -/
def Pair (P Q : Int) (S1 S2 : Str) : Prop := ∃ i j : Nat, i < 6 ∧ j < 6 ∧ i ≠ j ∧ P = prsL.getD i 0 ∧ Q = prsL.getD j 0 ∧ S1 = sgsL.getD i Str.empty ∧ S2 = sgsL.getD j Str.empty
theorem prs_range : ∀ i : Fin 6, 13 ≤ prsL.getD i.val 0 ∧ prsL.getD i.val 0 ≤ 53 := by decide
theorem Pair.facts {P Q : Int} {S1 S2 : Str} (h : Pair P Q S1 S2) : 13 ≤ P ∧ P ≤ 53 ∧ 13 ≤ Q ∧ Q ≤ 53 ∧ 169 ≤ P * Q ∧ P * Q ≤ 2809 := by
  obtain ⟨i, j, hi, hj, _, rfl, rfl, _, _⟩ := h
  have a := prs_range ⟨i, hi⟩
  have b := prs_range ⟨j, hj⟩
  refine ⟨a.1, a.2, b.1, b.2, ?_, ?_⟩
  · exact Int.mul_le_mul a.1 b.1 (by decide) (by have := a.1; simp only at this; omega)
  · exact Int.mul_le_mul a.2 b.2 (by have := b.1; simp only at this; omega) (by decide)
theorem fmr (a : Int) {m : Int} (h : 0 < m) : 0 ≤ Int.fmod a m ∧ Int.fmod a m < m := ⟨Int.fmod_nonneg_of_pos _ h, Int.fmod_lt_of_pos _ h⟩
theorem fdr {a m k : Int} (h : 0 < m) (h0 : 0 ≤ a) (h1 : a < m * k) : 0 ≤ Int.fdiv a m ∧ Int.fdiv a m < k := by
  rw [Int.fdiv_eq_ediv_of_nonneg _ (by omega)]
  exact ⟨Int.ediv_nonneg h0 (by omega), Int.ediv_lt_of_lt_mul h (by rw [Int.mul_comm]; exact h1)⟩
theorem C_drawn2 {w : World} {l : Addr} {vs : List Value} {ns : List Int} (hi : IntsAre vs ns) (hfit : ns.length ≤ 63) :
   ConL w 88 [.ref l] 1 [] l vs (fun v nw => ∃ (P Q : Int) (S1 S2 : Str) (c : Int) (l' : Addr) (t1 t2 t3 t4 : Tok) (n : Nat), Pair P Q S1 S2 ∧ 0 ≤ c ∧ c < 1000000 ∧ v = .ref l' ∧
     nw = [(l', PySem.W.listOf #[.int P t1, .int Q t2, .str (S1 ++ Str.ofString " " ++ S2) t3, .int c t4] n)]) :=
  (C_drawn hi hfit).mono fun v nw ⟨i, j, c, l', t1, t2, t3, t4, n, h1, h2, h3, h4, h5, h6, h7⟩ => ⟨_, _, _, _, c, l', t1, t2, t3, t4, n, ⟨i, j, h1, h2, h3, rfl, rfl, rfl, rfl⟩, h4, h5, h6, h7⟩
theorem Pair.ok {P Q : Int} {S1 S2 : Str} (h : Pair P Q S1 S2) : okB P Q = true := by
  obtain ⟨i, j, hi, hj, hij, rfl, rfl, _, _⟩ := h
  exact ok_all i hi j hj hij
end
section
section
open Builtin Builtin.Str
theorem getD_le {K : Nat} : ∀ (l : List Str), l.all (fun x => decide (x.length ≤ K)) = true → ∀ i : Nat, (l.getD i Str.empty).length ≤ K
  | [], _, i => by rw [List.getD_nil]; exact Nat.zero_le _
  | a :: l, h, i => by
    rw [List.all_cons, Bool.and_eq_true] at h
    cases i with
    | zero => exact of_decide_eq_true h.1
    | succ i => exact getD_le l h.2 i
theorem dots_cases {d : Int} (h : 0 ≤ d ∧ d < 3) : d = 0 ∨ d = 1 ∨ d = 2 := by omega
theorem dots_len {d : Int} (h : 0 ≤ d ∧ d < 3) : (Txt.mul (Str.ofString ".") d).length ≤ 2 := by
  rcases dots_cases h with rfl | rfl | rfl <;> decide +kernel
/-- the lengths of the law's texts -/
theorem lens (c : Int) : (([Str.ofString "-0000", Str.ofString "GMT"].getD ((Int.fdiv c 56448).fmod 2).toNat Str.empty)).length ≤ 5 ∧ ((Txt.mul (Str.ofString ".") ((Int.fdiv c 112896).fmod 3))).length ≤ 2 ∧ (([Str.ofString "\n", Str.ofString "\r", Str.ofString "\r\n"].getD (Int.fdiv c 338688).toNat Str.empty)).length ≤ 2 ∧ ((Txt.slice (Str.ofString "MonTueWedThuFriSatSun") (some (3 * Int.fmod c 7)) (some (3 * Int.fmod c 7 + 3)))).length ≤ 21 ∧ ((Txt.slice (Str.ofString "JanFebMarAprMayJunJulAugSepOctNovDec") (some (3 * (Int.fdiv c 7).fmod 12)) (some (3 * (Int.fdiv c 7).fmod 12 + 3)))).length ≤ 36 :=
  ⟨getD_le _ (by decide +kernel) _, dots_len (fmr _ (by decide)), getD_le _ (by decide +kernel) _, Nat.le_trans (Txt.slice_le _ _ _) (by decide +kernel), Nat.le_trans (Txt.slice_le _ _ _) (by decide +kernel)⟩
/-- no end of line in a text -/
def okA (a : Array Nat) : Bool := a.all fun c => c != 10 && c != 13
theorem okA_app {a b : Array Nat} (ha : okA a = true) (hb : okA b = true) : okA (a ++ b) = true := by
  unfold okA at *
  rw [Array.all_append, ha, hb]; rfl
theorem okA_clean {a : Array Nat} (h : okA a = true) : clean a := by
  intro i hi
  unfold okA at h
  rw [Array.all_eq_true] at h
  have := h i hi
  rw [Bool.and_eq_true, bne_iff_ne, bne_iff_ne] at this
  rw [Array.getD, dif_pos hi]
  exact this
theorem days_eq : ∀ k : Fin 7, Txt.slice (Str.ofString "MonTueWedThuFriSatSun") (some (3 * (k.val : Int))) (some (3 * (k.val : Int) + 3)) = daysL.getD k.val Str.empty := by decide +kernel
theorem mons_eq : ∀ k : Fin 12, Txt.slice (Str.ofString "JanFebMarAprMayJunJulAugSepOctNovDec") (some (3 * (k.val : Int))) (some (3 * (k.val : Int) + 3)) = monsL.getD k.val Str.empty := by decide +kernel
theorem days_ok : ∀ k : Fin 7, okA (daysL.getD k.val Str.empty).cps = true ∧ (daysL.getD k.val Str.empty).cps.size = 3 ∧ (daysL.getD k.val Str.empty).cps.getD 0 0 ≠ 46 := by decide +kernel
theorem mons_ok : ∀ k : Fin 12, okA (monsL.getD k.val Str.empty).cps = true ∧ (monsL.getD k.val Str.empty).cps.size = 3 := by decide +kernel
theorem two_ok : ∀ k : Fin 100, okA (two (k.val : Int)).cps = true ∧ (two (k.val : Int)).cps.size = 2 := by decide +kernel
theorem zone_ok : ∀ k : Fin 2, okA ([Str.ofString "-0000", Str.ofString "GMT"].getD k.val Str.empty).cps = true ∧ 0 < ([Str.ofString "-0000", Str.ofString "GMT"].getD k.val Str.empty).cps.size ∧ ([Str.ofString "-0000", Str.ofString "GMT"].getD k.val Str.empty).cps.size ≤ 5 := by decide +kernel
theorem two_ok' {n : Int} (h0 : 0 ≤ n) (h1 : n < 100) : okA (two n).cps = true ∧ (two n).cps.size = 2 := by
  have := two_ok ⟨n.toNat, by omega⟩
  simpa only [Int.toNat_of_nonneg h0] using this
theorem two_le {n : Int} (h0 : 0 ≤ n) (h1 : n < 100) : (two n).length ≤ 2 := Nat.le_of_eq (two_ok' h0 h1).2
theorem days_eq' {n : Int} (h : 0 ≤ n ∧ n < 7) : Txt.slice (Str.ofString "MonTueWedThuFriSatSun") (some (3 * n)) (some (3 * n + 3)) = daysL.getD n.toNat Str.empty := by
  have := days_eq ⟨n.toNat, by omega⟩
  simpa only [Int.toNat_of_nonneg h.1] using this
theorem mons_eq' {n : Int} (h : 0 ≤ n ∧ n < 12) : Txt.slice (Str.ofString "JanFebMarAprMayJunJulAugSepOctNovDec") (some (3 * n)) (some (3 * n + 3)) = monsL.getD n.toNat Str.empty := by
  have := mons_eq ⟨n.toNat, by omega⟩
  simpa only [Int.toNat_of_nonneg h.1] using this
theorem Pair.year {P Q : Int} {S1 S2 : Str} (h : Pair P Q S1 S2) : padS 4 (P * Q) = two (Int.fdiv (P * Q) 100) ++ two (Int.fmod (P * Q) 100) ∧ (padS 4 (P * Q)).length ≤ 10 := by
  obtain ⟨i, j, hi, hj, hij, rfl, rfl, _, _⟩ := h
  have := year_ok ⟨i, hi⟩ ⟨j, hj⟩ (fun e => hij (Fin.mk.inj e))
  unfold yearOk at this
  rw [Bool.and_eq_true] at this
  exact ⟨eq_of_beq this.1, of_decide_eq_true this.2⟩
/-- a text's middle -/
theorem slice_mid {x : Str} {A B C : Array Nat} (hx : x.cps = A ++ (B ++ C)) {i j : Nat} (hA : A.size = i) (hB : i + B.size = j) (nA : 0 < A.size) : Txt.slice x (some (i : Int)) (some (j : Int)) = ⟨B⟩ := by
  have hn : x.length = i + B.size + C.size := by
    show x.cps.size = _
    rw [hx, Array.size_append, Array.size_append, hA]; omega
  have hs : strSliceIndices (some (i : Int)) (some (j : Int)) 1 x.length = (List.range B.size).map (fun k => i + k) := by
    unfold strSliceIndices sliceRange
    simp only [show (1 : Int) > 0 by decide, if_true]
    rw [if_neg (show ¬ ((i : Int) < 0) by omega), if_neg (show ¬ ((j : Int) < 0) by omega), show max (0 : Int) (min (i : Int) (x.length : Int)) = i by omega, show max (0 : Int) (min (j : Int) (x.length : Int)) = j by omega]
    have hc : (if (i : Int) < (j : Int) then ((j : Int) - (i : Int) + 1 - 1) / 1 else 0).toNat = B.size := by
      split <;> omega
    rw [hc]
    apply List.map_congr_left
    intro k _
    omega
  unfold Txt.slice
  rw [hs, List.length_map, List.length_range, if_neg (by
    intro h
    rw [Bool.and_eq_true] at h
    have := eq_of_beq h.2
    omega)]
  congr 1
  apply Array.ext'
  rw [List.filterMap_map]
  have : ∀ n ≤ B.size, List.filterMap ((fun (x_1 : Nat) => x.cps[x_1]?) ∘ fun k => i + k) (List.range n) = B.toList.take n := by
    intro n
    induction n with
    | zero => intro _; rfl
    | succ n ih =>
      intro hn'
      rw [List.range_succ, List.filterMap_append, ih (by omega)]
      have e : x.cps[i + n]? = some B[n] := by
        rw [hx, Array.getElem?_append_right (by omega), Array.getElem?_append_left (by omega), show i + n - A.size = n by omega]
        exact Array.getElem?_eq_getElem _
      rw [List.take_add_one]
      simp [e, Array.getElem?_eq_getElem (show n < B.size by omega)]
  rw [this B.size (Nat.le_refl _), ← Array.length_toList, List.take_length]
theorem two_int : ∀ i : Fin 6, PySem.intText? (two (prsL.getD i.val 0)) = some (prsL.getD i.val 0) := by decide +kernel
end
end
section
section
open Builtin Builtin.Str
theorem line_facts {dn dd mn y1 y2 hh pp qq z x : Str} (e : x = dn ++ Str.ofString ", " ++ dd ++ Str.ofString " " ++ mn ++ Str.ofString " " ++ (y1 ++ y2) ++ Str.ofString " " ++ hh ++ Str.ofString ":" ++ pp ++ Str.ofString ":" ++ qq ++ Str.ofString " " ++ z)
    (h1 : okA dn.cps = true ∧ dn.cps.size = 3 ∧ dn.cps.getD 0 0 ≠ 46) (h2 : okA dd.cps = true ∧ dd.cps.size = 2) (h3 : okA mn.cps = true ∧ mn.cps.size = 3) (h4 : okA y1.cps = true ∧ y1.cps.size = 2) (h5 : okA y2.cps = true ∧ y2.cps.size = 2) (h6 : okA hh.cps = true ∧ hh.cps.size = 2)
    (h7 : okA pp.cps = true ∧ pp.cps.size = 2) (h8 : okA qq.cps = true ∧ qq.cps.size = 2) (h9 : okA z.cps = true ∧ 0 < z.cps.size ∧ z.cps.size ≤ 5) :
    okA x.cps = true ∧ 0 < x.cps.size ∧ x.cps.size ≤ 31 ∧ Txt.slice x (some 20) (some 22) = pp ∧ Txt.slice x (some 23) (some 25) = qq ∧ x.cps.getD 0 0 ≠ 46 := by
  subst e
  have k1 : okA (Str.ofString ", ").cps = true := by decide +kernel
  have k2 : okA (Str.ofString " ").cps = true := by decide +kernel
  have k3 : okA (Str.ofString ":").cps = true := by decide +kernel
  have s1 : (Str.ofString ", ").cps.size = 2 := by decide +kernel
  have s2 : (Str.ofString " ").cps.size = 1 := by decide +kernel
  have s3 : (Str.ofString ":").cps.size = 1 := by decide +kernel
  obtain ⟨a1, b1, c1⟩ := h1
  obtain ⟨a2, b2⟩ := h2
  obtain ⟨a3, b3⟩ := h3
  obtain ⟨a4, b4⟩ := h4
  obtain ⟨a5, b5⟩ := h5
  obtain ⟨a6, b6⟩ := h6
  obtain ⟨a7, b7⟩ := h7
  obtain ⟨a8, b8⟩ := h8
  obtain ⟨a9, b9, c9⟩ := h9
  refine ⟨?_, ?_, ?_, ?_, ?_, ?_⟩
  · simp only [Str.cps_append]
    repeat' (first | assumption | apply okA_app)
  · simp only [Str.cps_append, Array.size_append, b1]; omega
  · simp only [Str.cps_append, Array.size_append, b1, b2, b3, b4, b5, b6, b7, b8, s1, s2, s3]; omega
  · exact slice_mid (i := 20) (j := 22) (A := (dn ++ Str.ofString ", " ++ dd ++ Str.ofString " " ++ mn ++ Str.ofString " " ++ (y1 ++ y2) ++ Str.ofString " " ++ hh ++ Str.ofString ":").cps) (B := pp.cps) (C := (Str.ofString ":" ++ qq ++ Str.ofString " " ++ z).cps)
      (by simp only [Str.cps_append, Array.append_assoc])
      (by simp only [Str.cps_append, Array.size_append, b1, b2, b3, b4, b5, b6, s1, s2, s3])
      (by rw [b7])
      (by simp only [Str.cps_append, Array.size_append, b1]; omega)
  · exact slice_mid (i := 23) (j := 25) (A := (dn ++ Str.ofString ", " ++ dd ++ Str.ofString " " ++ mn ++ Str.ofString " " ++ (y1 ++ y2) ++ Str.ofString " " ++ hh ++ Str.ofString ":" ++ pp ++ Str.ofString ":").cps) (B := qq.cps) (C := (Str.ofString " " ++ z).cps)
      (by simp only [Str.cps_append, Array.append_assoc])
      (by simp only [Str.cps_append, Array.size_append, b1, b2, b3, b4, b5, b6, b7, s1, s2, s3])
      (by rw [b8])
      (by simp only [Str.cps_append, Array.size_append, b1]; omega)
  · have : ∀ r : Array Nat, (dn.cps ++ r).getD 0 0 ≠ 46 := by
      intro r
      have : (dn.cps ++ r).getD 0 0 = dn.cps.getD 0 0 := by
        rw [Array.getD_eq_getD_getElem?, Array.getD_eq_getD_getElem?, Array.getElem?_append_left (by omega)]
      rw [this]; exact c1
    simp only [Str.cps_append, Array.append_assoc]
    exact this _
/-- what the law knows of the date line -/
structure LineOf (c P Q : Int) (x : Str) : Prop where
  eq : x = ((Txt.slice (Str.ofString "MonTueWedThuFriSatSun") (some (3 * Int.fmod c 7)) (some (3 * Int.fmod c 7 + 3))) ++ Str.ofString ", " ++ two (1 + (Int.fdiv c 84).fmod 28) ++ Str.ofString " ") ++ ((Txt.slice (Str.ofString "JanFebMarAprMayJunJulAugSepOctNovDec") (some (3 * (Int.fdiv c 7).fmod 12)) (some (3 * (Int.fdiv c 7).fmod 12 + 3))) ++ Str.ofString " " ++ two (Int.fdiv (P * Q) 100)) ++ (two (Int.fmod (P * Q) 100) ++ Str.ofString " " ++ two ((Int.fdiv c 2352).fmod 24) ++ Str.ofString ":" ++ two P ++ Str.ofString ":" ++ two Q ++ Str.ofString " " ++ ([Str.ofString "-0000", Str.ofString "GMT"].getD ((Int.fdiv c 56448).fmod 2).toNat Str.empty))
  ok : okA x.cps = true
  pos : 0 < x.cps.size
  len : x.length ≤ 31
  h46 : x.cps.getD 0 0 ≠ 46
  rp : PySem.intText? (Txt.slice x (some 20) (some 22)) = some P
  rpl : (Txt.slice x (some 20) (some 22)).length ≤ 640
  rq : PySem.intText? (Txt.slice x (some 23) (some 25)) = some Q
  rql : (Txt.slice x (some 23) (some 25)).length ≤ 640
theorem Pair.ints {P Q : Int} {S1 S2 : Str} (h : Pair P Q S1 S2) : PySem.intText? (two P) = some P ∧ PySem.intText? (two Q) = some Q := by
  obtain ⟨i, j, hi, hj, hij, rfl, rfl, _, _⟩ := h
  exact ⟨two_int ⟨i, hi⟩, two_int ⟨j, hj⟩⟩
theorem lineOf {c P Q : Int} {S1 S2 : Str} (hP : Pair P Q S1 S2) (hc0 : 0 ≤ c) (hc1 : c < 1000000) :
    LineOf c P Q (fmtT (daysL.getD (Int.fmod c 7).toNat Str.empty) (monsL.getD ((Int.fdiv c 7).fmod 12 + 1 - 1).toNat Str.empty) ([Str.ofString "-0000", Str.ofString "GMT"].getD ((Int.fdiv c 56448).fmod 2).toNat Str.empty) (1 + (Int.fdiv c 84).fmod 28) (P * Q) ((Int.fdiv c 2352).fmod 24) P Q) := by
  obtain ⟨hf1, hf2, hf3, hf4, hf5, hf6⟩ := hP.facts
  have hday := fmr c (m := 7) (by decide)
  have hmon := fmr (Int.fdiv c 7) (m := 12) (by decide)
  have hdat := fmr (Int.fdiv c 84) (m := 28) (by decide)
  have hhou := fmr (Int.fdiv c 2352) (m := 24) (by decide)
  have hzon := fmr (Int.fdiv c 56448) (m := 2) (by decide)
  have hyr := fdr (a := P * Q) (m := 100) (k := 100) (by decide) (by omega) (by omega)
  have hyr2 := fmr (P * Q) (m := 100) (by decide)
  have e0 : (Int.fdiv c 7).fmod 12 + 1 - 1 = (Int.fdiv c 7).fmod 12 := by omega
  rw [e0]
  have E : fmtT (daysL.getD (Int.fmod c 7).toNat Str.empty) (monsL.getD ((Int.fdiv c 7).fmod 12).toNat Str.empty) ([Str.ofString "-0000", Str.ofString "GMT"].getD ((Int.fdiv c 56448).fmod 2).toNat Str.empty) (1 + (Int.fdiv c 84).fmod 28) (P * Q) ((Int.fdiv c 2352).fmod 24) P Q = (daysL.getD (Int.fmod c 7).toNat Str.empty) ++ Str.ofString ", " ++ two (1 + (Int.fdiv c 84).fmod 28) ++ Str.ofString " " ++ (monsL.getD ((Int.fdiv c 7).fmod 12).toNat Str.empty) ++ Str.ofString " " ++ (two (Int.fdiv (P * Q) 100) ++ two (Int.fmod (P * Q) 100)) ++ Str.ofString " " ++ two ((Int.fdiv c 2352).fmod 24) ++ Str.ofString ":" ++ two P ++ Str.ofString ":" ++ two Q ++ Str.ofString " " ++ ([Str.ofString "-0000", Str.ofString "GMT"].getD ((Int.fdiv c 56448).fmod 2).toNat Str.empty) := by
    show _ ++ Str.ofString ", " ++ padS 2 _ ++ Str.ofString " " ++ _ ++ Str.ofString " " ++ padS 4 _ ++ Str.ofString " " ++ padS 2 _ ++ Str.ofString ":" ++ padS 2 _ ++ Str.ofString ":" ++ padS 2 _ ++ Str.ofString " " ++ _ = _
    rw [hP.year.1, pad2 (n := (1 + (Int.fdiv c 84).fmod 28)) (by omega) (by omega), pad2 (n := ((Int.fdiv c 2352).fmod 24)) (by omega) (by omega), pad2 (n := P) (by omega) (by omega), pad2 (n := Q) (by omega) (by omega)]
  obtain ⟨g1, g2, g3, g4, g5, g6⟩ := line_facts E (days_ok ⟨(Int.fmod c 7).toNat, by omega⟩) (two_ok' (by omega) (by omega)) (mons_ok ⟨((Int.fdiv c 7).fmod 12).toNat, by omega⟩) (two_ok' (by omega) (by omega)) (two_ok' (by omega) (by omega)) (two_ok' (by omega) (by omega)) (two_ok' (by omega) (by omega)) (two_ok' (by omega) (by omega)) (zone_ok ⟨((Int.fdiv c 56448).fmod 2).toNat, by omega⟩)
  have i := hP.ints
  have l1 := two_le (n := P) (by omega) (by omega)
  have l2 := two_le (n := Q) (by omega) (by omega)
  refine ⟨?_, g1, g2, g3, g6, ?_, ?_, ?_, ?_⟩
  · rw [E, days_eq' hday, mons_eq' hmon]
    simp only [Str.append_assoc]
  · rw [g4]; exact i.1
  · rw [g4]; omega
  · rw [g5]; exact i.2
  · rw [g5]; omega
theorem C_line {w : World} {news : List (Addr × Obj)} {T : Addr} {n : Nat} {c P Q : Int} {S1 S2 : Str} {t1 t2 t3 t4 t5 t6 t7 tk : Tok} (hP : Pair P Q S1 S2) (hc0 : 0 ≤ c) (hc1 : c < 1000000)
   (hT : (T, ({ cls := .type "tuple", data := .seq #[.int (P * Q) t1, .int ((Int.fdiv c 7).fmod 12 + 1) t2, .int (1 + (Int.fdiv c 84).fmod 28) t3, .int ((Int.fdiv c 2352).fmod 24) t4, .int P t5, .int Q t6, .int (Int.fmod c 7) t7] n } : Obj)) ∈ news) :
   Con w 38 [.ref T, .str ([Str.ofString "-0000", Str.ofString "GMT"].getD ((Int.fdiv c 56448).fmod 2).toNat Str.empty) tk] 1 news (fun v nw => (∃ x t, v = .str x t ∧ LineOf c P Q x) ∧ nw = news) := by
  obtain ⟨hf1, hf2, hf3, hf4, hf5, hf6⟩ := hP.facts
  have hday := fmr c (m := 7) (by decide)
  have hmon := fmr (Int.fdiv c 7) (m := 12) (by decide)
  have hdat := fmr (Int.fdiv c 84) (m := 28) (by decide)
  have hhou := fmr (Int.fdiv c 2352) (m := 24) (by decide)
  have pl : ∀ {n : Int}, 0 ≤ n → n < 100 → (padS 2 n).length ≤ 10 := fun h0 h1 => by rw [pad2 h0 h1]; exact Nat.le_trans (two_le h0 h1) (by decide)
  exact (C_fmt hT (by omega) (by omega) (by omega) (by omega) (by omega) (by omega) (by omega) (by omega) (by omega) (by omega) (by omega) (by omega) (by omega) (by omega) (Nat.le_trans (lens c).1 (by decide)) (pl (by omega) (by omega)) hP.year.2 (pl (by omega) (by omega)) (pl (by omega) (by omega)) (pl (by omega) (by omega))).mono
    fun v nw ⟨⟨t, e⟩, e2⟩ => ⟨⟨_, t, e, lineOf hP hc0 hc1⟩, e2⟩
end
end
section
theorem C_two2 {w : World} {news : List (Addr × Obj)} {n : Int} {tk : Tok} (h0 : 0 ≤ n) (h1 : n < 100) :
   Con w 95 [.int n tk] 1 news (fun v nw => ((∃ t, v = .str (two n) t) ∧ (two n).length ≤ 2) ∧ nw = news) :=
  (C_two h0 h1).mono fun _ _ ⟨e1, e2⟩ => ⟨⟨e1, two_le h0 h1⟩, e2⟩
end
section
section
open Builtin Builtin.Str StrLaws
theorem occ_skip {s sub : Str} {hi limit : Nat} : ∀ (l r : List Nat) (st : Array Nat × Nat), (∀ i ∈ l, ¬ (i + sub.length ≤ hi ∧ subAt s sub i = true)) →
    (forIn (m := Id) (l ++ r) st (occBody s sub hi limit)) = forIn r st (occBody s sub hi limit)
  | [], r, st, _ => rfl
  | a :: l, r, st, h => by
    rw [List.cons_append, List.forIn_cons]
    have e : occBody s sub hi limit a st = pure (ForInStep.yield st) := by
      unfold occBody
      rw [if_neg (fun x => h a (List.mem_cons_self ..) ⟨x.1.2, x.2⟩)]
    rw [e]
    exact occ_skip l r st (fun i hm => h i (List.mem_cons_of_mem _ hm))
theorem occ_hit {s sub : Str} {hi limit i free : Nat} {f : Array Nat} {r : List Nat} (h1 : f.size < limit) (h2 : free ≤ i) (h3 : i + sub.length ≤ hi) (h4 : subAt s sub i = true) :
    (forIn (m := Id) (i :: r) (f, free) (occBody s sub hi limit)) = forIn r (f.push i, i + sub.length) (occBody s sub hi limit) := by
  rw [List.forIn_cons]
  have e : occBody s sub hi limit i (f, free) = pure (ForInStep.yield (f.push i, i + sub.length)) := by
    unfold occBody
    rw [if_pos ⟨⟨⟨h1, h2⟩, h3⟩, h4⟩]
  rw [e]
  rfl
theorem ext_mid (X M Y : Array Nat) : (X ++ (M ++ Y)).extract X.size (X.size + M.size) = M := by
  apply Array.ext'
  simp
theorem at13 {s : Str} {i : Nat} (h : subAt s ⟨crlfA⟩ i = true) : s.cps.getD i 0 = 13 := by
  have h : s.cps.extract i (i + 2) = #[13, 10] := eq_of_beq h
  have e : (s.cps.extract i (i + 2))[0]? = some 13 := by rw [h]; rfl
  rw [Array.getElem?_extract] at e
  split at e
  · rw [Array.getD_eq_getD_getElem?, show s.cps[i]? = some 13 from e]; rfl
  · cases e
theorem kind_pos (x : Str) : 1 ≤ Builtin.Str.strKind x := by
  unfold Builtin.Str.strKind
  split
  · decide
  · split <;> decide
theorem getD_app_l {a b : Array Nat} {i : Nat} (h : i < a.size) : (a ++ b).getD i 0 = a.getD i 0 := by
  rw [Array.getD_eq_getD_getElem?, Array.getD_eq_getD_getElem?, Array.getElem?_append_left h]
theorem getD_app_r {a b : Array Nat} {i : Nat} (h : a.size ≤ i) : (a ++ b).getD i 0 = b.getD (i - a.size) 0 := by
  rw [Array.getD_eq_getD_getElem?, Array.getD_eq_getD_getElem?, Array.getElem?_append_right h]
theorem split_crlf {A M : Array Nat} (hA : clean A) (hM : clean M) : Txt.split ⟨A ++ (crlfA ++ (M ++ crlfA))⟩ ⟨crlfA⟩ = [⟨A⟩, ⟨M⟩, ⟨#[]⟩] := by
  have hs : crlfA.size = 2 := rfl
  have hl : (⟨A ++ (crlfA ++ (M ++ crlfA))⟩ : Str).length = A.size + (2 + (M.size + 2)) := by
    show (A ++ (crlfA ++ (M ++ crlfA))).size = _
    rw [Array.size_append, Array.size_append, Array.size_append, hs]
  have hl2 : (⟨crlfA⟩ : Str).length = 2 := rfl
  have ho : occurrences ⟨A ++ (crlfA ++ (M ++ crlfA))⟩ ⟨crlfA⟩ 0 (⟨A ++ (crlfA ++ (M ++ crlfA))⟩ : Str).length ((⟨A ++ (crlfA ++ (M ++ crlfA))⟩ : Str).length + 1) = [A.size, A.size + (2 + M.size)] := by
    rw [occ_eq, hl]
    have er : List.range' 0 (A.size + (2 + (M.size + 2)) + 1 - 0) = List.range' 0 A.size ++ (A.size :: (List.range' (A.size + 1) (1 + M.size) ++ ((A.size + (2 + M.size)) :: (List.range' (A.size + (2 + M.size) + 1) 2 ++ [])))) := by
      rw [List.append_nil, show A.size + (2 + (M.size + 2)) + 1 - 0 = A.size + ((1 + M.size) + (2 + 1) + 1) by omega, ← List.range'_append (s := 0) (m := A.size) (step := 1), Nat.zero_add, Nat.one_mul]
      rw [List.range'_succ, ← List.range'_append (s := A.size + 1) (m := 1 + M.size) (step := 1), Nat.one_mul, List.range'_succ]
      rw [show A.size + 1 + (1 + M.size) = A.size + (2 + M.size) by omega]
    rw [er]
    have no : ∀ i, i ≠ A.size → i ≠ A.size + (2 + M.size) → (A ++ (crlfA ++ (M ++ crlfA))).getD i 0 ≠ 13 := by
      intro i h1 h2
      by_cases a : i < A.size
      · rw [getD_app_l a]; exact (hA i a).2
      · rw [getD_app_r (by omega)]
        by_cases b : i - A.size < 2
        · rw [getD_app_l (by rw [hs]; exact b), show i - A.size = 1 by omega]; decide
        · rw [getD_app_r (by rw [hs]; omega), hs]
          by_cases c : i - A.size - 2 < M.size
          · rw [getD_app_l c]; exact (hM _ c).2
          · rw [getD_app_r (by omega)]
            by_cases d : i - A.size - 2 - M.size = 1
            · rw [d]; decide
            · rw [Array.getD, dif_neg (by rw [hs]; omega)]; decide
    rw [occ_skip _ _ _ (fun i hi h => by
      have := List.mem_range'_1.mp hi
      exact no i (by omega) (by omega) (at13 h.2))]
    rw [occ_hit (by simp <;> omega) (by omega) (by rw [hl2]; omega) (by
      show (_ == _) = true
      rw [beq_iff_eq]
      exact ext_mid A crlfA (M ++ crlfA))]
    rw [occ_skip _ _ _ (fun i hi h => by
      have := List.mem_range'_1.mp hi
      exact no i (by omega) (by omega) (at13 h.2))]
    rw [occ_hit (by simp <;> omega) (by rw [hl2]; omega) (by rw [hl2]; omega) (by
      show (_ == _) = true
      rw [beq_iff_eq]
      have := ext_mid (A ++ (crlfA ++ M)) crlfA #[]
      rw [Array.size_append, Array.size_append, hs, Array.append_empty] at this
      show (A ++ (crlfA ++ (M ++ crlfA))).extract _ _ = crlfA
      rw [show A ++ (crlfA ++ (M ++ crlfA)) = (A ++ (crlfA ++ M)) ++ crlfA by simp only [Array.append_assoc]]
      exact this)]
    rw [occ_skip _ _ _ (fun i hi h => by
      have := List.mem_range'_1.mp hi
      exact no i (by omega) (by omega) (at13 h.2))]
    rfl
  unfold Txt.split
  rw [if_neg (by
    rw [Bool.or_eq_true, decide_eq_true_iff, decide_eq_true_iff, hl, hl2]
    intro h
    rcases h with h | h
    · omega
    · have a : Builtin.Str.strKind ⟨crlfA⟩ = 1 := by decide +kernel
      have b := kind_pos ⟨A ++ (crlfA ++ (M ++ crlfA))⟩
      omega), ho, if_neg (by simp)]
  have p1 : strSub ⟨A ++ (crlfA ++ (M ++ crlfA))⟩ 0 A.size = ⟨A⟩ := by
    have := ext_mid #[] A (crlfA ++ (M ++ crlfA))
    rw [Array.empty_append] at this
    show (⟨_⟩ : Str) = _
    congr 1
    simp
  have p2 : strSub ⟨A ++ (crlfA ++ (M ++ crlfA))⟩ (A.size + 2) (A.size + (2 + M.size)) = ⟨M⟩ := by
    have := ext_mid (A ++ crlfA) M crlfA
    rw [Array.size_append, hs, Array.append_assoc, Nat.add_assoc] at this
    show (⟨_⟩ : Str) = _
    congr 1
  have p3 : strSub ⟨A ++ (crlfA ++ (M ++ crlfA))⟩ (A.size + (2 + M.size) + 2) (⟨A ++ (crlfA ++ (M ++ crlfA))⟩ : Str).length = ⟨#[]⟩ := by
    rw [hl]
    show (⟨_⟩ : Str) = _
    congr 1
    apply Array.eq_empty_of_size_eq_zero
    rw [Array.size_extract]
    omega
  show [strSub _ _ _, strSub _ _ _, strSub _ _ _] = _
  rw [p1, hl2, p2, p3]
end
end
section
section
open Builtin Builtin.Str
abbrev dotT (k : Int) : Str := Txt.mul (Str.ofString ".") k
abbrev signT (S1 S2 : Str) : Str := S1 ++ Str.ofString " " ++ S2
def dblT (k : Int) : Str := if dotT k = Str.empty then Str.empty else Str.ofString "." ++ dotT k
/-- all that is asked of the middle row, for k dots and the signs i, j -/
def midOk (k : Int) (S1 S2 : Str) : Bool :=
  okA (dotT k ++ signT S1 S2).cps && (decide (0 < (dotT k ++ signT S1 S2).cps.size) && (decide ((dotT k ++ signT S1 S2).cps.size ≤ 10) &&
  (okA (dblT k ++ signT S1 S2).cps && (((if (dotT k ++ signT S1 S2).cps.getD 0 0 = 46 then #[46] else #[]) ++ (dotT k ++ signT S1 S2).cps == (dblT k ++ signT S1 S2).cps) &&
  ((Txt.lstripChars (dblT k ++ signT S1 S2) (Str.ofString ".") == signT S1 S2) && ((Txt.split (signT S1 S2) (Str.ofString " ") == [S1, S2]) &&
  (decide ((dblT k ++ signT S1 S2).length ≤ 10) && decide ((signT S1 S2).length ≤ 5))))))))
theorem mid_all : ∀ k : Fin 3, ∀ i : Fin 6, ∀ j : Fin 6, midOk (k.val : Int) (sgsL.getD i.val Str.empty) (sgsL.getD j.val Str.empty) = true := by decide +kernel
theorem Pair.mid {P Q : Int} {S1 S2 : Str} (h : Pair P Q S1 S2) {k : Int} (hk : 0 ≤ k ∧ k < 3) : midOk k S1 S2 = true := by
  obtain ⟨i, j, hi, hj, hij, _, _, rfl, rfl⟩ := h
  have := mid_all ⟨k.toNat, by omega⟩ ⟨i, hi⟩ ⟨j, hj⟩
  simpa only [Int.toNat_of_nonneg hk.1] using this
theorem end_cases : ∀ k : Fin 3, ([Str.ofString "\n", Str.ofString "\r", Str.ofString "\r\n"].getD k.val Str.empty).cps = #[10] ∨ ([Str.ofString "\n", Str.ofString "\r", Str.ofString "\r\n"].getD k.val Str.empty).cps = #[13] ∨ ([Str.ofString "\n", Str.ofString "\r", Str.ofString "\r\n"].getD k.val Str.empty).cps = #[13, 10] := by decide +kernel
/-- what the law knows of the mail as sent -/
structure SentOf (c : Int) (S1 S2 x y : Str) : Prop where
  eq : y = x ++ Str.ofString "\r\n" ++ dblT ((Int.fdiv c 112896).fmod 3) ++ (S1 ++ Str.ofString " " ++ S2) ++ Str.ofString "\r\n"
  sp : Txt.split y (Str.ofString "\r\n") = [x, dblT ((Int.fdiv c 112896).fmod 3) ++ (S1 ++ Str.ofString " " ++ S2), Str.empty]
  ls : Txt.lstripChars (dblT ((Int.fdiv c 112896).fmod 3) ++ (S1 ++ Str.ofString " " ++ S2)) (Str.ofString ".") = S1 ++ Str.ofString " " ++ S2
  sp2 : Txt.split (S1 ++ Str.ofString " " ++ S2) (Str.ofString " ") = [S1, S2]
  len : y.length ≤ 60
  lenM : (dblT ((Int.fdiv c 112896).fmod 3) ++ (S1 ++ Str.ofString " " ++ S2)).length ≤ 10
  lenS : (S1 ++ Str.ofString " " ++ S2).length ≤ 5
theorem crlf_cps : (Str.ofString "\r\n").cps = crlfA := by decide +kernel
theorem C_sent {w : World} {news : List (Addr × Obj)} {c P Q : Int} {S1 S2 x : Str} {tk : Tok} (hP : Pair P Q S1 S2) (hc0 : 0 ≤ c) (hc1 : c < 1000000) (hL : LineOf c P Q x) :
   Con w 73 [.str (x ++ ([Str.ofString "\n", Str.ofString "\r", Str.ofString "\r\n"].getD (Int.fdiv c 338688).toNat Str.empty) ++ (Txt.mul (Str.ofString ".") ((Int.fdiv c 112896).fmod 3)) ++ (S1 ++ Str.ofString " " ++ S2) ++ ([Str.ofString "\n", Str.ofString "\r", Str.ofString "\r\n"].getD (Int.fdiv c 338688).toNat Str.empty)) tk] 1 news (fun v nw => (∃ y t, v = .str y t ∧ SentOf c S1 S2 x y) ∧ nw = news) := by
  have hm := hP.mid (k := (Int.fdiv c 112896).fmod 3) (fmr _ (by decide))
  have hend := fdr (a := c) (m := 338688) (k := 3) (by decide) (by omega) (by omega)
  have he := end_cases ⟨(Int.fdiv c 338688).toNat, by omega⟩
  unfold midOk at hm
  simp only [Bool.and_eq_true, decide_eq_true_iff, beq_iff_eq] at hm
  obtain ⟨m1, m2, m3, m4, m5, m6, m7, m8, m9⟩ := hm
  have hxl := hL.len
  have hxs : x.cps.size ≤ 31 := hL.len
  refine (C_quote (A := x.cps) (B := (dotT ((Int.fdiv c 112896).fmod 3) ++ signT S1 S2).cps) (e := (([Str.ofString "\n", Str.ofString "\r", Str.ofString "\r\n"].getD (Int.fdiv c 338688).toNat Str.empty)).cps) ?_ (okA_clean hL.ok) (okA_clean m1) hL.pos m2 hL.h46 he (by omega)).mono ?_
  · simp only [Str.cps_append, Array.append_assoc]
  · rintro v nw ⟨⟨t, e1⟩, e2⟩
    have ey : (⟨x.cps ++ (crlfA ++ ((if (dotT ((Int.fdiv c 112896).fmod 3) ++ signT S1 S2).cps.getD 0 0 = 46 then #[46] else #[]) ++ ((dotT ((Int.fdiv c 112896).fmod 3) ++ signT S1 S2).cps ++ crlfA)))⟩ : Str) = ⟨x.cps ++ (crlfA ++ ((dblT ((Int.fdiv c 112896).fmod 3) ++ signT S1 S2).cps ++ crlfA))⟩ := by
      rw [← m5, Array.append_assoc]
    rw [ey] at e1
    refine ⟨⟨_, t, e1, ?_, ?_, m6, m7, ?_, m8, m9⟩, e2⟩
    · apply Str.ext'
      simp only [Str.cps_append, crlf_cps, Array.append_assoc]
    · rw [show Str.ofString "\r\n" = ⟨crlfA⟩ from Str.ext' crlf_cps, split_crlf (okA_clean hL.ok) (okA_clean m4)]
      rfl
    · show (x.cps ++ (crlfA ++ ((dblT ((Int.fdiv c 112896).fmod 3) ++ signT S1 S2).cps ++ crlfA))).size ≤ 60
      have h8 : (dblT ((Int.fdiv c 112896).fmod 3) ++ signT S1 S2).cps.size ≤ 10 := m8
      have hc : crlfA.size = 2 := rfl
      rw [Array.size_append, Array.size_append, Array.size_append]
      omega
end
theorem sgs_len : ∀ i : Fin 6, (sgsL.getD i.val Str.empty).length ≤ 2 := by decide +kernel
theorem Pair.slen {P Q : Int} {S1 S2 : Str} (h : Pair P Q S1 S2) : (S1 ++ Str.ofString " " ++ S2).length ≤ 5 ∧ S1.length ≤ 2 ∧ S2.length ≤ 2 := by
  obtain ⟨i, j, hi, hj, hij, _, _, rfl, rfl⟩ := h
  have a := sgs_len ⟨i, hi⟩
  have b := sgs_len ⟨j, hj⟩
  have c : (Str.ofString " ").length = 1 := by decide +kernel
  refine ⟨?_, a, b⟩
  rw [Str.length_append, Str.length_append, c]
  simp only at a b
  omega
end
section
/-- the rows of a dict of the base with texts as keys and ints as values -/
def readD (o : Option Obj) : List (Str × KTD.Dat) :=
  match o with
  | some o => match o.data with
    | .dict es _ => es.toList.filterMap fun e => match e.key, e.val with
      | .str x _, .int n _ => some (x, .flat (.int n))
      | _, _ => none
    | _ => []
  | none => []
noncomputable def tokD (w : World) : List (Str × KTD.Dat) := readD ((Mine.hd.heap_1_39 w.params).lookup 74)
theorem eachL_at {h : Heap} {k : Str} {P : Value → Prop} {n : Int} (hP : ∀ t, P (.int n t)) : ∀ D : List (Str × KTD.Dat), KTD.datumAt k D = some (.flat (.int n)) → KTD.EachL h k P D
  | [], e => by cases e
  | [(x, d)], e => fun hx => by
    have : KTD.datumAt k [(x, d)] = some d := by
      show (if decide (k = x) = true then some d else _) = _
      rw [if_pos (decide_eq_true hx)]
    rw [this] at e
    injection e with e
    subst e
    exact hP
  | (x, d) :: b :: D, e => by
    show if decide (k = x) = true then KTD.Opened h P d else KTD.EachL h k P (b :: D)
    by_cases hx : k = x
    · rw [if_pos (decide_eq_true hx)]
      have : KTD.datumAt k ((x, d) :: b :: D) = some d := by
        show (if decide (k = x) = true then some d else _) = _
        rw [if_pos (decide_eq_true hx)]
      rw [this] at e
      injection e with e
      subst e
      exact hP
    · rw [if_neg (by simp [hx])]
      have : KTD.datumAt k ((x, d) :: b :: D) = KTD.datumAt k (b :: D) := by
        show (if decide (k = x) = true then some d else _) = _
        rw [if_neg (by simp [hx])]
      rw [this] at e
      exact eachL_at hP (b :: D) e
theorem tok_at (w : World) : ∀ i < 6, KTD.datumAt (sgsL.getD i Str.empty) (tokD w) = some (.flat (.int (prsL.getD i 0))) := by
  intro i hi
  match i, hi with
  | 0, _ => kernel_rfl
  | 1, _ => kernel_rfl
  | 2, _ => kernel_rfl
  | 3, _ => kernel_rfl
  | 4, _ => kernel_rfl
  | 5, _ => kernel_rfl
theorem tok_tab {w : World} {h : Heap} (X : (Mine.hd.heap_1_39 w.params).In h) : KTD.TextTab h 74 (tokD w) := kt_text_in X (by kernel_rfl)
theorem tok_plain (w : World) : ((tokD w).all fun p => KTD.plain p.2) = true := by kernel_rfl
section
variable {prog : Program} {w : World} {A : Around} {E : Value → Shared → Prop} {s : Shared} {h₀ : Heap} {L : Addr} {m : Str → Option Value} {Q : Value → Shared → Prop} {value slice : PySem.Expr} {tk : Tok} {x : Str} {n : Int}
/-- a sign is that number's, by the table -/
def Sign (x : Str) (n : Int) : Prop := ∃ i < 6, x = sgsL.getD i Str.empty ∧ n = prsL.getD i 0
theorem m_tok (X : (Mine.hd.heap_1_39 w.params).In h₀) (F : Fr h₀ L s.heap m) (hx : Sign x n)
    (hs : subscripted slice false (.ref 74) (.str x tk) = operate [.ref 74, .str x tk] (getItem (.ref 74) (.str x tk)))
    (h : ∀ t, Q (.int n t) { s with toks := s.toks + 1 }) : wpAny (model prog w) A (subscriptTail value slice (.ref 74) (.str x tk)) Q E s := by
  obtain ⟨i, hi, rfl, rfl⟩ := hx
  have e := tok_at w i hi
  exact KTD.item_textA ⟨tok_tab X, F.keep⟩ (tok_plain w) (by rw [← KTD.isSome_datumAt, e]; rfl) (eachL_at h _ e) hs
theorem Pair.signs {P Q : Int} {S1 S2 : Str} (h : Pair P Q S1 S2) : Sign S1 P ∧ Sign S2 Q := by
  obtain ⟨i, j, hi, hj, hij, rfl, rfl, rfl, rfl⟩ := h
  exact ⟨⟨i, hi, rfl, rfl⟩, ⟨j, hj, rfl, rfl⟩⟩
end
end
section
theorem dots_ne {k : Int} : (Txt.mul (Str.ofString ".") k != Str.ofString "") = true → dblT k = Str.ofString "." ++ Txt.mul (Str.ofString ".") k := by
  intro h
  have h := bne_iff_ne.mp h
  exact if_neg h
theorem dots_eq {k : Int} : (Txt.mul (Str.ofString ".") k != Str.ofString "") = false → dblT k = Str.ofString "" := by
  intro h
  rw [bne_eq_false_iff_eq] at h
  exact if_pos h
theorem sent_pos {c P Q : Int} {S1 S2 x y : Str} (hL : LineOf c P Q x) (hS : SentOf c S1 S2 x y) (h : ((Txt.mul (Str.ofString ".") ((Int.fdiv c 112896).fmod 3)) != Str.ofString "") = true) :
    y = ((Txt.slice (Str.ofString "MonTueWedThuFriSatSun") (some (3 * Int.fmod c 7)) (some (3 * Int.fmod c 7 + 3))) ++ Str.ofString ", " ++ two (1 + (Int.fdiv c 84).fmod 28) ++ Str.ofString " ") ++ ((Txt.slice (Str.ofString "JanFebMarAprMayJunJulAugSepOctNovDec") (some (3 * (Int.fdiv c 7).fmod 12)) (some (3 * (Int.fdiv c 7).fmod 12 + 3))) ++ Str.ofString " " ++ two (Int.fdiv (P * Q) 100)) ++ (two (Int.fmod (P * Q) 100) ++ Str.ofString " " ++ two ((Int.fdiv c 2352).fmod 24) ++ Str.ofString ":" ++ two P ++ Str.ofString ":" ++ two Q ++ Str.ofString " " ++ ([Str.ofString "-0000", Str.ofString "GMT"].getD ((Int.fdiv c 56448).fmod 2).toNat Str.empty)) ++ Str.ofString "\r\n" ++ (Str.ofString "." ++ (Txt.mul (Str.ofString ".") ((Int.fdiv c 112896).fmod 3))) ++ (S1 ++ Str.ofString " " ++ S2) ++ Str.ofString "\r\n" := by
  rw [← dots_ne h, ← hL.eq, ← hS.eq]
theorem sent_neg {c P Q : Int} {S1 S2 x y : Str} (hL : LineOf c P Q x) (hS : SentOf c S1 S2 x y) (h : ((Txt.mul (Str.ofString ".") ((Int.fdiv c 112896).fmod 3)) != Str.ofString "") = false) :
    y = ((Txt.slice (Str.ofString "MonTueWedThuFriSatSun") (some (3 * Int.fmod c 7)) (some (3 * Int.fmod c 7 + 3))) ++ Str.ofString ", " ++ two (1 + (Int.fdiv c 84).fmod 28) ++ Str.ofString " ") ++ ((Txt.slice (Str.ofString "JanFebMarAprMayJunJulAugSepOctNovDec") (some (3 * (Int.fdiv c 7).fmod 12)) (some (3 * (Int.fdiv c 7).fmod 12 + 3))) ++ Str.ofString " " ++ two (Int.fdiv (P * Q) 100)) ++ (two (Int.fmod (P * Q) 100) ++ Str.ofString " " ++ two ((Int.fdiv c 2352).fmod 24) ++ Str.ofString ":" ++ two P ++ Str.ofString ":" ++ two Q ++ Str.ofString " " ++ ([Str.ofString "-0000", Str.ofString "GMT"].getD ((Int.fdiv c 56448).fmod 2).toNat Str.empty)) ++ Str.ofString "\r\n" ++ Str.ofString "" ++ (S1 ++ Str.ofString " " ++ S2) ++ Str.ofString "\r\n" := by
  rw [← dots_eq h, ← hL.eq, ← hS.eq]
section
variable {prog : Program} {w : World} {A : Around} {E : Value → Shared → Prop} {s : Shared} {h₀ : Heap} {L : Addr} {m : Str → Option Value} {news : List (Addr × Obj)} {Q : Value → Shared → Prop} {x y a b c : Str} {t u : Tok}
theorem m_ne (e : x = y) (h : Q (.bool false) s) : wpAny (model prog w) A (compareOp .NotEq (.str x t) (.str y u)) Q E s :=
  P.ne_str (by rw [e, show (y.cps.toList != y.cps.toList) = false from bne_self_eq_false _]; exact h)
theorem m_split3 (F : Fr h₀ L s.heap m) (N : News h₀ L s.heap news) (hs : Txt.split x y = [a, b, c]) (hy : (y.length == 0) = false) (hz : x.length + 2 ≤ sizeLine)
    (h : ∀ D t1 t2 t3 h' k, Fr h₀ L h' m → News h₀ L h' [(D, PySem.W.listOf #[.str a t1, .str b t2, .str c t3] 0)] → Q (.ref D) { s with heap := h', toks := k }) :
    wpAny (model prog w) A (call (.builtin "str.split") [.str x t, .str y u]) Q E s :=
  KSpl.split1 F N hy (fun D l h' k e _ F' N' l1 => by
    rw [hs] at e
    obtain ⟨t1, r1, q1, e1⟩ := KSpl.cons_of e
    obtain ⟨t2, r2, q2, e2⟩ := KSpl.cons_of e1
    obtain ⟨t3, r3, q3, e3⟩ := KSpl.cons_of e2
    have q4 := KSpl.nil_of e3
    subst q4; subst q3; subst q2; subst q1
    exact h D t1 t2 t3 h' k F' (fun p hp => N' p (by cases hp with | head => exact .head _ | tail _ h => cases h))) hz
theorem m_split2 (F : Fr h₀ L s.heap m) (N : News h₀ L s.heap news) (hs : Txt.split x y = [a, b]) (hy : (y.length == 0) = false) (hz : x.length + 2 ≤ sizeLine)
    (h : ∀ D t1 t2 h' k, Fr h₀ L h' m → News h₀ L h' ((D, PySem.W.listOf #[.str a t1, .str b t2] 0) :: news) → (∀ p ∈ news, p.1 < D) → Q (.ref D) { s with heap := h', toks := k }) :
    wpAny (model prog w) A (call (.builtin "str.split") [.str x t, .str y u]) Q E s :=
  KSpl.split1 F N hy (fun D l h' k e _ F' N' l1 => by
    rw [hs] at e
    obtain ⟨t1, r1, q1, e1⟩ := KSpl.cons_of e
    obtain ⟨t2, r2, q2, e2⟩ := KSpl.cons_of e1
    have q4 := KSpl.nil_of e2
    subst q4; subst q2; subst q1
    exact h D t1 t2 h' k F' N' l1) hz
end
theorem fit_small {n k : Nat} (h : n ≤ k) (hk : k ≤ 100) : n + 2 ≤ sizeLine := by
  have : sizeLine = 16777216 := sizeLine_eq
  omega
theorem fit_small0 {n k : Nat} (h : n ≤ k) (hk : k ≤ 100) : n ≤ sizeLine := by
  have : sizeLine = 16777216 := sizeLine_eq
  omega
end
section
theorem C_tells2 {w : World} {P Q : Int} {S1 S2 : Str} {tk tk2 : Tok} (hP : Pair P Q S1 S2) : Con w 131 [.int P tk, .int Q tk2] 5 [] (fun v nw => v = .bool true ∧ nw = []) := by
  obtain ⟨ro, rp, rq, H⟩ := okB_asks hP.ok
  exact C_tells H
end
section
theorem top : PySem.Challenge.rw_to0021_01.Holds := by
  k_with_none
  k_with "m_bind" => first | exact BindsTo.of_eq rfl | exact binds_K (by k_in) rfl (by k_is) rfl rfl rfl
  k_with "m_in" => (k_here; k_dflt (refine wpAny_call ?_; first | (refine' code_def ?k1Zq ?k2Zq ?k3Zq ?k4Zq ?k5Zq ?kAZq ?kFZq ?kKZq ?k6Zq ?k7Zq ?k8Zq ?k9Zq ?kBZq ?_ ?c2Zq ?c3Zq ?c4Zq ?c5Zq; (case kAZq => exact rfl); (case kFZq => exact rfl); (case kKZq => first | exact rfl | assumption); (case k1Zq => k_asm); (case k2Zq => k_asm); (case k3Zq => k_asm); (case k4Zq => k_asm); (case k5Zq => k_asm); (case k6Zq => k_is); (case k7Zq => k_is); (case k8Zq => ktr_room); (case k9Zq => walk_at "m_bind"); (case c5Zq => decide); (case kBZq => exact locs rfl); (case c2Zq => exact rfl); (case c3Zq => exact rfl); (case c4Zq => exact rfl); k_whole; intro g' L' h' FG' F' N' B' X' T'; (try dsimp only); (try k_lift B'); (try k_fold)) | (refine' code_defC ?k1Zq ?k2Zq ?k3Zq ?k4Zq ?k5Zq ?kAZq ?kFZq ?kKZq ?k6Zq ?k7Zq ?k8Zq ?k9Zq ?kBZq ?kDZq ?_ ?c2Zq ?c3Zq ?c4Zq; (case kAZq => exact rfl); (case kFZq => exact rfl); (case kKZq => first | exact rfl | assumption); (case k1Zq => k_asm); (case k2Zq => k_asm); (case k3Zq => k_asm); (case k4Zq => k_asm); (case k5Zq => k_asm); (case k6Zq => k_is); (case k7Zq => k_is); (case k8Zq => ktr_room); (case k9Zq => walk_at "m_bind"); (case kBZq => exact rfl); (case kDZq => decide +kernel); (case c2Zq => exact rfl); (case c3Zq => exact rfl); (case c4Zq => exact rfl); k_whole; intro g' L' h' tk' cells' FG' F' N' Y' B' X' T' l1; (try k_lt l1); k_cells Y'; (try simp only [List.cons_append, List.nil_append] at N'); (try dsimp only); (try k_lift B'); (try k_fold)) | fail "m_in: not entered"))
  k_with "m_pre!" => first | assumption | k_mem | l_ints | omega | k_extra "m_pre" | decide
  k_with "m_end" => (refine con_ret ?aZq ?bZq ?cZq ?dZq; (case aZq => assumption); (case bZq => assumption); (case cZq => assumption))
  k_with "call ref!" => walk_at "m_in"
  k_with "m_sub" => kcf_all
  k_with "exec While Compare cons nil!" => k_extra "m_while"
  k_with "exec While Call cons nil!" => k_extra "m_while"
  k_with "CompSrcT!" => k_extra "m_compT"
  k_with "m_pre!" => first | assumption | omega | news_mem
  k_with "call ref!" => (k_here; k_dflt (refine' Con.use (C_sent ?h1Zq ?h2Zq ?h3Zq ?h4Zq) ?k1Zq ?k2Zq ?k3Zq ?k4Zq ?k5Zq ?kKZq ?kdZq ?kuZq ?_; (case k1Zq => k_asm); (case k2Zq => k_asm); (case k3Zq => k_asm); (case k4Zq => k_asm); (case k5Zq => k_asm); (case kKZq => first | exact rfl | assumption); (case h1Zq => walk_at "m_pre"); (case h2Zq => walk_at "m_pre"); (case h3Zq => walk_at "m_pre"); (case h4Zq => walk_at "m_pre"); (case kdZq => ktr_room); (case kuZq => ktr_units)); intro v9 nw9 h9 tk9 hR F9 N9; (obtain ⟨⟨y9, t9, e1, hS9⟩, e2⟩ := hR); subst v9; subst nw9; (have hsl9 := hS9.len); (try dsimp only); (try k_fold))
  k_with "call ref!" => (k_here; k_dflt (refine' Con.use (C_line ?h1Zq ?h2Zq ?h3Zq ?h4Zq) ?k1Zq ?k2Zq ?k3Zq ?k4Zq ?k5Zq ?kKZq ?kdZq ?kuZq ?_; (case k1Zq => k_asm); (case k2Zq => k_asm); (case k3Zq => k_asm); (case k4Zq => k_asm); (case k5Zq => k_asm); (case kKZq => first | exact rfl | assumption); (case h1Zq => walk_at "m_pre"); (case h2Zq => walk_at "m_pre"); (case h3Zq => walk_at "m_pre"); (case h4Zq => walk_at "m_pre"); (case kdZq => ktr_room); (case kuZq => ktr_units)); intro v9 nw9 h9 tk9 hR F9 N9; (obtain ⟨⟨x9, t9, e1, hL9⟩, e2⟩ := hR); subst v9; subst nw9; (have hll9 := hL9.len); (try dsimp only); (try k_fold))
  k_with "call ref!" => (k_here; k_dflt (refine' Con.use (C_two2 ?h1Zq ?h2Zq) ?k1Zq ?k2Zq ?k3Zq ?k4Zq ?k5Zq ?kKZq ?kdZq ?kuZq ?_; (case k1Zq => k_asm); (case k2Zq => k_asm); (case k3Zq => k_asm); (case k4Zq => k_asm); (case k5Zq => k_asm); (case kKZq => first | exact rfl | assumption); (case h1Zq => walk_at "m_pre"); (case h2Zq => walk_at "m_pre"); (case kdZq => ktr_room); (case kuZq => ktr_units)); intro v9 nw9 h9 tk9 hR F9 N9; (obtain ⟨⟨⟨t9, e1⟩, hl9⟩, e2⟩ := hR); subst v9; subst nw9; (try dsimp only); (try k_fold))
  k_with "call ref!" => (k_here; k_dflt (refine' ConL.use (C_drawn2 ?h1Zq ?h2Zq) ?k1Zq ?k2Zq ?k3Zq ?k4Zq ?k5Zq ?kKZq ?kdZq ?kuZq ?klZq ?_; (case k1Zq => k_asm); (case k2Zq => k_asm); (case k3Zq => k_asm); (case k4Zq => k_asm); (case k5Zq => k_asm); (case kKZq => first | exact rfl | assumption); (case klZq => assumption); (case h1Zq => assumption); (case h2Zq => first | assumption | omega); (case kdZq => ktr_room); (case kuZq => ktr_units)); intro v9 nw9 h9 tk9 hR F9 N9; (obtain ⟨P9, Q9, S1, S2, c9, l9, t1, t2, t3, t4, n9, hP9, hc0, hc1, e1, e2⟩ := hR); subst v9; subst nw9; (obtain ⟨hf1, hf2, hf3, hf4, hf5, hf6⟩ := hP9.facts); (have hday := fmr c9 (m := 7) (by decide)); (have hmon := fmr (Int.fdiv c9 7) (m := 12) (by decide)); (have hdat := fmr (Int.fdiv c9 84) (m := 28) (by decide)); (have hhou := fmr (Int.fdiv c9 2352) (m := 24) (by decide)); (have hzon := fmr (Int.fdiv c9 56448) (m := 2) (by decide)); (have hdot := fmr (Int.fdiv c9 112896) (m := 3) (by decide)); (have hend := fdr (a := c9) (m := 338688) (k := 3) (by decide) (by omega) (by omega)); (have hyr := fdr (a := P9 * Q9) (m := 100) (k := 100) (by decide) (by omega) (by omega)); (have hyr2 := fmr (P9 * Q9) (m := 100) (by decide)); (obtain ⟨hlz, hld, hle, hla, hlm⟩ := lens c9); (obtain ⟨hls, hls1, hls2⟩ := hP9.slen); (try dsimp only); (try k_fold))
  k_with "compareOp NotEq str str!" => (k_here; (with_reducible show wpAny _ _ (compareOp CmpOp.NotEq (Value.str _ _) (Value.str (_ ++ _) _)) _ _ _); k_dflt (refine' m_ne ?eZq ?_; (case eZq => first | with_reducible exact sent_pos (by assumption) (by assumption) (by assumption) | with_reducible exact sent_neg (by assumption) (by assumption) (by assumption))))
  k_with "call builtin:str.split!" => (k_here; k_dflt (first | (refine' m_split3 ?FZq ?NZq (SentOf.sp ?e1Zq) ?yZq ?zZq ?_; (case e1Zq => assumption); (case FZq => k_asm); (case NZq => k_asm); (case yZq => decide); (case zZq => exact fit_small (by assumption) (by decide))) | (refine' m_split2 ?FZq ?NZq (SentOf.sp2 ?e1Zq) ?yZq ?zZq ?_; (case e1Zq => assumption); (case FZq => k_asm); (case NZq => k_asm); (case yZq => decide); (case zZq => exact fit_small (by assumption) (by decide)))); intro D' t1' t2'; intros; (repeat (rename ((_ + _ : Nat) ≤ (_ : Nat) ∧ _) => z9; clear z9)); (try (rename (∀ p ∈ _, Prod.fst p < _) => z8; k_lt z8)); (try dsimp only); (try k_fold))
  k_with "call builtin:str.lstrip!" => (k_here; k_dflt (refine' KXw.lstripChars (SentOf.ls ?e1Zq) ?zZq ?_; (case e1Zq => assumption); (case zZq => exact fit_small0 (SentOf.lenM (by assumption)) (by decide))); intro _ _)
  k_with "subscriptTail Name Name ref str!" => (k_here; k_dflt (refine' m_tok ?XZq ?FZq ?SZq ?sZq ?_; (case FZq => k_asm); (case XZq => k_asm); (case SZq => first | exact (Pair.signs (by assumption)).1 | exact (Pair.signs (by assumption)).2); (case sZq => with_unfolding_all rfl)); intro t')
  k_with "call type:int!" => (k_here; (with_reducible show wpAny _ _ (call (Value.type "int") [Value.str (Txt.slice _ _ _) _]) _ _ _); k_dflt (refine' KIN.call_text ?hnZq ?hlZq ?_; (case hnZq => first | with_reducible exact LineOf.rp (by assumption) | with_reducible exact LineOf.rq (by assumption)); (case hlZq => first | with_reducible exact LineOf.rpl (by assumption) | with_reducible exact LineOf.rql (by assumption))))
  k_with "call ref!" => (k_here; k_dflt (refine' Con.use (C_tells2 ?h1Zq) ?k1Zq ?k2Zq ?k3Zq ?k4Zq ?k5Zq ?kKZq ?kdZq ?kuZq ?_; (case h1Zq => assumption); (case k1Zq => k_asm); (case k2Zq => k_asm); (case k3Zq => k_asm); (case k4Zq => exact fun _ h => nomatch h); (case k5Zq => k_asm); (case kKZq => first | exact rfl | assumption); (case kdZq => ktr_room); (case kuZq => ktr_units)); intro v9 nw9 h9 tk9 hR F9 N9; (obtain ⟨e1, e2⟩ := hR); subst v9; subst nw9; (try dsimp only); (try k_fold))
  refine Mine.hd.aux ⟨by w_strict (k_go0; (all_goals try k_fold); (all_goals (k_with "table" => skip)); k_steps)⟩
end
end Mine
theorem PySem.Challenge.cw_to0021_01_holds : PySem.Challenge.rw_to0021_01.Holds := by
  exact Mine.top
