import PyProof.Rows.All
import Wide.All
import OpenK.AllK
import Wide.FinOn
import PySem.Challenge.RW_ad5049_01
open PySem PySem.W PyProof.Rows
set_option Elab.async false
set_option maxRecDepth 100000
set_option maxHeartbeats 8000000

namespace Mine
open_top hd for PySem.Challenge.rw_ad5049_01
theorem fill : (PySem.Challenge.rw_ad5049_01 = PySem.Challenge.rw_ad5049_01) ∧ (hd.heap_39 = hd.heap_39) := by
  k_fill
  w_top off
  exact ⟨rfl, rfl⟩

section partEnc
open PySem.Builtin PySem.Builtin._codecs

/-- the octets of a text -/
def octets (x : Str) : Array UInt8 := x.cps.foldl (fun acc y => acc ++ (Str.utf8Of y).toArray) #[]
/-- no sign of the text is a lone half -/
def Clean (x : Str) : Prop := ∀ c ∈ x.cps, Str.isSurrogate c = false

theorem enc_narrow {M : Model} {A : Around} {E : Value → Shared → Prop} {s : Shared} {x : Str} {self : Value} {Q : Array UInt8 → Shared → Prop}
    (hx : Clean x) (hz : (octets x).size ≤ sizeLine) (h : Q (octets x) s) : wpAny M A (encodeNarrow "str.encode" utf8Codec none self x) Q E s := by
  unfold encodeNarrow
  simp only []
  rw [KPc.range_list]
  refine wpAny_bind ?_
  have e0 : x.length = x.cps.size := rfl
  rw [e0]
  have hfull : (Array.extract x.cps 0 x.cps.size) = x.cps := by simp
  have hnone : Array.findIdx? Str.isSurrogate x.cps = none := by
    rw [Array.findIdx?_eq_none_iff]
    intro c hc
    exact hx c hc
  generalize hn : x.cps.size = n
  cases n with
  | zero =>
    have he : x.cps = #[] := Array.eq_empty_of_size_eq_zero hn
    have ho : octets x = #[] := by unfold octets; rw [he]; rfl
    rw [ho] at h
    exact wpAny_pure (wpAny_pure h)
  | succ n =>
    rw [List.range'_succ]
    refine KPc.turn ?_
    refine wpAny_ite (KPc.ite_no (by decide) ?_)
    have h0 : x.cps[0]? = some (x.cps[0]'(by omega)) := by simp
    simp only [h0]
    have hb : utf8Codec.bad (x.cps[0]'(by omega)) = false := hx _ (Array.getElem_mem _)
    rw [hb]
    refine wpAny_ite (KPc.ite_yes rfl ?_)
    refine wpAny_pure ?_
    simp only []
    have hx2 : (Array.extract x.cps 0 (n + 1)) = x.cps := by rw [← hn]; simp
    have hnone2 : Array.findIdx? utf8Codec.bad x.cps = none := hnone
    rw [hx2, hnone2]
    have ho : (Array.foldl (fun acc y => acc ++ (utf8Codec.bytesOf y).toArray) #[] (Array.extract x.cps 0 ((none : Option Nat).getD x.cps.size))) = octets x := by
      show (Array.foldl (fun acc y => acc ++ (Str.utf8Of y).toArray) #[] (Array.extract x.cps 0 x.cps.size)) = octets x
      rw [hfull]; rfl
    rw [ho]
    have hi : (0 + (none : Option Nat).getD x.cps.size) = n + 1 := by show 0 + x.cps.size = n + 1; omega
    rw [hi]
    cases n with
    | zero => exact wpAny_pure (wpAny_pure h)
    | succ k =>
      rw [List.range'_succ]
      refine KPc.turn ?_
      refine wpAny_ite (KPc.ite_no (Nat.not_lt.mpr hz) ?_)
      have h1 : x.cps[k + 1 + 1]? = none := by rw [← hn]; simp
      simp only [h1]
      exact wpAny_pure (wpAny_pure h)

theorem codec_utf8 (u : Tok) : Str.codecArg "str.encode" "encode" "'encoding'" (some (.str (Str.ofString "utf-8") u)) = pure (some (Str.ofString "utf-8")) := by
  have h1 : ((Str.ofString "utf-8").cps.any fun x => decide (x ≥ 128)) = false := by decide +kernel
  have h2 : ((Str.ofString "utf-8").cps.contains 0) = false := by decide +kernel
  show (if ((Str.ofString "utf-8").cps.any fun x => decide (x ≥ 128)) = true then _ else
      if ((Str.ofString "utf-8").cps.contains 0) = true then _ else pure (some (Str.ofString "utf-8")) : Sem (Option Str)) = _
  rw [h1, h2]
  rfl

theorem encode_tree2 (x : Str) (t u : Tok) : «str.encode» ⟨[.str x t, .str (Str.ofString "utf-8") u], []⟩ = (do ret (← encodeRoad "str.encode" (.str x t) x (Str.ofString "utf-8") none)) := by
  show (do
    let encoding ← Str.codecArg "str.encode" "encode" "'encoding'" (some (.str (Str.ofString "utf-8") u))
    ret (← encodeRoad "str.encode" (.str x t) x (encoding.getD (Str.ofString "utf-8")) none)) = _
  rw [codec_utf8]
  rfl

theorem meets_encode {x : Str} {t u : Tok} (hx : Clean x) (hz : (octets x).size ≤ sizeLine) :
    Gives («str.encode» ⟨[.str x t, .str (Str.ofString "utf-8") u], []⟩) (.bytes (octets x)) := by
  rw [encode_tree2]
  refine .of_wp fun M A E s Q hq => ?_
  refine wpAny_bind ?_
  rw [encodeRoad_utf8]
  refine wpAny_bind (enc_narrow hx hz ?_)
  exact wpAny_mkBytes (wpAny_pure ⟨_, rfl, hq.2⟩) hq.1

theorem call_encode {prog : Program} {w : World} {A : Around} {E : Value → Shared → Prop} {s : Shared} {x : Str} {t u : Tok} {Q : Value → Shared → Prop}
    (hx : Clean x) (hz : (octets x).size ≤ sizeLine) (h : ∀ t', Q (.bytes (octets x) t') { s with toks := s.toks + 1 }) :
    wpAny (model prog w) A (call (.builtin "str.encode") [.str x t, .str (Str.ofString "utf-8") u]) Q E s :=
  call_gives F.slot_str_encode (typeIs_str _ _ _) F.entry_str_encode (F.args_str_encode_2 _ _) (meets_encode hx hz) ⟨hz, h _⟩

theorem method_encode {M : Model} {A : Around} {E : Value → Shared → Prop} {s : Shared} {x : Str} {t : Tok} {pl : Sem Bool} {Q : Value × List Value → Shared → Prop}
    (h : Q (.builtin "str.encode", [.str x t]) s) : wpAny M A (getMethod (.str x t) "encode" pl) Q E s := by
  exact getMethod_builtin (typeIs_str _ _ _) F.plainAttrs_str F.slot_str_encode F.type_str_encode (fun _ e => nomatch e) h
end partEnc

section partG1
/-- GNU's reckoning over the octets' numbers, uncut -/
def gnuRaw (ks : List Int) : Int := ks.foldl (fun h c => h * 33 + c) 5381
/-- what the newer hash hands back for octets -/
def gnuOf (b : Array UInt8) : Int := gnuRaw (KBw.bInts b) % 4294967296

local macro_rules | `(tactic| walk_at "getMethod str") => `(tactic| (k_here; with_reducible refine method_encode ?_))
local macro_rules | `(tactic| walk_at "call builtin:str.encode") => `(tactic| (k_here; (refine' call_encode ?k1 ?k2 ?_; (case k1 => assumption); (case k2 => assumption)); intro _))
local macro_rules | `(tactic| walk_at "binaryOp Mult int int") => `(tactic| (k_here; refine mul_int ?_ (IntMulOk.of_right (by decide))))

def gnuAt (m₀ : Str → Option Value) (a : Int) (m : Str → Option Value) (nx : List (Addr × Obj)) (news : List (Addr × Obj)) : Prop :=
  nx = news ∧ ∃ u t, m = fun z => if z = Str.ofString "c" then u else if z = Str.ofString "h" then some (Value.int a t) else m₀ z

theorem gnuAt_fold {m₀ m : Str → Option Value} {u u' u'' : Option Value} {a : Int} {t : Tok} {news : List (Addr × Obj)} (h : m = fun z => if z = Str.ofString "h" then some (Value.int a t) else if z = Str.ofString "c" then u else if z = Str.ofString "c" then u'' else if z = Str.ofString "h" then u' else m₀ z) :
    gnuAt m₀ a m news news := by
  refine ⟨rfl, u, t, ?_⟩
  rw [h]
  funext z
  by_cases h1 : z = Str.ofString "h"
  · have h2 : ¬ (Str.ofString "h" = Str.ofString "c") := by decide
    simp [h1, h2]
  · by_cases h3 : z = Str.ofString "c"
    · simp only [if_neg h1, if_pos h3]
    · simp only [if_neg h1, if_neg h3]

theorem gnu_loop {w : World} {A : Around} {h₀ : Heap} {env : Env} {m : Str → Option Value} {s : Shared} {news : List (Addr × Obj)} {E : Value → Shared → Prop} {Q : Flow → Shared → Prop} {b : Array UInt8} {tb : Tok}
    {t : Tok} {body : List Stmt} (hh : A.handled = none)
    (F : Fr h₀ env.locals s.heap (fun z => if z = Str.ofString "h" then some (Value.int 5381 t) else m z)) (N : News h₀ env.locals s.heap news)
    (turn : ∀ a u ta k t h tk own, Fr h₀ env.locals h (fun z => if z = Str.ofString "c" then some (Value.int k t) else if z = Str.ofString "c" then u else if z = Str.ofString "h" then some (Value.int a ta) else m z) → News h₀ env.locals h (news ++ own) → OwnOff own (news.map (·.1)) →
       wpAny (model PySem.Challenge.rw_ad5049_01.row.prog w) A (execs body env) (InvPostN h₀ env.locals (fun m' nx => gnuAt m (a * 33 + k) m' nx news) own (news.map (·.1)) { s with heap := h, toks := tk } Q) E { s with heap := h, toks := tk })
    (done : ∀ u t h tk, Fr h₀ env.locals h (fun z => if z = Str.ofString "c" then u else if z = Str.ofString "h" then some (Value.int (gnuRaw (KBw.bInts b)) t) else m z) → News h₀ env.locals h news → Q .next { s with heap := h, toks := tk }) :
    wpAny (model PySem.Challenge.rw_ad5049_01.row.prog w) A (pyIter (.bytes b tb)) (fun it s₂ => LoopAtV PySem.Challenge.rw_ad5049_01.row.prog w A h₀ env (Str.ofString "c") body Q E it s₂) E s := by
  refine KBw.iter_bytesS (σ := Int) (fun a m' nx => gnuAt m a m' nx news) (fun h c => h * 33 + c) 5381 rfl hh F N ?_ ?_ ?_
  · refine ⟨rfl, m (Str.ofString "c"), t, ?_⟩
    funext z
    by_cases h1 : z = Str.ofString "c"
    · have h2 : ¬ (Str.ofString "c" = Str.ofString "h") := by decide
      simp [h1, h2]
    · simp [h1]
  · rintro k tk' a m₁ nx h tk own _ _ _ hoff ⟨rfl, u, ta, rfl⟩ F₁ N₁
    exact turn a u ta k tk' h tk own F₁ N₁ hoff
  · rintro m₁ nx h tk ⟨rfl, u, ta, rfl⟩ F₁ N₁
    exact done u ta h tk F₁ N₁

theorem gnu_str {w : World} {A A₀ : Around} {base h₀ : Heap} {outer : List Env} {env : Env} {L : Addr} {m mg mb : Str → Option Value} {s : Shared} {news : List (Addr × Obj)}
    {Q : Value → Shared → Prop} {E : Value → Shared → Prop} {mean : ExcName → Option Value} {loose : List Str} {x : Str} {t : Tok}
    (B : Below A₀ base outer h₀) (F : Fr h₀ L s.heap m) (X : (hd.heap_39 w.params).In h₀) (N : News h₀ L s.heap news) (T : Top hd.view_39 loose mean mg mb h₀)
    (hA : A.frames = some (env :: outer)) (hf : env.frame = some L) (hke : env.scope.kind = .function) (hroom : A.depth < recursionLimit) (hh : A.handled = none)
    (hx : Clean x) (hz : (octets x).size ≤ sizeLine)
    (hret : ∀ t' h' tk', Fr h₀ L h' m → News h₀ L h' news → Q (.int (gnuOf (octets x)) t') { s with heap := h', toks := tk' }) :
    wpAny (model PySem.Challenge.rw_ad5049_01.row.prog w) A (call (.ref 218) [.str x t] []) Q E s := by
  refine wpAny_call ?_
  refine' code_def B F X N T hA hf hke ?k6 ?k7 hroom ?k9 ?kB ?_ ?c2 ?c3 ?c4 ?c5
  case k6 => k_is
  case k7 => k_is
  case k9 => first | exact BindsTo.of_eq rfl | exact binds_K (by k_in) rfl (by k_is) rfl rfl rfl
  case kB => exact locs rfl
  case c2 => exact rfl
  case c3 => exact rfl
  case c4 => exact rfl
  case c5 => decide
  intro g' L' h' FG' F' N' B' X' T'
  (try dsimp only)
  k_fold
  k_steps
  refine gnu_loop (A := A.deeper _) hh (by assumption) (by assumption) ?turn ?done
  case turn =>
    intro a u ta k t h tk own F9 N9 hoff
    (try dsimp only)
    k_steps
    refine ⟨_, _, _, _, news, rfl, by assumption, by assumption, fun p hp => List.mem_append_left _ hp, fun p hp => List.mem_append_right _ hp, rfl, ?_⟩
    exact gnuAt_fold rfl
  case done =>
    intro u t h tk F9 N9
    (try dsimp only)
    k_steps
    rw [bitAnd_m32]
    exact hret _ _ _ (by assumption) (by assumption)
theorem gnu_bytes {w : World} {A A₀ : Around} {base h₀ : Heap} {outer : List Env} {env : Env} {L : Addr} {m mg mb : Str → Option Value} {s : Shared} {news : List (Addr × Obj)}
    {Q : Value → Shared → Prop} {E : Value → Shared → Prop} {mean : ExcName → Option Value} {loose : List Str} {b : Array UInt8} {t : Tok}
    (B : Below A₀ base outer h₀) (F : Fr h₀ L s.heap m) (X : (hd.heap_39 w.params).In h₀) (N : News h₀ L s.heap news) (T : Top hd.view_39 loose mean mg mb h₀)
    (hA : A.frames = some (env :: outer)) (hf : env.frame = some L) (hke : env.scope.kind = .function) (hroom : A.depth < recursionLimit) (hh : A.handled = none)
    (hret : ∀ t' h' tk', Fr h₀ L h' m → News h₀ L h' news → Q (.int (gnuOf (b)) t') { s with heap := h', toks := tk' }) :
    wpAny (model PySem.Challenge.rw_ad5049_01.row.prog w) A (call (.ref 218) [.bytes b t] []) Q E s := by
  refine wpAny_call ?_
  refine' code_def B F X N T hA hf hke ?k6 ?k7 hroom ?k9 ?kB ?_ ?c2 ?c3 ?c4 ?c5
  case k6 => k_is
  case k7 => k_is
  case k9 => first | exact BindsTo.of_eq rfl | exact binds_K (by k_in) rfl (by k_is) rfl rfl rfl
  case kB => exact locs rfl
  case c2 => exact rfl
  case c3 => exact rfl
  case c4 => exact rfl
  case c5 => decide
  intro g' L' h' FG' F' N' B' X' T'
  (try dsimp only)
  k_fold
  k_steps
  refine gnu_loop (A := A.deeper _) hh (by assumption) (by assumption) ?turn ?done
  case turn =>
    intro a u ta k t h tk own F9 N9 hoff
    (try dsimp only)
    k_steps
    refine ⟨_, _, _, _, news, rfl, by assumption, by assumption, fun p hp => List.mem_append_left _ hp, fun p hp => List.mem_append_right _ hp, rfl, ?_⟩
    exact gnuAt_fold rfl
  case done =>
    intro u t h tk F9 N9
    (try dsimp only)
    k_steps
    rw [bitAnd_m32]
    exact hret _ _ _ (by assumption) (by assumption)
end partG1

section partG2
local macro_rules | `(tactic| walk_at "A KEY OF NO STEP") => `(tactic| skip)
local macro_rules | `(tactic| walk_at "getMethod str") => `(tactic| (k_here; with_reducible refine method_encode ?_))
local macro_rules | `(tactic| walk_at "call builtin:str.encode") => `(tactic| (k_here; (refine' call_encode ?k1 ?k2 ?_; (case k1 => assumption); (case k2 => assumption)); intro _))

/-- one octet of the older hash -/
def elfStep (h c : Int) : Int :=
  if Builtin.bitAnd (h * 2 ^ Int.toNat 4 + c) 4026531840 = 0 then Builtin.bitAnd (h * 2 ^ Int.toNat 4 + c) (Builtin.bitNot (Builtin.bitAnd (h * 2 ^ Int.toNat 4 + c) 4026531840))
  else Builtin.bitAnd (Builtin.bitXor (h * 2 ^ Int.toNat 4 + c) ((Builtin.bitAnd (h * 2 ^ Int.toNat 4 + c) 4026531840).fdiv (2 ^ Int.toNat 24))) (Builtin.bitNot (Builtin.bitAnd (h * 2 ^ Int.toNat 4 + c) 4026531840))
theorem elfStep_is (h c : Int) : elfStep h c = if Builtin.bitAnd (h * 16 + c) 4026531840 = 0 then Builtin.bitAnd (h * 16 + c) (Builtin.bitNot (Builtin.bitAnd (h * 16 + c) 4026531840))
  else Builtin.bitAnd (Builtin.bitXor (h * 16 + c) ((Builtin.bitAnd (h * 16 + c) 4026531840).fdiv 16777216)) (Builtin.bitNot (Builtin.bitAnd (h * 16 + c) 4026531840)) := by
  have e1 : (2 : Int) ^ Int.toNat 4 = 16 := by decide
  have e2 : (2 : Int) ^ Int.toNat 24 = 16777216 := by decide
  unfold elfStep
  rw [e1, e2]
def elfRaw (ks : List Int) : Int := ks.foldl elfStep 0
/-- what the older hash hands back for octets -/
def elfOf (b : Array UInt8) : Int := elfRaw (KBw.bInts b)

theorem elfStep_bits {h c : Int} {m : Nat} (hm : 40 ≤ m) (hh : Builtin.Int.intBits h ≤ m) (hc : 0 ≤ c ∧ c < 256) : Builtin.Int.intBits (elfStep h c) ≤ m + 5 := by
  have hb := intBits_le_iff.mp hh
  refine intBits_le_iff.mpr ?_
  have hx := bitAnd_range (h * 16 + c) (y := 4026531840) (by decide)
  have e1 : (2 : Nat) ^ (m + 5) = 32 * 2 ^ m := by rw [Nat.pow_add]; omega
  have e2 : (2 : Nat) ^ 40 ≤ 2 ^ m := Nat.pow_le_pow_right (by decide) hm
  rw [e1]
  generalize (2 : Nat) ^ m = M at hb e2
  rw [elfStep_is]
  generalize Builtin.bitAnd (h * 16 + c) 4026531840 = x at hx
  split
  · rw [bitAnd_not]
    have h1 := bitAnd_range (h * 16 + c) (y := x) hx.1
    omega
  · rw [bitAnd_not]
    have h0 : 0 ≤ x.fdiv 16777216 ∧ x.fdiv 16777216 ≤ 240 := by
      rw [Int.fdiv_eq_ediv_of_nonneg _ (by decide)]
      omega
    generalize x.fdiv 16777216 = y at h0
    have h1 := bitAnd_range (Builtin.bitXor (h * 16 + c) y) (y := x) hx.1
    have h2 := bitAnd_range (h * 16 + c) (y := y) h0.1
    have h3 := bitXor_and (h * 16 + c) y
    omega

theorem elfRaw_bits : ∀ (ks : List Int) (h : Int) (m : Nat), 40 ≤ m → Builtin.Int.intBits h ≤ m → (∀ k ∈ ks, 0 ≤ k ∧ k < 256) → Builtin.Int.intBits (ks.foldl elfStep h) ≤ m + 5 * ks.length
  | [], h, m, _, hh, _ => by simpa using hh
  | k :: r, h, m, hm, hh, hk => by
    have h1 := elfStep_bits hm hh (hk k (.head _))
    have h2 := elfRaw_bits r (elfStep h k) (m + 5) (by omega) h1 fun j hj => hk j (.tail _ hj)
    rw [List.foldl_cons, List.length_cons]
    omega

def elfAt (m₀ : Str → Option Value) (a : Int) (m : Str → Option Value) (nx : List (Addr × Obj)) (news : List (Addr × Obj)) : Prop :=
  nx = news ∧ ∃ u v t, m = fun z => if z = Str.ofString "c" then u else if z = Str.ofString "x" then v else if z = Str.ofString "h" then some (Value.int a t) else m₀ z

theorem elfAt_of {m₀ m : Str → Option Value} {a : Int} {t : Tok} {news : List (Addr × Obj)} (h1 : m (Str.ofString "h") = some (.int a t))
    (h2 : ∀ z, z ≠ Str.ofString "h" → z ≠ Str.ofString "c" → z ≠ Str.ofString "x" → m z = m₀ z) : elfAt m₀ a m news news := by
  refine ⟨rfl, m (Str.ofString "c"), m (Str.ofString "x"), t, ?_⟩
  funext z
  by_cases hc : z = Str.ofString "c"
  · rw [if_pos hc, hc]
  · rw [if_neg hc]
    by_cases hx : z = Str.ofString "x"
    · rw [if_pos hx, hx]
    · rw [if_neg hx]
      by_cases hh : z = Str.ofString "h"
      · rw [if_pos hh, hh, h1]
      · rw [if_neg hh]; exact h2 z hh hc hx

theorem elf_loop {w : World} {A : Around} {h₀ : Heap} {env : Env} {m : Str → Option Value} {s : Shared} {news : List (Addr × Obj)} {E : Value → Shared → Prop} {Q : Flow → Shared → Prop} {b : Array UInt8} {tb : Tok}
    {v₀ : Option Value} {t : Tok} {body : List Stmt} (hh : A.handled = none) (hsz : b.size ≤ 1000)
    (F : Fr h₀ env.locals s.heap (fun z => if z = Str.ofString "x" then v₀ else if z = Str.ofString "h" then some (Value.int 0 t) else m z)) (N : News h₀ env.locals s.heap news)
    (turn : ∀ a u v ta k t h tk own, Builtin.Int.intBits a ≤ 6000 → 0 ≤ k → k < 256 → Fr h₀ env.locals h (fun z => if z = Str.ofString "c" then some (Value.int k t) else if z = Str.ofString "c" then u else if z = Str.ofString "x" then v else if z = Str.ofString "h" then some (Value.int a ta) else m z) → News h₀ env.locals h (news ++ own) → OwnOff own (news.map (·.1)) →
       wpAny (model PySem.Challenge.rw_ad5049_01.row.prog w) A (execs body env) (InvPostN h₀ env.locals (fun m' nx => elfAt m (elfStep a k) m' nx news) own (news.map (·.1)) { s with heap := h, toks := tk } Q) E { s with heap := h, toks := tk })
    (done : ∀ u v t h tk, Fr h₀ env.locals h (fun z => if z = Str.ofString "c" then u else if z = Str.ofString "x" then v else if z = Str.ofString "h" then some (Value.int (elfOf b) t) else m z) → News h₀ env.locals h news → Q .next { s with heap := h, toks := tk }) :
    wpAny (model PySem.Challenge.rw_ad5049_01.row.prog w) A (pyIter (.bytes b tb)) (fun it s₂ => LoopAtV PySem.Challenge.rw_ad5049_01.row.prog w A h₀ env (Str.ofString "c") body Q E it s₂) E s := by
  refine KBw.pyIter_bytes ?_
  have W := KBw.walks (prog := PySem.Challenge.rw_ad5049_01.row.prog) (w := w) hh s.heap.objs.size b tb
  have hin : ∀ k ∈ KBw.bInts b, 0 ≤ k ∧ k < 256 := fun k hk => KBw.ints_in hk
  refine loop_invN (fun i m' nx => elfAt m (((KBw.bInts b).take i).foldl elfStep 0) m' nx news) W ?_ ?_ ?_ ?_ ⟨_, Heap.get?_push_size _ rfl, rfl, rfl⟩ (F.push _) (fun p hp => ⟨Heap.get?_push_of_some _ (N p hp).1, (N p hp).2⟩) ?_ ?_ ?_
  · intro hm
    exact absurd F.ns.lt ((List.mem_singleton.mp hm) ▸ Nat.lt_irrefl _)
  · intro b' hb
    rw [List.mem_singleton.mp hb]
    exact next_is_new F
  · intro p hp hI
    exact absurd (Heap.lt_size (N p hp).1) ((List.mem_singleton.mp hI) ▸ Nat.lt_irrefl _)
  · intro p hp hI
    exact absurd (Heap.lt_size (N p hp).1) ((List.mem_singleton.mp hI) ▸ Nat.lt_irrefl _)
  · refine ⟨rfl, m (Str.ofString "c"), v₀, t, ?_⟩
    funext z
    by_cases h1 : z = Str.ofString "c"
    · have h2 : ¬ (Str.ofString "c" = Str.ofString "h") := by decide
      have h3 : ¬ (Str.ofString "c" = Str.ofString "x") := by decide
      simp [h1, h2, h3]
    · simp [h1]
  · rintro i v m₁ nx h tk own hi ⟨c, u, hc, rfl⟩ _ hoff ⟨rfl, u', v', ta, rfl⟩ F₁ N₁
    have hg := KBw.ints_get hc
    have hmem := hin _ (List.mem_of_getElem? hg)
    have hs : ((KBw.bInts b).take (i + 1)).foldl elfStep 0 = elfStep (((KBw.bInts b).take i).foldl elfStep 0) (c.toNat : Int) := by
      rw [List.take_add_one, hg]; simp
    rw [hs]
    have hb := elfRaw_bits ((KBw.bInts b).take i) 0 40 (Nat.le_refl _) (by decide) (fun k hk => hin k (List.mem_of_mem_take hk))
    have hl : ((KBw.bInts b).take i).length ≤ 1000 := by
      rw [List.length_take, KBw.ints_length]; omega
    exact turn _ u' v' ta _ u h tk own (by omega) hmem.1 hmem.2 F₁ N₁ hoff
  · rintro m₁ nx h tk ⟨rfl, u, v, ta, rfl⟩ F₁ N₁
    have hl : (KBw.bInts b).take b.size = KBw.bInts b := by rw [← KBw.ints_length b]; exact List.take_length
    rw [hl] at F₁
    exact done u v ta h tk F₁ N₁

local macro_rules | `(tactic| walk_at "binaryOp LShift int int") => `(tactic| (k_here; refine lshift_int (by decide) (by omega) ?_))

theorem elf_str {w : World} {A A₀ : Around} {base h₀ : Heap} {outer : List Env} {env : Env} {L : Addr} {m mg mb : Str → Option Value} {s : Shared} {news : List (Addr × Obj)}
    {Q : Value → Shared → Prop} {E : Value → Shared → Prop} {mean : ExcName → Option Value} {loose : List Str} {x : Str} {t : Tok}
    (B : Below A₀ base outer h₀) (F : Fr h₀ L s.heap m) (X : (hd.heap_39 w.params).In h₀) (N : News h₀ L s.heap news) (T : Top hd.view_39 loose mean mg mb h₀)
    (hA : A.frames = some (env :: outer)) (hf : env.frame = some L) (hke : env.scope.kind = .function) (hroom : A.depth < recursionLimit) (hh : A.handled = none)
    (hx : Clean x) (hz : (octets x).size ≤ sizeLine) (hsz : (octets x).size ≤ 1000)
    (hret : ∀ t' h' tk', Fr h₀ L h' m → News h₀ L h' news → Q (.int (elfOf (octets x)) t') { s with heap := h', toks := tk' }) :
    wpAny (model PySem.Challenge.rw_ad5049_01.row.prog w) A (call (.ref 166) [.str x t] []) Q E s := by
  refine wpAny_call ?_
  refine' code_def B F X N T hA hf hke ?k6 ?k7 hroom ?k9 ?kB ?_ ?c2 ?c3 ?c4 ?c5
  case k6 => k_is
  case k7 => k_is
  case k9 => first | exact BindsTo.of_eq rfl | exact binds_K (by k_in) rfl (by k_is) rfl rfl rfl
  case kB => exact locs rfl
  case c2 => exact rfl
  case c3 => exact rfl
  case c4 => exact rfl
  case c5 => decide
  intro g' L' h' FG' F' N' B' X' T'
  (try dsimp only)
  k_fold
  k_steps
  refine elf_loop (A := A.deeper _) hh hsz (by assumption) (by assumption) ?turn ?done
  case turn =>
    intro a u v ta k t h tk own hab hk0 hk1 F9 N9 hoff
    (try dsimp only)
    k_steps
    · refine ⟨_, _, _, _, news, rfl, by assumption, by assumption, fun p hp => List.mem_append_left _ hp, fun p hp => List.mem_append_right _ hp, rfl, ?_⟩
      rw [show elfStep a k = _ from if_neg (by assumption)]
      exact elfAt_of rfl fun z h1 h2 h3 => by simp only [if_neg h1, if_neg h2, if_neg h3]
    · refine ⟨_, _, _, _, news, rfl, by assumption, by assumption, fun p hp => List.mem_append_left _ hp, fun p hp => List.mem_append_right _ hp, rfl, ?_⟩
      rw [show elfStep a k = _ from if_pos (by assumption)]
      exact elfAt_of rfl fun z h1 h2 h3 => by simp only [if_neg h1, if_neg h2, if_neg h3]
  case done =>
    intro u v t h tk F9 N9
    (try dsimp only)
    k_steps
    exact hret _ _ _ (by assumption) (by assumption)
theorem elf_bytes {w : World} {A A₀ : Around} {base h₀ : Heap} {outer : List Env} {env : Env} {L : Addr} {m mg mb : Str → Option Value} {s : Shared} {news : List (Addr × Obj)}
    {Q : Value → Shared → Prop} {E : Value → Shared → Prop} {mean : ExcName → Option Value} {loose : List Str} {b : Array UInt8} {t : Tok}
    (B : Below A₀ base outer h₀) (F : Fr h₀ L s.heap m) (X : (hd.heap_39 w.params).In h₀) (N : News h₀ L s.heap news) (T : Top hd.view_39 loose mean mg mb h₀)
    (hA : A.frames = some (env :: outer)) (hf : env.frame = some L) (hke : env.scope.kind = .function) (hroom : A.depth < recursionLimit) (hh : A.handled = none)
    (hsz : (b).size ≤ 1000)
    (hret : ∀ t' h' tk', Fr h₀ L h' m → News h₀ L h' news → Q (.int (elfOf (b)) t') { s with heap := h', toks := tk' }) :
    wpAny (model PySem.Challenge.rw_ad5049_01.row.prog w) A (call (.ref 166) [.bytes b t] []) Q E s := by
  refine wpAny_call ?_
  refine' code_def B F X N T hA hf hke ?k6 ?k7 hroom ?k9 ?kB ?_ ?c2 ?c3 ?c4 ?c5
  case k6 => k_is
  case k7 => k_is
  case k9 => first | exact BindsTo.of_eq rfl | exact binds_K (by k_in) rfl (by k_is) rfl rfl rfl
  case kB => exact locs rfl
  case c2 => exact rfl
  case c3 => exact rfl
  case c4 => exact rfl
  case c5 => decide
  intro g' L' h' FG' F' N' B' X' T'
  (try dsimp only)
  k_fold
  k_steps
  refine elf_loop (A := A.deeper _) hh hsz (by assumption) (by assumption) ?turn ?done
  case turn =>
    intro a u v ta k t h tk own hab hk0 hk1 F9 N9 hoff
    (try dsimp only)
    k_steps
    · refine ⟨_, _, _, _, news, rfl, by assumption, by assumption, fun p hp => List.mem_append_left _ hp, fun p hp => List.mem_append_right _ hp, rfl, ?_⟩
      rw [show elfStep a k = _ from if_neg (by assumption)]
      exact elfAt_of rfl fun z h1 h2 h3 => by simp only [if_neg h1, if_neg h2, if_neg h3]
    · refine ⟨_, _, _, _, news, rfl, by assumption, by assumption, fun p hp => List.mem_append_left _ hp, fun p hp => List.mem_append_right _ hp, rfl, ?_⟩
      rw [show elfStep a k = _ from if_pos (by assumption)]
      exact elfAt_of rfl fun z h1 h2 h3 => by simp only [if_neg h1, if_neg h2, if_neg h3]
  case done =>
    intro u v t h tk F9 N9
    (try dsimp only)
    k_steps
    exact hret _ _ _ (by assumption) (by assumption)
end partG2

section partLoop
open PySem.Calls PyProof.V

section
variable {prog : Program} {w : World} {A : Around} {E : Value → Shared → Prop} {s : Shared} {env : Env} {h₀ : Heap} {target : Expr} {body : List Stmt} {Q : Flow → Shared → Prop}

/-- a loop over a list of the ledger, by what holds between the turns; any target -/
theorem listTurns {l : Addr} {vs : List Value} {nn : Nat} {m₀ : Str → Option Value} {news : List (Addr × Obj)} (J : Nat → (Str → Option Value) → List (Addr × Obj) → Prop)
    (hh : A.handled = none) (hl : (l, listOf vs.toArray nn) ∈ news) (F : Fr h₀ env.locals s.heap m₀) (N : News h₀ env.locals s.heap news) (hj : J 0 m₀ news)
    (turn : ∀ i v m₁ news₁ h tk own, vs[i]? = some v → OwnOff own (news₁.map (·.1)) → (l, listOf vs.toArray nn) ∈ news₁ → J i m₁ news₁ → Fr h₀ env.locals h m₁ → News h₀ env.locals h (news₁ ++ own) →
      wpAny (model prog w) A (assign target env v) (fun _ s₃ => wpAny (model prog w) A (execs body env) (InvPostG h₀ env.locals (fun m' nx => (l, listOf vs.toArray nn) ∈ nx ∧ J (i + 1) m' nx) own { s with heap := h, toks := tk } Q) E s₃) E { s with heap := h, toks := tk })
    (done : ∀ m₁ news₁ h tk, J vs.length m₁ news₁ → Fr h₀ env.locals h m₁ → News h₀ env.locals h news₁ → Q .next { s with heap := h, toks := tk }) :
    wpAny (model prog w) A (pyIter (.ref l)) (fun it s₂ => TurnsAt prog w A h₀ env target body Q E it s₂) E s := by
  have hol : s.heap.get? l = some (listOf vs.toArray nn) := (N _ hl).1
  have hls : s.heap.IsList l vs.toArray := ⟨_, hol, rfl, nn, rfl⟩
  have hne : l ≠ s.heap.objs.size := Nat.ne_of_lt (Heap.lt_size hol)
  refine wpAny_pyIter_list hls ?_
  have W0 := Walks.list (prog := prog) (w := w) hh s.heap.objs.size l hne vs.toArray
  have hlen : vs.toArray.size = vs.length := by simp
  rw [hlen] at W0
  have W := KTurns.ofWalks (target := target) W0 fun i v s Q E st q => letGo_listiter st.1 q
  refine ⟨_, _, _, vs.length, _, _, _, m₀, news, (fun i m nx => (l, listOf vs.toArray nn) ∈ nx ∧ J i m nx), rfl, W, ?_, ?_, ?_, ⟨⟨_, Heap.get?_push_size _ rfl, rfl, rfl⟩, hls.at fun o e => Heap.get?_push_of_some _ e⟩, F.push _, (fun p hp => ⟨Heap.get?_push_of_some _ (N p hp).1, (N p hp).2⟩), ⟨hl, hj⟩, ?_, ?_⟩
  · intro hm
    rcases List.mem_cons.mp hm with e | hm
    · exact absurd F.ns.lt (e ▸ Nat.lt_irrefl _)
    · exact (N _ hl).2.1 ((List.mem_singleton.mp hm).symm)
  · intro b hb
    rw [List.mem_singleton.mp hb]
    exact next_is_new F
  · intro p hp hI
    exact absurd (Heap.lt_size (N p hp).1) ((List.mem_singleton.mp hI) ▸ Nat.lt_irrefl _)
  · rintro i v m₁ news₁ hh' tk' own hin hP ⟨hl₁, hJ⟩ hoff hown hget hfp hst F₁ N₁
    have hP' : vs[i]? = some v := by simpa using hP
    have hI0 : h₀.get? s.heap.objs.size = none := next_is_new F
    obtain ⟨⟨oI, hoI, hoIr⟩, hoIl⟩ := id hst
    have hIown : (s.heap.objs.size, oI) ∈ own.filter fun p => decide (p.1 = s.heap.objs.size) := List.mem_filter.mpr ⟨hfp _ (List.mem_cons.mpr (.inl rfl)) hI0 _ hoI, by simp⟩
    have hsep : OwnOff (own.filter fun p => decide (p.1 = s.heap.objs.size)) (news₁.map (·.1)) := by
      intro p hp b hb e
      obtain ⟨q, hq, rfl⟩ := List.mem_map.mp hb
      have h1 : p.1 = s.heap.objs.size := by simpa using (List.mem_filter.mp hp).2
      exact hoff q hq (List.mem_singleton.mpr (e ▸ h1))
    have N₂ : News h₀ env.locals hh' (news₁ ++ own.filter fun p => decide (p.1 = s.heap.objs.size)) := fun p hp => N₁ p ((List.mem_append.mp hp).elim (fun h => List.mem_append.mpr (.inr h)) fun h => List.mem_append.mpr (.inl ((List.mem_filter.mp h).1)))
    have hlo : hh'.get? l = some (listOf vs.toArray nn) := (N₁ _ (List.mem_append.mpr (.inr hl₁))).1
    refine wpAny_mono (turn i v m₁ news₁ hh' tk' _ hP' hsep hl₁ hJ F₁ N₂) (fun u s₃ h₃ => wpAny_mono h₃ (fun f s₂ p => ?_) fun _ _ e => e) fun _ _ e => e
    have fin : InvEndG h₀ env.locals (fun m' nx => (l, listOf vs.toArray nn) ∈ nx ∧ J (i + 1) m' nx) (own.filter fun p => decide (p.1 = s.heap.objs.size)) { s with heap := hh', toks := tk' } s₂ →
        LoopStepU h₀ env.locals [s.heap.objs.size] own (fun m nx => (l, listOf vs.toArray nn) ∈ nx ∧ J (i + 1) m nx) { s with heap := hh', toks := tk' } .next s₂ := by
      rintro ⟨h', tk, m', news', nx, e, F', N', hn, ho, ha, hm⟩
      refine ⟨rfl, h', tk, m', nx, e, F', fun p hp => ?_, fun p hp hq => ?_, hm⟩
      · rcases List.mem_append.mp hp with h | h
        · by_cases hI : p.1 = s.heap.objs.size
          · exact N' p (ho p (List.mem_filter.mpr ⟨h, by simpa using hI⟩))
          · have h1 : p.1 = l := by
              rcases List.mem_cons.mp (hown p h) with h2 | h2
              · exact absurd h2 hI
              · exact List.mem_singleton.mp h2
            have h2 : hh'.get? p.1 = some p.2 := hget p h
            rw [h1, hlo] at h2
            have h3 : p = (l, listOf vs.toArray nn) := Prod.ext h1 (Option.some.inj h2).symm
            rw [h3]
            exact N' _ (hn _ hm.1)
        · exact N' p (hn p h)
      · exact ha _ hIown p.1 (List.mem_map.mpr ⟨p, hp, rfl⟩) (List.mem_singleton.mp hq).symm
    cases f with
    | ret v => exact .ret p
    | brk => exact .brk p
    | next => exact .next (fin p)
    | cont => exact .cont (fin p)
  · rintro h' tk m' news' F' N' _ ⟨_, hJ⟩
    exact done m' news' h' tk hJ F' N'
end
end partLoop

section partBase
/-- the law's own def, and its parts -/
def lawStmt : Stmt := (PySem.Challenge.pw_ad5049_01.main.body.getLast?).getD (.Pass ⟨0, 0, 0, 0⟩)
def lawBody : List Stmt := match lawStmt with
  | .FunctionDef _ _ b _ _ _ _ _ _ _ => b
  | _ => []
def lawScope : Scope := match lawStmt with
  | .FunctionDef _ _ _ _ _ _ sc _ _ _ => sc
  | _ => { kind := .function, names := [], isGenerator := false, isCoroutine := false, more := [] }
def forBody : Stmt → List Stmt
  | .For _ _ b _ _ => b
  | _ => []
def outerBody : List Stmt := forBody ((lawBody.drop 7).headD (.Pass ⟨0, 0, 0, 0⟩))
def innerBody : List Stmt := forBody (outerBody.headD (.Pass ⟨0, 0, 0, 0⟩))
abbrev lawEnv (L fa : Addr) (cdv : Value) : Env := envX (Str.ofString "law") lawScope L fa cdv (cellsFrom (L + 1) lawScope.names [])

/-- a text that the codec takes whole, of at most so many octets -/
def Fine (k : Nat) (x : Str) : Prop := Clean x ∧ (octets x).size ≤ k

theorem Fine.le {k : Nat} {x : Str} (hx : Fine k x) (hk : k ≤ 1000) : (octets x).size ≤ 1000 := Nat.le_trans hx.2 hk
theorem foldl_octets (l : List Nat) (a : Array UInt8) : l.foldl (fun acc y => acc ++ (Str.utf8Of y).toArray) a = a ++ (l.flatMap Str.utf8Of).toArray := by
  induction l generalizing a with
  | nil => simp
  | cons c r ih => rw [List.foldl_cons, ih]; simp
theorem octets_list (x : Str) : octets x = (x.cps.toList.flatMap Str.utf8Of).toArray := by
  unfold octets
  rw [← Array.foldl_toList, foldl_octets]
  simp
theorem octets_app (x y : Str) : octets (x ++ y) = octets x ++ octets y := by
  rw [octets_list, octets_list, octets_list, Str.cps_append]
  simp
theorem Clean.app {x y : Str} (hx : Clean x) (hy : Clean y) : Clean (x ++ y) := by
  intro c hc
  rw [Str.cps_append] at hc
  rcases Array.mem_append.mp hc with h | h
  · exact hx c h
  · exact hy c h
theorem Fine.app {j k : Nat} {x y : Str} (hx : Fine j x) (hy : Fine k y) : Fine (j + k) (x ++ y) := by
  refine ⟨hx.1.app hy.1, ?_⟩
  rw [octets_app, Array.size_append]
  exact Nat.add_le_add hx.2 hy.2

theorem utf8Of_pos (c : Nat) : 1 ≤ (Str.utf8Of c).length := by
  unfold Str.utf8Of
  split
  · simp
  · split
    · simp
    · split <;> simp
theorem length_le_octets (x : Str) : x.length ≤ (octets x).size := by
  rw [octets_list]
  show x.cps.size ≤ _
  rw [← Array.length_toList, List.size_toArray]
  generalize x.cps.toList = l
  induction l with
  | nil => simp
  | cons c r ih =>
    rw [List.flatMap_cons, List.length_append, List.length_cons]
    have := utf8Of_pos c
    omega

section
variable {w : World} {A A₀ : Around} {base h₀ : Heap} {outer : List Env} {env : Env} {L : Addr} {m mg mb : Str → Option Value} {s : Shared} {news : List (Addr × Obj)}
    {Q : Value → Shared → Prop} {E : Value → Shared → Prop} {mean : ExcName → Option Value} {loose : List Str} {x : Str} {b : Array UInt8} {t : Tok} {k : Nat}
theorem gnu_s (B : Below A₀ base outer h₀) (F : Fr h₀ L s.heap m) (X : (hd.heap_39 w.params).In h₀) (N : News h₀ L s.heap news) (T : Top hd.view_39 loose mean mg mb h₀)
    (hA : A.frames = some (env :: outer)) (hf : env.frame = some L) (hke : env.scope.kind = .function) (hroom : A.depth < recursionLimit) (hh : A.handled = none)
    (hx : Fine k x) (hk : k ≤ 1000)
    (hret : ∀ t' h' tk', Fr h₀ L h' m → News h₀ L h' news → Q (.int (gnuOf (octets x)) t') { s with heap := h', toks := tk' }) :
    wpAny (model PySem.Challenge.rw_ad5049_01.row.prog w) A (call (.ref 218) [.str x t] []) Q E s :=
  gnu_str B F X N T hA hf hke hroom hh hx.1 (by rw [sizeLine_eq]; exact Nat.le_trans hx.2 (Nat.le_trans hk (by decide))) hret
theorem gnu_b (B : Below A₀ base outer h₀) (F : Fr h₀ L s.heap m) (X : (hd.heap_39 w.params).In h₀) (N : News h₀ L s.heap news) (T : Top hd.view_39 loose mean mg mb h₀)
    (hA : A.frames = some (env :: outer)) (hf : env.frame = some L) (hke : env.scope.kind = .function) (hroom : A.depth < recursionLimit) (hh : A.handled = none)
    (hret : ∀ t' h' tk', Fr h₀ L h' m → News h₀ L h' news → Q (.int (gnuOf b) t') { s with heap := h', toks := tk' }) :
    wpAny (model PySem.Challenge.rw_ad5049_01.row.prog w) A (call (.ref 218) [.bytes b t] []) Q E s :=
  gnu_bytes B F X N T hA hf hke hroom hh hret
theorem elf_s (B : Below A₀ base outer h₀) (F : Fr h₀ L s.heap m) (X : (hd.heap_39 w.params).In h₀) (N : News h₀ L s.heap news) (T : Top hd.view_39 loose mean mg mb h₀)
    (hA : A.frames = some (env :: outer)) (hf : env.frame = some L) (hke : env.scope.kind = .function) (hroom : A.depth < recursionLimit) (hh : A.handled = none)
    (hx : Fine k x) (hk : k ≤ 1000)
    (hret : ∀ t' h' tk', Fr h₀ L h' m → News h₀ L h' news → Q (.int (elfOf (octets x)) t') { s with heap := h', toks := tk' }) :
    wpAny (model PySem.Challenge.rw_ad5049_01.row.prog w) A (call (.ref 166) [.str x t] []) Q E s :=
  elf_str B F X N T hA hf hke hroom hh hx.1 (by rw [sizeLine_eq]; exact Nat.le_trans hx.2 (Nat.le_trans hk (by decide))) (Nat.le_trans hx.2 hk) hret
theorem elf_b (B : Below A₀ base outer h₀) (F : Fr h₀ L s.heap m) (X : (hd.heap_39 w.params).In h₀) (N : News h₀ L s.heap news) (T : Top hd.view_39 loose mean mg mb h₀)
    (hA : A.frames = some (env :: outer)) (hf : env.frame = some L) (hke : env.scope.kind = .function) (hroom : A.depth < recursionLimit) (hh : A.handled = none)
    (hx : Fine k x) (hk : k ≤ 1000)
    (hret : ∀ t' h' tk', Fr h₀ L h' m → News h₀ L h' news → Q (.int (elfOf (octets x)) t') { s with heap := h', toks := tk' }) :
    wpAny (model PySem.Challenge.rw_ad5049_01.row.prog w) A (call (.ref 166) [.bytes (octets x) t] []) Q E s :=
  elf_bytes B F X N T hA hf hke hroom hh (Nat.le_trans hx.2 hk) hret
theorem enc_s {t u : Tok} (hx : Fine k x) (hk : k ≤ 1000) (h : ∀ t', Q (.bytes (octets x) t') { s with toks := s.toks + 1 }) :
    wpAny (model PySem.Challenge.rw_ad5049_01.row.prog w) A (call (.builtin "str.encode") [.str x t, .str (Str.ofString "utf-8") u]) Q E s :=
  call_encode hx.1 (by rw [sizeLine_eq]; exact Nat.le_trans hx.2 (Nat.le_trans hk (by decide))) h
theorem len_o {t : Tok} (hx : Fine k x) (hk : k ≤ 1000) (h : Q (.int (octets x).size (s.toks + 1)) { s with toks := s.toks + 1 + 1 }) : wpAny (model PySem.Challenge.rw_ad5049_01.row.prog w) A (call (.builtin "len") [.bytes (octets x) t]) Q E s :=
  len_bytes (Nat.le_trans hx.2 (Nat.le_trans hk (by decide))) h
theorem add_o {t u : Tok} {y : Str} {j : Nat} (hx : Fine j x) (hy : Fine k y) (hk : j + k ≤ 1000) (h : ∀ t' tk, Q (.str (x ++ y) t') { s with toks := tk }) : wpAny (model PySem.Challenge.rw_ad5049_01.row.prog w) A (binaryOp .Add (.str x t) (.str y u)) Q E s := by
  refine PyProof.Rows.add_str h ?_
  have h1 := length_le_octets x
  have h2 := length_le_octets y
  have h3 := hx.2
  have h4 := hy.2
  rw [sizeLine_eq]
  omega
theorem pow_o {t u : Tok} {a : Int} {n : Nat} (hx : n ≤ 1000) (ha : Builtin.Int.intBits a ≤ 100) (h : Q (.int (a ^ (n : Int).toNat) s.toks) { s with toks := s.toks + 1 }) : wpAny (model PySem.Challenge.rw_ad5049_01.row.prog w) A (binaryOp .Pow (.int a t) (.int n u)) Q E s := by
  refine pow_int (Int.natCast_nonneg _) ?_ h
  have h1 : Builtin.Int.intBits a * n ≤ 100 * 1000 := Nat.mul_le_mul ha hx
  have h2 : ((Builtin.Int.intBits a * n : Nat) : Int) = (Builtin.Int.intBits a : Int) * (n : Int) := Int.natCast_mul _ _
  omega
theorem ne_o {t u : Tok} {a b : Int} (e : a = b) (h : Q (.bool false) s) : wpAny (model PySem.Challenge.rw_ad5049_01.row.prog w) A (compareOp .NotEq (.int a t) (.int b u)) Q E s := by
  refine ne_int ?_
  rw [show (a != b) = false by rw [e]; exact bne_self_eq_false b]
  exact h
theorem eq_o {t u : Tok} {a b : Int} (e : a ≠ b) (h : Q (.bool false) s) : wpAny (model PySem.Challenge.rw_ad5049_01.row.prog w) A (compareOp .Eq (.int a t) (.int b u)) Q E s := by
  refine eq_int ?_
  rw [show (a == b) = false from beq_eq_false_iff_ne.mpr e]
  exact h
theorem gnuOf_range (b : Array UInt8) : 0 ≤ gnuOf b ∧ gnuOf b < 4294967296 := by
  unfold gnuOf
  omega
theorem gnuOf_bits (b : Array UInt8) : Builtin.Int.intBits (gnuOf b) ≤ 64 := by
  refine intBits_le_iff.mpr ?_
  have := gnuOf_range b
  omega
end
end partBase

section partSg
/-- a comprehension over a text's signs with a test, the new list on the ledger -/
theorem signs_src {prog : Program} {w : World} {A : Around} {E : Value → Shared → Prop} {s₁ : Shared} {h₀ : Heap} {L : Addr} {m : Str → Option Value} {news : List (Addr × Obj)}
    {env : Env} {elt : Expr} {x : Str} {ifs : List Expr} {scope : Scope} {Q : Value → Shared → Prop} {y : Str} {t : Tok} (pz : Str → Bool)
    (hh : A.handled = none) (F : Fr h₀ L s₁.heap m) (N : News h₀ L s₁.heap news) (hsz : y.length ≤ sizeLine)
    (g1 : ∀ C a u s₂ m₂ E', s₂.heap.Ns (compEnv scope C env).locals m₂ → m₂ x = some (.str a u) → s₁.toks ≤ s₂.toks →
        wpAny (model prog w) A (forIn ifs true fun c r => if r = true then do let ok ← isTrue c (compEnv scope C env) (eval c (compEnv scope C env)); pure (ForInStep.yield ok) else pure (ForInStep.yield r))
          (fun ok s₃ => ok = pz a ∧ Keeps s₂ s₃) E' s₂)
    (g2 : ∀ C a u s₂ m₂ E', s₂.heap.Ns (compEnv scope C env).locals m₂ → m₂ x = some (.str a u) → s₁.toks ≤ s₂.toks → wpAny (model prog w) A (eval elt (compEnv scope C env)) (fun r s₃ => Carried r (.str a) ∧ Keeps s₂ s₃) E' s₂)
    (g3 : ∀ D (ys : List Value) n h' tk, Fr h₀ L h' m → News h₀ L h' ((D, PySem.W.listOf ys.toArray n) :: news) → (∀ p ∈ news, p.1 ≠ D) → StrsAre ys ((signs y).filter pz) → Q (.ref D) { s₁ with heap := h', toks := tk }) :
    wpAny (model prog w) A (pyIter (.str y t)) (CompPost prog w A env scope x ifs elt Q) E s₁ := by
  refine srcC_signsD (pz := pz) (d := fun a => .str a) hh F N ?_ ?_ ?_ hsz
  · rintro C a v s₂ m₂ E' ⟨u, rfl⟩ hn hm ht
    exact g1 C a u s₂ m₂ E' hn hm ht
  · rintro C a v s₂ m₂ E' ⟨u, rfl⟩ _ hn hm ht
    exact g2 C a u s₂ m₂ E' hn hm ht
  · rintro D ys h' tk F' N' hD hl ⟨⟨n, hp⟩, hne⟩ hc
    refine g3 D ys n h' tk F' ?_ hne (StrsAre.of_carried hc)
    intro p hp'
    rcases List.mem_cons.mp hp' with rfl | hp'
    · refine ⟨hp, ?_, hD⟩
      intro e
      have e' : D = L := e
      subst e'
      obtain ⟨o, es, ep, ho, hd, _⟩ := F'.ns
      rw [hp] at ho
      cases ho
      cases hd
    · exact N' p hp'
theorem keeps_same {s₂ : Shared} {tk : Nat} : Keeps s₂ { s₂ with toks := tk } := ⟨_, _, rfl, fun _ _ e => e⟩
theorem keeps_id {s₂ : Shared} : Keeps s₂ s₂ := ⟨_, _, rfl, fun _ _ e => e⟩
theorem pick_upto (vs : List Value) {y : Int} (h : 0 ≤ y) : (slicePick vs.toArray none (some y) none).toList = vs.take y.toNat := by
  have e : sliceBounds none (some y) none vs.toArray.size = (((0 : Nat) : Int), ((min y.toNat vs.toArray.size : Nat) : Int), 1) := by
    simp only [sliceBounds, Option.getD_none, show (1 : Int) > 0 by decide, if_true, if_neg (show ¬ (y < 0) by omega)]
    congr 1
    congr 1
    omega
  rw [kmk_pick_nat _ e]
  show (vs.drop 0).take (min y.toNat vs.toArray.size - 0) = _
  rw [List.drop_zero, Nat.sub_zero, List.size_toArray, kmk_take_min]
theorem news_skip {h₀ h : Heap} {L : Addr} {a b : Addr × Obj} {r : List (Addr × Obj)} (N : News h₀ L h (a :: b :: r)) : News h₀ L h (a :: r) := fun p hp => by
  rcases List.mem_cons.mp hp with rfl | hp
  · exact N _ (.head _)
  · exact N _ (.tail _ (.tail _ hp))
theorem Fine.len {k : Nat} {x : Str} (hx : Fine k x) (hk : k ≤ 1000) : x.length ≤ sizeLine := by
  have h1 := length_le_octets x
  have h2 := hx.2
  rw [sizeLine_eq]
  omega
/-- the first three of a new list of texts that a comprehension has just made -/
theorem cut_src {prog : Program} {w : World} {A : Around} {E : Value → Shared → Prop} {s : Shared} {h₀ : Heap} {L D : Addr} {m : Str → Option Value} {news : List (Addr × Obj)} {value slice : PySem.Expr} {ys : List Value} {n : Nat} {t : Tok}
    {Q : Value → Shared → Prop} (F : Fr h₀ L s.heap m) (N : News h₀ L s.heap ((D, PySem.W.listOf ys.toArray n) :: news)) (hz : ys.length ≤ 1000)
    (h : ∀ S h', Fr h₀ L h' m → News h₀ L h' ((S, PySem.W.listOf (ys.take 3).toArray 0) :: news) → (∀ p ∈ news, p.1 < S) → Q (.ref S) { s with heap := h' })
    (hs : subscripted slice false (.ref D) (.ref s.heap.objs.size) = operate [.ref s.heap.objs.size, .ref D] (getItem (.ref D) (.ref s.heap.objs.size))) :
    wpAny (model prog w) A (subscriptTail value slice (.ref D) (.ref s.heap.objs.size)) Q E { s with heap := s.heap.push { cls := .type "slice", data := .fields #[.none, .int 3 t, .none] } } := by
  refine kba_turn (value' := PySem.Expr.Name (PySem.Str.ofString "t") ⟨0, 0, 0, 0⟩) (fun _ => rfl) ?_
  refine kmk_slice_lit F N (News.isList N (List.Mem.head _)) IsPart.none (IsPart.int 3 t) (pick_upto ys (by decide)) ?_ hs (fun _ => rfl) (by rw [List.size_toArray, sizeLine_eq]; omega)
  intro S h' F' N' l
  exact h S h' F' (news_skip N') fun p hp => l p (.tail _ hp)
theorem cat_src {prog : Program} {w : World} {A : Around} {E : Value → Shared → Prop} {s : Shared} {h₀ : Heap} {L S₁ S₂ : Addr} {m : Str → Option Value} {news : List (Addr × Obj)} {ys zs : List Value} {n k : Nat}
    {Q : Value → Shared → Prop} (F : Fr h₀ L s.heap m) (N : News h₀ L s.heap ((S₂, PySem.W.listOf zs.toArray k) :: (S₁, PySem.W.listOf ys.toArray n) :: news)) (hz : ys.length + zs.length ≤ 1000)
    (h : ∀ D h', Fr h₀ L h' m → News h₀ L h' ((D, PySem.W.listOf (ys ++ zs).toArray 0) :: news) → (∀ p ∈ news, p.1 < D) → Q (.ref D) { s with heap := h' }) :
    wpAny (model prog w) A (binaryOp .Add (.ref S₁) (.ref S₂)) Q E s := by
  refine kmk_add_lit F N (News.isList N (.tail _ (.head _))) (News.isList N (.head _)) rfl ?_ (by
    show ys.length + zs.length ≤ sizeLine
    rw [sizeLine_eq]; omega)
  intro D h' F' N' l
  exact h D h' F' (news_skip (news_skip N')) fun p hp => l p (.tail _ (.tail _ hp))
theorem sg_len {k : Nat} {x : Str} {ys : List Value} {pz : Str → Bool} (h : StrsAre ys ((signs x).filter pz)) (hx : Fine k x) (hk : k ≤ 1000) : ys.length ≤ 1000 := by
  have h1 := StrsAre.length h
  have h2 := List.length_filter_le pz (signs x)
  have h3 := signs_length x
  have h4 := length_le_octets x
  have h5 := hx.2
  omega
theorem cut_len (ys zs : List Value) : (ys.take 3).length + (zs.take 3).length ≤ 1000 := by
  rw [List.length_take, List.length_take]; omega
/-- the signs below 128, three of each at most -/
theorem sg_letters {x y : Str} : ∀ z ∈ (((signs x).filter fun a => decide (a.cps.toList < (Str.ofString "\x80").cps.toList)).take 3 ++ ((signs y).filter fun a => decide (a.cps.toList < (Str.ofString "\x80").cps.toList)).take 3), ∃ c, z = (⟨#[c]⟩ : Str) ∧ c < 128 := by
  have e : (Str.ofString "\x80").cps.toList = [128] := by decide +kernel
  have key : ∀ (u : Str) (z : Str), z ∈ ((signs u).filter fun a => decide (a.cps.toList < (Str.ofString "\x80").cps.toList)).take 3 → ∃ c, z = (⟨#[c]⟩ : Str) ∧ c < 128 := by
    intro u z hz
    obtain ⟨h1, h2⟩ := List.mem_filter.mp (List.mem_of_mem_take hz)
    obtain ⟨c, _, rfl⟩ := List.mem_map.mp h1
    refine ⟨c, rfl, ?_⟩
    rw [e] at h2
    have h3 : [c] < [128] := by simpa using h2
    rcases List.cons_lt_cons_iff.mp h3 with h4 | ⟨_, h4⟩
    · exact h4
    · exact absurd h4 (by simp)
  intro z hz
  rcases List.mem_append.mp hz with hz | hz
  · exact key x z hz
  · exact key y z hz
theorem sg_six {x y : Str} {p q : Str → Bool} : (((signs x).filter p).take 3 ++ ((signs y).filter q).take 3).length ≤ 6 := by
  rw [List.length_append, List.length_take, List.length_take]; omega
end partSg

section partPlain
theorem ints_octets (x : Str) : KBw.bInts (octets x) = (x.cps.toList.flatMap Str.utf8Of).map fun c => (c.toNat : Int) := by
  rw [octets_list, KBw.ints_list]
theorem ints_app (x y : Str) : KBw.bInts (octets (x ++ y)) = KBw.bInts (octets x) ++ KBw.bInts (octets y) := by
  rw [octets_app]; exact KBw.ints_app rfl rfl

/-- the sum of the letters' numbers, each B times for each one behind it -/
def horner (B : Int) (ks : List Int) : Int := ks.foldl (fun h c => h * B + c) 0
theorem fold_from (B : Int) : ∀ (ks : List Int) (h : Int), ks.foldl (fun h c => h * B + c) h = h * B ^ ks.length + horner B ks := by
  intro ks
  induction ks with
  | nil => intro h; simp [horner]
  | cons k r ih =>
    intro h
    unfold horner
    rw [List.foldl_cons, List.foldl_cons, ih, ih (0 * B + k), List.length_cons, Int.pow_succ]
    rw [Int.zero_mul, Int.zero_add, Int.add_mul, Int.mul_assoc, Int.mul_comm B (B ^ r.length), Int.add_assoc]
theorem gnuRaw_is (ks : List Int) : gnuRaw ks = 5381 * 33 ^ ks.length + horner 33 ks := fold_from 33 ks 5381
theorem horner_app (B : Int) (ks js : List Int) : horner B (ks ++ js) = horner B ks * B ^ js.length + horner B js := by
  unfold horner
  rw [List.foldl_append]
  exact fold_from B js _

theorem horner_sum (B : Int) : ∀ ks : List Int, horner B ks = ((List.range ks.length).map fun i => ks.getD i 0 * B ^ (ks.length - 1 - i)).sum := by
  intro ks
  induction ks with
  | nil => rfl
  | cons k r ih =>
    have h1 : horner B (k :: r) = k * B ^ r.length + horner B r := by
      unfold horner
      rw [List.foldl_cons, Int.zero_mul, Int.zero_add]
      exact fold_from B r k
    rw [h1, ih, List.length_cons, List.range_succ_eq_map, List.map_cons, List.sum_cons, List.map_map]
    congr 1
    congr 1
    apply List.map_congr_left
    intro i hi
    have hlt := List.mem_range.mp hi
    show _ = (k :: r).getD (i + 1) 0 * B ^ (r.length + 1 - 1 - (i + 1))
    have e : r.length + 1 - 1 - (i + 1) = r.length - 1 - i := by omega
    rw [e]
    rfl

/-- a text of one sign -/
def sg (c : Nat) : Str := ⟨#[c]⟩
theorem lettCodes : ∀ ls : List Str, (∀ x ∈ ls, ∃ c, x = ⟨#[c]⟩ ∧ c < 128) → ∃ cs : List Nat, ls = cs.map sg ∧ ∀ c ∈ cs, c < 128
  | [], _ => ⟨[], rfl, fun _ h => (nomatch h)⟩
  | x :: r, h => by
    obtain ⟨c, e, hc⟩ := h x (.head _)
    obtain ⟨cs, e', hcs⟩ := lettCodes r fun y hy => h y (.tail _ hy)
    refine ⟨c :: cs, by rw [e, e']; rfl, fun d hd => ?_⟩
    rcases List.mem_cons.mp hd with rfl | hd
    · exact hc
    · exact hcs d hd
theorem join_codes : ∀ cs : List Nat, Str.join (Str.ofString "") (cs.map sg) = ⟨cs.toArray⟩
  | [] => rfl
  | [c] => rfl
  | c :: d :: r => by
    have ih := join_codes (d :: r)
    have e : Str.join (Str.ofString "") ((c :: d :: r).map sg) = sg c ++ Str.ofString "" ++ Str.join (Str.ofString "") ((d :: r).map sg) := rfl
    rw [e, ih]
    have e0 : Str.ofString "" = Str.empty := by decide +kernel
    rw [e0]
    refine Str.ext' ?_
    rw [Str.cps_append, Str.cps_append]
    simp [sg, Str.empty]
theorem ints_codes (cs : List Nat) (h : ∀ c ∈ cs, c < 128) : KBw.bInts (octets ⟨cs.toArray⟩) = cs.map fun c : Nat => (c : Int) := by
  rw [ints_octets]
  show ((cs.toArray.toList.flatMap Str.utf8Of).map fun c => (c.toNat : Int)) = _
  rw [show cs.toArray.toList = cs from rfl]
  induction cs with
  | nil => rfl
  | cons c r ih =>
    have hc := h c (.head _)
    rw [List.flatMap_cons, List.map_append, ih fun d hd => h d (.tail _ hd), List.map_cons]
    have e : Str.utf8Of c = [c.toUInt8] := by unfold Str.utf8Of; rw [if_pos hc]
    rw [e]
    have e2 : c.toUInt8.toNat = c := by
      show c % 256 = c
      omega
    simp [e2]
theorem fine_codes (cs : List Nat) (h : ∀ c ∈ cs, c < 128) : Fine cs.length ⟨cs.toArray⟩ := by
  refine ⟨fun c hc => ?_, ?_⟩
  · have hc' : c ∈ cs := by simpa using hc
    have := h c hc'
    unfold Str.isSurrogate
    have h1 : ¬ (0xD800 ≤ c) := by omega
    simp [h1]
  · have h1 := KBw.ints_length (octets ⟨cs.toArray⟩)
    rw [ints_codes cs h, List.length_map] at h1
    omega
theorem sum_codes (B : Int) (cs : List Nat) : (List.map (fun k' : Int => ((((cs.map sg).getD k'.toNat Str.empty).cps.getD 0 0 : Nat) : Int) * B ^ (((cs.map sg).length : Int) - 1 - k').toNat) (rangeKs 0 (((cs.map sg).length : Int) - 0).toNat)).sum = horner B (cs.map fun c : Nat => (c : Int)) := by
  rw [horner_sum]
  congr 1
  unfold rangeKs
  rw [List.map_map]
  have e : (((cs.map sg).length : Int) - 0).toNat = (cs.map fun c : Nat => (c : Int)).length := by simp
  rw [e]
  apply List.map_congr_left
  intro i hi
  have hlt := List.mem_range.mp hi
  rw [List.length_map] at hlt
  show ((((cs.map sg).getD ((0 : Int) + (i : Int)).toNat Str.empty).cps.getD 0 0 : Nat) : Int) * B ^ (((cs.map sg).length : Int) - 1 - ((0 : Int) + (i : Int))).toNat = _
  have e1 : ((0 : Int) + (i : Int)).toNat = i := by omega
  have e2 : (((cs.map sg).length : Int) - 1 - ((0 : Int) + (i : Int))).toNat = (cs.map fun c : Nat => (c : Int)).length - 1 - i := by
    rw [List.length_map, List.length_map]; omega
  rw [e1, e2]
  congr 1
  simp [List.getD, hlt, sg]
theorem elf_codes : ∀ (cs : List Nat) (i : Nat) (h : Int), (∀ c ∈ cs, c < 128) → i + cs.length ≤ 6 → 0 ≤ h → h ≤ 9 * (16 ^ i - 1) → (cs.map fun c : Nat => (c : Int)).foldl elfStep h = (cs.map fun c : Nat => (c : Int)).foldl (fun h c => h * 16 + c) h := by
  intro cs
  induction cs with
  | nil => intro i h _ _ _ _; rfl
  | cons c r ih =>
    intro i h hc hi h0 h1
    have hcc := hc c (.head _)
    rw [List.length_cons] at hi
    have hp : (16 : Int) ^ (i + 1) = 16 ^ i * 16 := Int.pow_succ ..
    have hle : (16 : Int) ^ (i + 1) ≤ 16777216 := by
      have : i = 0 ∨ i = 1 ∨ i = 2 ∨ i = 3 ∨ i = 4 ∨ i = 5 := by omega
      rcases this with rfl | rfl | rfl | rfl | rfl | rfl <;> decide
    have hpos : (1 : Int) ≤ 16 ^ i := by
      have : i = 0 ∨ i = 1 ∨ i = 2 ∨ i = 3 ∨ i = 4 ∨ i = 5 := by omega
      rcases this with rfl | rfl | rfl | rfl | rfl | rfl <;> decide
    rw [List.map_cons, List.foldl_cons, List.foldl_cons]
    have hz : Builtin.bitAnd (h * 16 + (c : Int)) 4026531840 = 0 := by
      have hnn : 0 ≤ h * 16 + (c : Int) := by omega
      rw [bitAnd_pp hnn (by decide)]
      have hlt : (h * 16 + (c : Int)).toNat < 2 ^ 28 := by omega
      have : (h * 16 + (c : Int)).toNat &&& (4026531840 : Int).toNat = 0 := by
        apply Nat.eq_of_testBit_eq
        intro j
        rw [Nat.testBit_and, Nat.zero_testBit]
        by_cases hj : j < 28
        · have : (4026531840 : Int).toNat = 15 * 2 ^ 28 := by decide
          rw [this, Nat.testBit_mul_two_pow]
          have : ¬ (28 ≤ j) := by omega
          simp [this]
        · have := Nat.testBit_lt_two_pow (Nat.lt_of_lt_of_le hlt (Nat.pow_le_pow_right (by decide) (Nat.le_of_not_lt hj)))
          rw [this, Bool.false_and]
      rw [this]; rfl
    have hs : elfStep h (c : Int) = h * 16 + c := by
      rw [elfStep_is, hz, if_pos rfl, bitAnd_not, bitAnd_zero, Int.sub_zero]
    rw [hs]
    refine ih (i + 1) _ (fun d hd => hc d (.tail _ hd)) (by omega) (by omega) ?_
    rw [hp]
    omega
/-- the older hash of up to six letters -/
theorem lett_low {ls : List Str} (hc : ∀ x ∈ ls, ∃ c, x = ⟨#[c]⟩ ∧ c < 128) (hl : ls.length ≤ 6) :
    elfOf (octets (Str.join (Str.ofString "") ls)) = (List.map (fun k' : Int => (((ls.getD k'.toNat Str.empty).cps.getD 0 0 : Nat) : Int) * 16 ^ ((ls.length : Int) - 1 - k').toNat) (rangeKs 0 ((ls.length : Int) - 0).toNat)).sum := by
  obtain ⟨cs, rfl, h⟩ := lettCodes ls hc
  rw [sum_codes, join_codes]
  unfold elfOf elfRaw
  rw [ints_codes cs h]
  rw [List.length_map] at hl
  exact elf_codes cs 0 0 h (by omega) (by omega) (by decide)
/-- the newer hash of the same letters -/
theorem lett_high {ls : List Str} (hc : ∀ x ∈ ls, ∃ c, x = ⟨#[c]⟩ ∧ c < 128) :
    gnuOf (octets (Str.join (Str.ofString "") ls)) = (5381 * 33 ^ ((ls.length : Int)).toNat + (List.map (fun k' : Int => (((ls.getD k'.toNat Str.empty).cps.getD 0 0 : Nat) : Int) * 33 ^ ((ls.length : Int) - 1 - k').toNat) (rangeKs 0 ((ls.length : Int) - 0).toNat)).sum).fmod (2 ^ Int.toNat 32) := by
  obtain ⟨cs, rfl, h⟩ := lettCodes ls hc
  rw [sum_codes, join_codes]
  unfold gnuOf
  rw [ints_codes cs h, gnuRaw_is, Int.fmod_eq_emod_of_nonneg _ (by decide), List.length_map, List.length_map, Int.toNat_natCast]
  rfl
theorem lett_fine {ls : List Str} (hc : ∀ x ∈ ls, ∃ c, x = ⟨#[c]⟩ ∧ c < 128) (hl : ls.length ≤ 6) : Fine 6 (Str.join (Str.ofString "") ls) := by
  obtain ⟨cs, rfl, h⟩ := lettCodes ls hc
  rw [join_codes]
  rw [List.length_map] at hl
  exact ⟨(fine_codes cs h).1, Nat.le_trans (fine_codes cs h).2 hl⟩
/-- a joined name's number out of its parts' -/
theorem joined_law (x y : Str) : gnuOf (octets (x ++ y)) = (gnuOf (octets x) * 33 ^ (((octets y).size : Int)).toNat + gnuOf (octets y) - 5381 * 33 ^ (((octets y).size : Int)).toNat).fmod (2 ^ Int.toNat 32) := by
  rw [Int.fmod_eq_emod_of_nonneg _ (by decide), Int.toNat_natCast]
  show gnuRaw (KBw.bInts (octets (x ++ y))) % 4294967296 = _ % 4294967296
  unfold gnuOf
  rw [ints_app, gnuRaw_is, gnuRaw_is, gnuRaw_is, horner_app, List.length_append, Int.pow_add, KBw.ints_length]
  rw [KBw.ints_length]
  generalize (33 : Int) ^ (octets y).size = P
  generalize (33 : Int) ^ (octets x).size = R
  generalize horner 33 (KBw.bInts (octets x)) = a
  generalize horner 33 (KBw.bInts (octets y)) = b
  have h1 : (5381 * R + a) % 4294967296 = 5381 * R + a - 4294967296 * ((5381 * R + a) / 4294967296) := by omega
  have h2 : (5381 * P + b) % 4294967296 = 5381 * P + b - 4294967296 * ((5381 * P + b) / 4294967296) := by omega
  rw [h1, h2]
  generalize (5381 * R + a) / 4294967296 = u
  generalize (5381 * P + b) / 4294967296 = v
  have e : (5381 * R + a - 4294967296 * u) * P + (5381 * P + b - 4294967296 * v) - 5381 * P = (5381 * (R * P) + (a * P + b)) + 4294967296 * (-(u * P) - v) := by
    rw [Int.sub_mul, Int.add_mul, Int.mul_assoc, Int.mul_assoc, Int.mul_sub, Int.mul_neg]
    omega
  rw [e, Int.add_mul_emod_self_left]
end partPlain

section partPair
/-- what the law asks of its pairs, whatever stands about them -/
structure PairOk (pair newer elder : Str) : Prop where
  new : ∀ one other : Str, gnuOf (octets (one ++ pair ++ other)) = gnuOf (octets (one ++ newer ++ other))
  old : ∀ other : Str, elfOf (octets (pair ++ other)) = elfOf (octets (elder ++ other))
  apart : ∀ one : Str, gnuOf (octets (one ++ pair)) ≠ gnuOf (octets (one ++ elder))

theorem two_ints {f g : Nat} (hf : f < 128) (hg : g < 128) : KBw.bInts (octets ⟨#[f, g]⟩) = [(f : Int), (g : Int)] :=
  ints_codes [f, g] (by
    intro c hc
    rcases List.mem_cons.mp hc with rfl | hc
    · exact hf
    · rw [List.mem_singleton.mp hc]; exact hg)
theorem two_elf {f g : Nat} (hf : f < 128) (hg : g < 128) : elfRaw [(f : Int), (g : Int)] = 16 * (f : Int) + g := by
  have h := elf_codes [f, g] 0 0 (by
    intro c hc
    rcases List.mem_cons.mp hc with rfl | hc
    · exact hf
    · rw [List.mem_singleton.mp hc]; exact hg) (by show 0 + 2 ≤ 6; decide) (by decide) (by decide)
  have h1 : elfRaw [(f : Int), (g : Int)] = ((0 : Int) * 16 + (f : Int)) * 16 + (g : Int) := h
  rw [h1]
  omega
theorem gnuOf_is (x : Str) : gnuOf (octets x) = (5381 * 33 ^ (KBw.bInts (octets x)).length + horner 33 (KBw.bInts (octets x))) % 4294967296 := by
  unfold gnuOf
  rw [gnuRaw_is]
theorem pair_ok {f g : Nat} (hf : f < 127) (hg0 : 33 ≤ g) (hg : g < 128) : PairOk ⟨#[f, g]⟩ ⟨#[f + 1, g - 33]⟩ ⟨#[f + 1, g - 16]⟩ := by
  have p1 := two_ints (f := f) (g := g) (by omega) hg
  have p2 := two_ints (f := f + 1) (g := g - 33) (by omega) (by omega)
  have p3 := two_ints (f := f + 1) (g := g - 16) (by omega) (by omega)
  have q1 : horner 33 [(f : Int), (g : Int)] = (f : Int) * 33 + g := by
    show ((0 : Int) * 33 + (f : Int)) * 33 + (g : Int) = _
    omega
  have q2 : horner 33 [((f + 1 : Nat) : Int), ((g - 33 : Nat) : Int)] = (f : Int) * 33 + g := by
    show ((0 : Int) * 33 + ((f + 1 : Nat) : Int)) * 33 + ((g - 33 : Nat) : Int) = _
    omega
  have q3 : horner 33 [((f + 1 : Nat) : Int), ((g - 16 : Nat) : Int)] = (f : Int) * 33 + g + 17 := by
    show ((0 : Int) * 33 + ((f + 1 : Nat) : Int)) * 33 + ((g - 16 : Nat) : Int) = _
    omega
  refine ⟨fun one other => ?_, fun other => ?_, fun one => ?_⟩
  · rw [gnuOf_is, gnuOf_is]
    simp only [ints_app, p1, p2, horner_app, q1, q2, List.length_append, List.length_cons, List.length_nil]
  · unfold elfOf
    rw [ints_app, ints_app, p1, p3]
    unfold elfRaw
    rw [List.foldl_append, List.foldl_append]
    have e1 := two_elf (f := f) (g := g) (by omega) hg
    have e3 := two_elf (f := f + 1) (g := g - 16) (by omega) (by omega)
    unfold elfRaw at e1 e3
    rw [e1, e3]
    congr 1
    omega
  · rw [gnuOf_is, gnuOf_is]
    simp only [ints_app, p1, p3, horner_app, q1, q3, List.length_append, List.length_cons, List.length_nil]
    omega
theorem pair_fine {f g : Nat} (hf : f < 128) (hg : g < 128) : Fine 2 ⟨#[f, g]⟩ :=
  fine_codes [f, g] (by
    intro c hc
    rcases List.mem_cons.mp hc with rfl | hc
    · exact hf
    · rw [List.mem_singleton.mp hc]; exact hg)
end partPair

section partLett
theorem lett_at {ls : List Str} (hc : ∀ x ∈ ls, ∃ c, x = ⟨#[c]⟩ ∧ c < 128) {k : Int} (h0 : 0 ≤ k) (h1 : k < 0 + ((((ls.length : Int) - 0).toNat : Nat) : Int)) : ∃ c, ls.getD k.toNat Str.empty = ⟨#[c]⟩ ∧ c < 128 := by
  have hlt : k.toNat < ls.length := by omega
  have e : ls.getD k.toNat Str.empty = ls[k.toNat] := by simp [List.getD, hlt]
  rw [e]
  exact hc _ (List.getElem_mem hlt)
theorem lett_one {ls : List Str} (hc : ∀ x ∈ ls, ∃ c, x = ⟨#[c]⟩ ∧ c < 128) {k : Int} (h0 : 0 ≤ k) (h1 : k < 0 + ((((ls.length : Int) - 0).toNat : Nat) : Int)) : (ls.getD k.toNat Str.empty).length = 1 := by
  obtain ⟨c, e, _⟩ := lett_at hc h0 h1
  rw [e]; rfl
theorem lett_bits {ls : List Str} (hc : ∀ x ∈ ls, ∃ c, x = ⟨#[c]⟩ ∧ c < 128) {k : Int} (h0 : 0 ≤ k) (h1 : k < 0 + ((((ls.length : Int) - 0).toNat : Nat) : Int)) : Builtin.Int.intBits (((ls.getD k.toNat Str.empty).cps.getD 0 0 : Nat) : Int) ≤ 64 := by
  obtain ⟨c, e, h⟩ := lett_at hc h0 h1
  rw [e]
  refine intBits_le_iff.mpr ?_
  show ((c : Nat) : Int).natAbs < 2 ^ 64
  have : ((c : Nat) : Int).natAbs = c := Int.natAbs_natCast c
  omega
theorem pow_sm {w : World} {A : Around} {E : Value → Shared → Prop} {s : Shared} {Q : Value → Shared → Prop} {t u : Tok} {a n : Int} (ha : Builtin.Int.intBits a ≤ 16) (hn : 0 ≤ n) (hn2 : n ≤ 1000) (h : Q (.int (a ^ n.toNat) s.toks) { s with toks := s.toks + 1 }) :
    wpAny (model PySem.Challenge.rw_ad5049_01.row.prog w) A (binaryOp .Pow (.int a t) (.int n u)) Q E s := by
  refine pow_int hn ?_ h
  obtain ⟨k, rfl⟩ := Int.eq_ofNat_of_zero_le hn
  have h1 : Builtin.Int.intBits a * k ≤ 16 * 1000 := Nat.mul_le_mul ha (by omega)
  have h2 : ((Builtin.Int.intBits a * k : Nat) : Int) = (Builtin.Int.intBits a : Int) * (k : Int) := Int.natCast_mul _ _
  omega
theorem len_us {w : World} {A : Around} {E : Value → Shared → Prop} {s : Shared} {h₀ : Heap} {L S : Addr} {news : List (Addr × Obj)} {us : List Value} {ls : List Str} {Q : Value → Shared → Prop}
    (N : News h₀ L s.heap news) (hm : (S, PySem.W.listOf us.toArray 0) ∈ news) (hS : StrsAre us ls) (hl : ls.length ≤ 6) (h : ∀ t' k, Q (.int (ls.length : Int) t') { s with toks := k }) :
    wpAny (model PySem.Challenge.rw_ad5049_01.row.prog w) A (call (.builtin "len") [.ref S]) Q E s := by
  have e : us.toArray.size = ls.length := by rw [List.size_toArray, StrsAre.length hS]
  refine len_list (News.isList N hm) ?_ ?_
  · rw [e]; omega
  · rw [e]; exact h _ _
theorem join_us {w : World} {A : Around} {E : Value → Shared → Prop} {s : Shared} {h₀ : Heap} {L S : Addr} {news : List (Addr × Obj)} {us : List Value} {ls : List Str} {Q : Value → Shared → Prop} {t : Tok}
    (N : News h₀ L s.heap news) (hm : (S, PySem.W.listOf us.toArray 0) ∈ news) (hS : StrsAre us ls) (hl : ls.length ≤ 6) (hc : ∀ x ∈ ls, ∃ c, x = ⟨#[c]⟩ ∧ c < 128) (h : ∀ t' k, Q (.str (Str.join (Str.ofString "") ls) t') { s with toks := k }) :
    wpAny (model PySem.Challenge.rw_ad5049_01.row.prog w) A (call (.builtin "str.join") [.str (Str.ofString "") t, .ref S]) Q E s := by
  refine join_list (News.isList N hm) hS ?_ (fun t' k => by
    rw [show Txt.join (Str.ofString "") ls = Str.join (Str.ofString "") ls from StrLaws.glued_eq_join _ _]
    exact h t' k)
  have h0 : (Str.ofString "").length = 0 := by decide +kernel
  rw [h0, Nat.mul_zero, Nat.add_zero]
  have h1 : ∀ l : List Str, (∀ x ∈ l, ∃ c, x = (⟨#[c]⟩ : Str) ∧ c < 128) → (l.map (·.length)).sum = l.length := by
    intro l
    induction l with
    | nil => intro _; rfl
    | cons x r ih =>
      intro hx
      obtain ⟨c, e, _⟩ := hx x (.head _)
      rw [List.map_cons, List.sum_cons, ih fun y hy => hx y (.tail _ hy), List.length_cons, e]
      show 1 + r.length = r.length + 1
      omega
  rw [h1 ls hc]
  omega
local macro_rules | `(tactic| walk_at "FINE") => `(tactic| first | assumption | exact Fine.app (by walk_at "FINE") (by walk_at "FINE"))
local macro_rules | `(tactic| walk_at "call builtin:len") => `(tactic| (k_here; (refine' len_us ?a ?b ?c ?d ?_; (case a => k_asm); (case b => k_mem); (case c => k_asm); (case d => k_asm)); intro _ _; (try dsimp only)))
local macro_rules | `(tactic| walk_at "call builtin:str.join") => `(tactic| (k_here; (refine' join_us ?a ?b ?c ?d ?e ?_; (case a => k_asm); (case b => k_mem); (case c => k_asm); (case d => k_asm); (case e => k_asm)); intro _ _; (try dsimp only)))
local macro_rules | `(tactic| walk_at "call ref") => `(tactic| (k_here; k_dflt (refine' gnu_s ?B ?F ?X ?N ?T ?hA ?hf ?hk ?hr ?hh ?hx ?hy ?_; (case B => k_asm); (case F => k_asm); (case X => k_asm); (case N => k_asm); (case T => k_asm); (case hA => exact rfl); (case hf => exact rfl); (case hk => exact rfl); (case hr => k_room); (case hh => exact rfl); (case hx => walk_at "FINE"); (case hy => decide)); intro t' h' tk' F' N'; (try k_sweep); (try dsimp only)))
local macro_rules | `(tactic| walk_at "call ref") => `(tactic| (k_here; k_dflt (refine' elf_s ?B ?F ?X ?N ?T ?hA ?hf ?hk ?hr ?hh ?hx ?hy ?_; (case B => k_asm); (case F => k_asm); (case X => k_asm); (case N => k_asm); (case T => k_asm); (case hA => exact rfl); (case hf => exact rfl); (case hk => exact rfl); (case hr => k_room); (case hh => exact rfl); (case hx => walk_at "FINE"); (case hy => decide)); intro t' h' tk' F' N'; (try k_sweep); (try dsimp only)))
local macro_rules | `(tactic| walk_at "compareOp NotEq int int") => `(tactic| (k_here; (refine' ne_o ?e ?_; (case e => first | exact lett_low (by assumption) (by assumption) | exact lett_high (by assumption))); (try dsimp only)))
local macro_rules | `(tactic| walk_at "call builtin:ord") => `(tactic| (k_here; (refine' ord_of_one ?z ?_; (case z => exact lett_one (by assumption) (by assumption) (by assumption)))))
local macro_rules | `(tactic| walk_at "binaryOp Pow int int") => `(tactic| (k_here; (refine' pow_sm ?z ?y ?x ?_; (case z => decide); (case y => omega); (case x => omega))))
local macro_rules | `(tactic| walk_at "binaryOp Mult int int") => `(tactic| (k_here; (refine' mul_int ?_ ?z; (case z => first | exact IntMulOk.of_left (by decide) | exact IntMulOk.of_left (lett_bits (by assumption) (by assumption) (by assumption))))))
theorem lett_turn {w : World} {h₀ : Heap} {L : Addr} {fa : Addr} {cdv : Value} {m mg mb : Str → Option Value} {s : Shared} {mean : ExcName → Option Value} {loose : List Str} {Q : Flow → Shared → Prop} {E : Value → Shared → Prop}
    {ln S : Addr} {vs us : List Value} {ls : List Str} {nn : Nat} {ol ox : Obj} {own : List (Addr × Obj)}
    (B : Below callerA h₀ [] h₀) (X : (hd.heap_39 w.params).In h₀) (T : Top hd.view_39 loose mean mg mb h₀)
    (F : Fr h₀ L s.heap m)
    (N : News h₀ L s.heap ((S, PySem.W.listOf us.toArray 0) :: (ln, PySem.W.listOf vs.toArray nn) :: (L + 1 + 1, ol) :: (L + 1, ox) :: own)) (hol : ol.data = .cell (some (.ref S)))
    (hS : StrsAre us ls) (hl : ls.length ≤ 6) (hc : ∀ x ∈ ls, ∃ c, x = ⟨#[c]⟩ ∧ c < 128) (hw : Fine 6 (Str.join (Str.ofString "") ls))
    (hQ : ∀ m' h' tk', (∀ y, y ≠ Str.ofString "low" → y ≠ Str.ofString "high" → m' y = m y) → Fr h₀ L h' m' → News h₀ L h' ((ln, PySem.W.listOf vs.toArray nn) :: (L + 1 + 1, ol) :: (L + 1, ox) :: own) → Q .next { s with heap := h', toks := tk' }) :
    wpAny (model PySem.Challenge.rw_ad5049_01.row.prog w) (callerA.deeper (lawEnv L fa cdv)) (execs (innerBody.drop 7) (lawEnv L fa cdv)) Q E s := by
  repeat' (first | (k_unfold; (try dsimp only)) | walk1 | (dsimp only; walk1))
  refine hQ _ _ _ ?_ (by k_asm) ?_
  · intro y h1 h2
    simp only [if_neg h1, if_neg h2]
  · (rename News _ _ _ _ => N9)
    exact fun p hp => N9 p (.tail _ (.tail _ (.tail _ (.tail _ hp))))
end partLett

section partInner
local macro_rules | `(tactic| walk_at "FINE") => `(tactic| first | assumption | exact Fine.app (by walk_at "FINE") (by walk_at "FINE"))
local macro_rules | `(tactic| walk_at "getMethod str") => `(tactic| (k_here; with_reducible refine method_encode ?_))
local macro_rules | `(tactic| walk_at "call builtin:str.encode") => `(tactic| (k_here; (refine' enc_s ?k1 ?k2 ?_; (case k1 => walk_at "FINE"); (case k2 => decide)); intro _))
local macro_rules | `(tactic| walk_at "call ref") => `(tactic| (k_here; k_dflt (refine' gnu_s ?B ?F ?X ?N ?T ?hA ?hf ?hk ?hr ?hh ?hx ?hy ?_; (case B => k_asm); (case F => k_asm); (case X => k_asm); (case N => k_asm); (case T => k_asm); (case hA => exact rfl); (case hf => exact rfl); (case hk => exact rfl); (case hr => k_room); (case hh => exact rfl); (case hx => walk_at "FINE"); (case hy => decide)); intro t' h' tk' F' N'; (try k_sweep); (try dsimp only)))
local macro_rules | `(tactic| walk_at "call ref") => `(tactic| (k_here; k_dflt (refine' elf_s ?B ?F ?X ?N ?T ?hA ?hf ?hk ?hr ?hh ?hx ?hy ?_; (case B => k_asm); (case F => k_asm); (case X => k_asm); (case N => k_asm); (case T => k_asm); (case hA => exact rfl); (case hf => exact rfl); (case hk => exact rfl); (case hr => k_room); (case hh => exact rfl); (case hx => walk_at "FINE"); (case hy => decide)); intro t' h' tk' F' N'; (try k_sweep); (try dsimp only)))
local macro_rules | `(tactic| walk_at "call ref") => `(tactic| (k_here; k_dflt (refine' elf_b ?B ?F ?X ?N ?T ?hA ?hf ?hk ?hr ?hh ?hx ?hy ?_; (case B => k_asm); (case F => k_asm); (case X => k_asm); (case N => k_asm); (case T => k_asm); (case hA => exact rfl); (case hf => exact rfl); (case hk => exact rfl); (case hr => k_room); (case hh => exact rfl); (case hx => walk_at "FINE"); (case hy => decide)); intro t' h' tk' F' N'; (try k_sweep); (try dsimp only)))
local macro_rules | `(tactic| walk_at "call ref") => `(tactic| (k_here; k_dflt (refine' gnu_b ?B ?F ?X ?N ?T ?hA ?hf ?hk ?hr ?hh ?_; (case B => k_asm); (case F => k_asm); (case X => k_asm); (case N => k_asm); (case T => k_asm); (case hA => exact rfl); (case hf => exact rfl); (case hk => exact rfl); (case hr => k_room); (case hh => exact rfl)); intro t' h' tk' F' N'; (try k_sweep); (try dsimp only)))
local macro_rules | `(tactic| walk_at "call builtin:len") => `(tactic| (k_here; (refine' len_o ?k1 ?k2 ?_; (case k1 => walk_at "FINE"); (case k2 => decide))))
local macro_rules | `(tactic| walk_at "binaryOp Pow int int") => `(tactic| (k_here; (refine' pow_o ?k1 ?k2 ?_; (case k1 => exact Fine.le (by walk_at "FINE") (by decide)); (case k2 => decide))))
local macro_rules | `(tactic| walk_at "binaryOp Mult int int") => `(tactic| (k_here; (refine' mul_int ?_ ?z; (case z => first | exact IntMulOk.of_left (gnuOf_bits _) | exact IntMulOk.of_left (by decide))); (try dsimp only)))
local macro_rules | `(tactic| walk_at "compareOp NotEq int int") => `(tactic| (k_here; (refine' ne_o ?e ?_; (case e => first | (with_reducible exact rfl) | exact joined_law _ _ | exact PairOk.new (by assumption) _ _ | exact PairOk.old (by assumption) _)); (try dsimp only)))
local macro_rules | `(tactic| walk_at "compareOp Eq int int") => `(tactic| (k_here; (refine' eq_o ?e ?_; (case e => exact PairOk.apart (by assumption) _)); (try dsimp only)))
local macro_rules | `(tactic| walk_at "binaryOp Add str str") => `(tactic| (k_here; (refine' add_o ?k1 ?k2 ?k3 ?_; (case k1 => walk_at "FINE"); (case k2 => walk_at "FINE"); (case k3 => decide)); intro _ _))
local macro_rules | `(tactic| walk_at "pyIter str") => `(tactic| (k_here; (refine' signs_src (fun a => decide (a.cps.toList < (Str.ofString "\x80").cps.toList)) ?hh ?F ?N ?hz ?g1 ?g2 ?_; (case hh => exact rfl); (case F => k_asm); (case N => k_asm); (case hz => exact Fine.len (by walk_at "FINE") (by decide)); (case g1 => (intros; k_steps; exact keeps_same)); (case g2 => (intros; k_steps; all_goals (first | exact keeps_id | exact Carried.str _ _)))); intro D' ys' n' h' tk' F' N' hne' hys'; (try k_sweep); (try dsimp only)))
local macro_rules | `(tactic| walk_at "subscriptTail ListComp") => `(tactic| (k_here; (refine' cut_src ?F ?N ?hz ?_ ?hs; (case F => k_asm); (case N => k_asm); (case hz => exact sg_len (by assumption) (by walk_at "FINE") (by decide)); (case hs => with_unfolding_all rfl)); intro S' h' F' N' l1; (try k_lt l1); (try k_sweep); (try dsimp only)))
local macro_rules | `(tactic| walk_at "binaryOp Add ref ref") => `(tactic| (k_here; (refine' cat_src ?F ?N ?hz ?_; (case F => k_asm); (case N => k_asm); (case hz => exact cut_len _ _)); intro S' h' F' N' l1; (try k_lt l1); (try k_sweep); (try dsimp only)))
local macro_rules | `(tactic| walk_at "execs cons Assign") => `(tactic| (k_here; (refine' lett_turn ?B ?X ?T ?F ?N ?hol ?hS ?hl ?hc ?hw ?_; (case B => k_asm); (case X => k_asm); (case T => k_asm); (case F => k_asm); (case N => k_asm); (case hol => k_asm); (case hS => exact StrsAre.append' (StrsAre.take' (by assumption) 3) (StrsAre.take' (by assumption) 3)); (case hl => exact sg_six); (case hc => exact sg_letters); (case hw => exact lett_fine sg_letters sg_six))))
theorem inner_turn {w : World} {h₀ : Heap} {L : Addr} {fa : Addr} {cdv : Value} {m mg mb : Str → Option Value} {s : Shared} {mean : ExcName → Option Value} {loose : List Str} {Q : Flow → Shared → Prop} {E : Value → Shared → Prop}
    {ln : Addr} {vs : List Value} {nn : Nat} {ol ox : Obj} {vl : Option Value} {own : List (Addr × Obj)} {one other pair newer elder : Str} {t1 t2 t3 t4 t5 : Tok}
    (B : Below callerA h₀ [] h₀) (X : (hd.heap_39 w.params).In h₀) (T : Top hd.view_39 loose mean mg mb h₀)
    (F : Fr h₀ L s.heap (fun z => if z = Str.ofString "other" then some (.str other t2) else if z = Str.ofString "one" then some (.str one t1) else if z = Str.ofString "pair" then some (.str pair t3) else if z = Str.ofString "newer" then some (.str newer t4) else if z = Str.ofString "elder" then some (.str elder t5) else m z))
    (N : News h₀ L s.heap ((ln, PySem.W.listOf vs.toArray nn) :: (L + 1 + 1, ol) :: (L + 1, ox) :: own)) (hoff : OwnOff own [ln, L + 1 + 1, L + 1]) (hol : ol.data = .cell vl) (hln : @LT.lt Nat _ (L + 1 + 1) ln)
    (f1 : Fine 14 one) (f2 : Fine 14 other) (f3 : Fine 2 pair) (f4 : Fine 2 newer) (f5 : Fine 2 elder) (ok : PairOk pair newer elder)
    (hQ : ∀ m' h' tk' o' v', (∀ y, y ≠ Str.ofString "many" → y ≠ Str.ofString "joined" → y ≠ Str.ofString "low" → y ≠ Str.ofString "high" → m' y = (fun z => if z = Str.ofString "other" then some (Value.str other t2) else if z = Str.ofString "one" then some (.str one t1) else if z = Str.ofString "pair" then some (.str pair t3) else if z = Str.ofString "newer" then some (.str newer t4) else if z = Str.ofString "elder" then some (.str elder t5) else m z) y) →
      Fr h₀ L h' m' → News h₀ L h' ((ln, PySem.W.listOf vs.toArray nn) :: (L + 1 + 1, o') :: (L + 1, ox) :: own) → o'.data = .cell v' → Q .next { s with heap := h', toks := tk' }) :
    wpAny (model PySem.Challenge.rw_ad5049_01.row.prog w) (callerA.deeper (lawEnv L fa cdv)) (execs innerBody (lawEnv L fa cdv)) Q E s := by
  repeat' (first | (k_unfold; (try dsimp only)) | walk1 | (dsimp only; walk1))
  rename_i m' h' tk' hm F' N'
  exact hQ m' h' tk' _ _ (fun y h1 h2 h3 h4 => (hm y h3 h4).trans (by simp only [if_neg h1, if_neg h2])) F' N' (by assumption)
end partInner

section partLoops
/-- what the law's loops leave of the frame -/
structure Kept (ln : Addr) (pair newer elder : Str) (t3 t4 t5 : Tok) (m : Str → Option Value) : Prop where
  names : m (Str.ofString "names") = some (.ref ln)
  pair : m (Str.ofString "pair") = some (.str pair t3)
  newer : m (Str.ofString "newer") = some (.str newer t4)
  elder : m (Str.ofString "elder") = some (.str elder t5)
theorem Kept.of {ln : Addr} {pair newer elder : Str} {t3 t4 t5 : Tok} {m m' : Str → Option Value} (k : Kept ln pair newer elder t3 t4 t5 m)
    (h : ∀ y, y = Str.ofString "names" ∨ y = Str.ofString "pair" ∨ y = Str.ofString "newer" ∨ y = Str.ofString "elder" → m' y = m y) : Kept ln pair newer elder t3 t4 t5 m' :=
  ⟨(h _ (.inl rfl)).trans k.names, (h _ (.inr (.inl rfl))).trans k.pair, (h _ (.inr (.inr (.inl rfl)))).trans k.newer, (h _ (.inr (.inr (.inr rfl)))).trans k.elder⟩
theorem chain_eq {pair newer elder one other : Str} {t1 t2 t3 t4 t5 : Tok} {ln : Addr} {m : Str → Option Value} (k : Kept ln pair newer elder t3 t4 t5 m) (ho : m (Str.ofString "one") = some (.str one t1)) :
    (fun z => if z = Str.ofString "other" then some (Value.str other t2) else m z) = fun z => if z = Str.ofString "other" then some (Value.str other t2) else if z = Str.ofString "one" then some (.str one t1) else if z = Str.ofString "pair" then some (.str pair t3) else if z = Str.ofString "newer" then some (.str newer t4) else if z = Str.ofString "elder" then some (.str elder t5) else m z := by
  funext z
  by_cases h0 : z = Str.ofString "other"
  · rw [if_pos h0, if_pos h0]
  · rw [if_neg h0, if_neg h0]
    by_cases h1 : z = Str.ofString "one"
    · rw [if_pos h1, h1, ho]
    · rw [if_neg h1]
      by_cases h2 : z = Str.ofString "pair"
      · rw [if_pos h2, h2, k.pair]
      · rw [if_neg h2]
        by_cases h3 : z = Str.ofString "newer"
        · rw [if_pos h3, h3, k.newer]
        · rw [if_neg h3]
          by_cases h4 : z = Str.ofString "elder"
          · rw [if_pos h4, h4, k.elder]
          · rw [if_neg h4]

theorem loops_turn {w : World} {h₀ : Heap} {L : Addr} {fa : Addr} {cdv : Value} {m mg mb : Str → Option Value} {s : Shared} {mean : ExcName → Option Value} {loose : List Str} {Q : Flow → Shared → Prop} {E : Value → Shared → Prop}
    {ln : Addr} {vs : List Value} {nn : Nat} {ol ox : Obj} {vl : Option Value} {pair newer elder : Str} {t3 t4 t5 : Tok}
    (B : Below callerA h₀ [] h₀) (X : (hd.heap_39 w.params).In h₀) (T : Top hd.view_39 loose mean mg mb h₀)
    (F : Fr h₀ L s.heap m) (K : Kept ln pair newer elder t3 t4 t5 m)
    (N : News h₀ L s.heap [(ln, PySem.W.listOf vs.toArray nn), (L + 1 + 1, ol), (L + 1, ox)]) (hol : ol.data = .cell vl) (hln : @LT.lt Nat _ (L + 1 + 1) ln)
    (hv : ∀ v ∈ vs, ∃ x t, v = .str x t ∧ Fine 14 x) (f3 : Fine 2 pair) (f4 : Fine 2 newer) (f5 : Fine 2 elder) (ok : PairOk pair newer elder)
    (hE : PassesOwn (model PySem.Challenge.rw_ad5049_01.row.prog w) (callerA.deeper (lawEnv L fa cdv)) (lawEnv L fa cdv) E)
    (hQ : ∀ m' h' tk' o', Fr h₀ L h' m' → News h₀ L h' [(ln, PySem.W.listOf vs.toArray nn), (L + 1 + 1, o'), (L + 1, ox)] → Q (.ret (.bool true)) { s with heap := h', toks := tk' }) :
    wpAny (model PySem.Challenge.rw_ad5049_01.row.prog w) (callerA.deeper (lawEnv L fa cdv)) (execs (lawBody.drop 7) (lawEnv L fa cdv)) Q E s := by
  refine wpAny_execs_cons ?_
  refine' For_turns (hE := hE) F ?_
  refine nameX_L F K.names ?_
  refine listTurns (J := fun _ m₁ nx => (∃ o' v', o'.data = .cell v' ∧ nx = [(ln, PySem.W.listOf vs.toArray nn), (L + 1 + 1, o'), (L + 1, ox)]) ∧ Kept ln pair newer elder t3 t4 t5 m₁) rfl (.head _) F N ⟨⟨ol, vl, hol, rfl⟩, K⟩ ?turn ?done
  case done =>
    rintro m₁ nx h tk ⟨⟨o', v', hd', rfl⟩, K'⟩ F₁ N₁
    show wpAny _ _ (execs _ _) Q E _
    k_steps
    exact hQ _ _ _ _ F₁ N₁
  case turn =>
    rintro i v m₁ nx h tk own hvi hoff hmem ⟨⟨o', v', hd', rfl⟩, K'⟩ F₁ N₁
    obtain ⟨one, t1, rfl, f1⟩ := hv v (List.mem_of_getElem? hvi)
    refine wpAny_assign_Name (storeX_L F₁ N₁ ?_)
    intro h1 F₂ N₂
    (try dsimp only)
    refine wpAny_execs_cons ?_
    have K₂ : Kept ln pair newer elder t3 t4 t5 (fun y => if y = Str.ofString "one" then some (Value.str one t1) else m₁ y) := K'.of fun y hy => by
      rcases hy with rfl | rfl | rfl | rfl <;> exact if_neg (by decide)
    refine' For_turns (hE := hE) F₂ ?_
    refine nameX_L F₂ K₂.names ?_
    refine listTurns (J := fun _ m₂ nx => (∃ o'' v'', o''.data = .cell v'' ∧ nx = (ln, PySem.W.listOf vs.toArray nn) :: (L + 1 + 1, o'') :: (L + 1, ox) :: own) ∧ Kept ln pair newer elder t3 t4 t5 m₂ ∧ m₂ (Str.ofString "one") = some (.str one t1)) rfl (.head _) F₂ N₂ ⟨⟨o', v', hd', rfl⟩, K₂, if_pos rfl⟩ ?turn2 ?done2
    case done2 =>
      rintro m₂ nx h2 tk2 ⟨⟨o'', v'', hd'', rfl⟩, K'', h1o⟩ F₃ N₃
      show wpAny _ _ (execs [] _) _ E _
      refine wpAny_execs_nil ?_
      refine ⟨h2, tk2, m₂, _, [(ln, PySem.W.listOf vs.toArray nn), (L + 1 + 1, o''), (L + 1, ox)], rfl, F₃, N₃, ?_, ?_, hoff, .head _, ⟨o'', v'', hd'', rfl⟩, K''⟩
      · intro p hp
        exact List.mem_append_left own hp
      · intro p hp
        exact List.mem_append_right [(ln, PySem.W.listOf vs.toArray nn), (L + 1 + 1, o''), (L + 1, ox)] hp
    case turn2 =>
      rintro j u m₂ nx h2 tk2 own2 huj hoff2 hmem2 ⟨⟨o'', v'', hd'', rfl⟩, K'', h1o⟩ F₃ N₃
      obtain ⟨other, t2, rfl, f2⟩ := hv u (List.mem_of_getElem? huj)
      refine wpAny_assign_Name (storeX_L F₃ N₃ ?_)
      intro h3 F₄ N₄
      (try dsimp only)
      rw [chain_eq K'' h1o] at F₄
      refine inner_turn (own := own ++ own2) B X T F₄ N₄ ?_ hd'' hln f1 f2 f3 f4 f5 ok ?_
      · intro p hp b hb
        rcases List.mem_append.mp hp with hp | hp
        · exact hoff p hp b hb
        · refine hoff2 p hp b ?_
          rcases List.mem_cons.mp hb with rfl | hb
          · exact .head _
          · rcases List.mem_cons.mp hb with rfl | hb
            · exact .tail _ (.head _)
            · rw [List.mem_singleton.mp hb]; exact .tail _ (.tail _ (.head _))
      · intro m' h' tk' o3 v3 hm F₅ N₅ hd3
        have e : ∀ y, y = Str.ofString "names" ∨ y = Str.ofString "pair" ∨ y = Str.ofString "newer" ∨ y = Str.ofString "elder" ∨ y = Str.ofString "one" → m' y = m₂ y := by
          intro y hy
          have h5 := congrFun (chain_eq (t2 := t2) (other := other) K'' h1o) y
          refine (hm y ?_ ?_ ?_ ?_).trans (h5.symm.trans (if_neg ?_)) <;> rcases hy with rfl | rfl | rfl | rfl | rfl <;> decide
        refine ⟨h', tk', m', _, (ln, PySem.W.listOf vs.toArray nn) :: (L + 1 + 1, o3) :: (L + 1, ox) :: own, rfl, F₅, N₅, ?_, ?_, hoff2, .head _, ⟨o3, v3, hd3, rfl⟩, K''.of fun y hy => e y ?_, (e _ (.inr (.inr (.inr (.inr rfl))))).trans h1o⟩
        · intro p hp
          exact List.mem_append_left own2 hp
        · intro p hp
          exact List.mem_append_right ((ln, PySem.W.listOf vs.toArray nn) :: (L + 1 + 1, o3) :: (L + 1, ox) :: own) hp
        · rcases hy with h | h | h | h
          · exact .inl h
          · exact .inr (.inl h)
          · exact .inr (.inr (.inl h))
          · exact .inr (.inr (.inr (.inl h)))
end partLoops

section partMid
theorem fine_one {c : Nat} (h : c < 128) : Fine 1 ⟨#[c]⟩ := fine_codes [c] (by
  intro d hd
  rw [List.mem_singleton.mp hd]; exact h)
theorem fine_nil : Fine 0 (Str.ofString "") := by
  have e : Str.ofString "" = ⟨([] : List Nat).toArray⟩ := by decide +kernel
  rw [e]; exact fine_codes [] fun _ h => nomatch h
theorem fine_acute : Fine 2 (Str.ofString "é") := by
  have e : Str.ofString "é" = ⟨#[233]⟩ := by decide +kernel
  rw [e]
  refine ⟨?_, by decide +kernel⟩
  intro c hc
  have : c = 233 := by simpa using hc
  rw [this]; decide
theorem gnu_nil : gnuOf (octets (Str.ofString "")) = 5381 := by decide +kernel
theorem elf_nil : elfOf (octets (Str.ofString "")) = 0 := by decide +kernel
theorem gnu_acute : gnuOf (octets (Str.ofString "é")) = 5381 * 1089 + 33 * 195 + 169 := by decide +kernel
theorem elf_acute : elfOf (octets (Str.ofString "é")) = 16 * 195 + 169 := by decide +kernel
theorem two_app (a b : Nat) : (⟨#[a]⟩ : Str) ++ (⟨#[b]⟩ : Str) = ⟨#[a, b]⟩ := rfl
theorem gnu_pair {f g : Int} (f0 : 0 ≤ f) (f1 : f < 128) (g0 : 0 ≤ g) (g1 : g < 128) : gnuOf (octets ((⟨#[f.toNat]⟩ : Str) ++ (⟨#[g.toNat]⟩ : Str))) = 5381 * 1089 + 33 * f + g := by
  rw [two_app]
  unfold gnuOf
  rw [two_ints (by omega) (by omega)]
  show (((5381 : Int) * 33 + (f.toNat : Int)) * 33 + (g.toNat : Int)) % 4294967296 = _
  omega
theorem elf_pair {f g : Int} (f0 : 0 ≤ f) (f1 : f < 128) (g0 : 0 ≤ g) (g1 : g < 128) : elfOf (octets ((⟨#[f.toNat]⟩ : Str) ++ (⟨#[g.toNat]⟩ : Str))) = 16 * f + g := by
  rw [two_app]
  unfold elfOf
  rw [two_ints (by omega) (by omega), two_elf (by omega) (by omega)]
  omega
theorem pairs_ok {f g : Int} (f0 : 0 ≤ f) (f1 : f < 127) (g0 : 33 ≤ g) (g1 : g < 128) : PairOk ((⟨#[f.toNat]⟩ : Str) ++ (⟨#[g.toNat]⟩ : Str)) ((⟨#[(f + 1).toNat]⟩ : Str) ++ (⟨#[(g - 33).toNat]⟩ : Str)) ((⟨#[(f + 1).toNat]⟩ : Str) ++ (⟨#[(g - 16).toNat]⟩ : Str)) := by
  rw [two_app, two_app, two_app]
  have h1 : (f + 1).toNat = f.toNat + 1 := by omega
  have h2 : (g - 33).toNat = g.toNat - 33 := by omega
  have h3 : (g - 16).toNat = g.toNat - 16 := by omega
  rw [h1, h2, h3]
  exact pair_ok (by omega) (by omega) (by omega)
local macro_rules | `(tactic| walk_at "FINE") => `(tactic| first | assumption | exact fine_nil | exact fine_acute | exact fine_one (by omega) | exact Fine.app (by walk_at "FINE") (by walk_at "FINE"))
local macro_rules | `(tactic| walk_at "call ref") => `(tactic| (k_here; k_dflt (refine' gnu_s ?B ?F ?X ?N ?T ?hA ?hf ?hk ?hr ?hh ?hx ?hy ?_; (case B => k_asm); (case F => k_asm); (case X => k_asm); (case N => k_asm); (case T => k_asm); (case hA => exact rfl); (case hf => exact rfl); (case hk => exact rfl); (case hr => k_room); (case hh => exact rfl); (case hx => walk_at "FINE"); (case hy => decide)); intro t' h' tk' F' N'; (try k_sweep); (try dsimp only)))
local macro_rules | `(tactic| walk_at "call ref") => `(tactic| (k_here; k_dflt (refine' elf_s ?B ?F ?X ?N ?T ?hA ?hf ?hk ?hr ?hh ?hx ?hy ?_; (case B => k_asm); (case F => k_asm); (case X => k_asm); (case N => k_asm); (case T => k_asm); (case hA => exact rfl); (case hf => exact rfl); (case hk => exact rfl); (case hr => k_room); (case hh => exact rfl); (case hx => walk_at "FINE"); (case hy => decide)); intro t' h' tk' F' N'; (try k_sweep); (try dsimp only)))
local macro_rules | `(tactic| walk_at "call builtin:chr") => `(tactic| (k_here; (refine' chr_of_range ?a ?b ?_; (case a => omega); (case b => omega)); (try dsimp only)))
local macro_rules | `(tactic| walk_at "binaryOp Add str str") => `(tactic| (k_here; (refine' add_o ?k1 ?k2 ?k3 ?_; (case k1 => walk_at "FINE"); (case k2 => walk_at "FINE"); (case k3 => decide)); intro _ _; (try dsimp only)))
local macro_rules | `(tactic| walk_at "binaryOp Mult int int") => `(tactic| (k_here; (refine' mul_int ?_ ?z; (case z => exact IntMulOk.of_left (by decide))); (try dsimp only)))
local macro_rules | `(tactic| walk_at "compareOp NotEq int int") => `(tactic| (k_here; (refine' ne_o ?e ?_; (case e => first | exact gnu_nil | exact elf_nil | exact gnu_acute | exact elf_acute | exact gnu_pair (by omega) (by omega) (by omega) (by omega) | exact elf_pair (by omega) (by omega) (by omega) (by omega))); (try dsimp only)))
theorem news_tail {h₀ h : Heap} {L : Addr} {a : Addr × Obj} {r : List (Addr × Obj)} (N : News h₀ L h (a :: r)) : News h₀ L h r := fun p hp => N p (.tail _ hp)
theorem fine_two {x y : Str} (hx : Fine 1 x) (hy : Fine 1 y) : Fine 2 (x ++ y) := Fine.app hx hy
local macro_rules | `(tactic| walk_at "execs cons For") => `(tactic| (k_here; (refine' loops_turn ?B ?X ?T ?F ?K ?N ?hol ?hln ?hv ?f3 ?f4 ?f5 ?ok ?hE ?hQ; (case B => k_asm); (case X => k_asm); (case T => k_asm); (case F => k_asm); (case K => exact ⟨rfl, rfl, rfl, rfl⟩); (case N => exact news_tail (by k_asm)); (case hol => k_asm); (case hln => k_asm); (case hv => k_asm); (case f3 => exact fine_two (fine_one (by omega)) (fine_one (by omega))); (case f4 => exact fine_two (fine_one (by omega)) (fine_one (by omega))); (case f5 => exact fine_two (fine_one (by omega)) (fine_one (by omega))); (case ok => exact pairs_ok (by omega) (by omega) (by omega) (by omega)); (case hE => k_asm); (case hQ => k_asm))))
theorem pairs_turn {w : World} {h₀ : Heap} {L : Addr} {fa : Addr} {cdv : Value} {m mg mb : Str → Option Value} {s : Shared} {mean : ExcName → Option Value} {loose : List Str} {Q : Flow → Shared → Prop} {E : Value → Shared → Prop}
    {ln : Addr} {vs : List Value} {nn : Nat} {ol ox : Obj} {vl : Option Value} {f g : Int} {t1 t2 : Tok} {ua : Option Value}
    (B : Below callerA h₀ [] h₀) (X : (hd.heap_39 w.params).In h₀) (T : Top hd.view_39 loose mean mg mb h₀)
    (F : Fr h₀ L s.heap (fun z => if z = Str.ofString "first" then some (Value.int f t1) else if z = Str.ofString "second" then some (Value.int g t2) else if z = Str.ofString "a" then ua else if z = Str.ofString "names" then some (Value.ref ln) else m z))
    (N : News h₀ L s.heap [(ln, PySem.W.listOf vs.toArray nn), (L + 1 + 1, ol), (L + 1, ox)]) (hol : ol.data = .cell vl) (hln : @LT.lt Nat _ (L + 1 + 1) ln)
    (hv : ∀ v ∈ vs, ∃ x t, v = .str x t ∧ Fine 14 x) (f0 : 97 ≤ f) (f1 : f ≤ 121) (g0 : 82 ≤ g) (g1 : g ≤ 122)
    (hE : PassesOwn (model PySem.Challenge.rw_ad5049_01.row.prog w) (callerA.deeper (lawEnv L fa cdv)) (lawEnv L fa cdv) E)
    (hQ : ∀ m' h' tk' o', Fr h₀ L h' m' → News h₀ L h' [(ln, PySem.W.listOf vs.toArray nn), (L + 1 + 1, o'), (L + 1, ox)] → Q (.ret (.bool true)) { s with heap := h', toks := tk' }) :
    wpAny (model PySem.Challenge.rw_ad5049_01.row.prog w) (callerA.deeper (lawEnv L fa cdv)) (execs (lawBody.drop 4) (lawEnv L fa cdv)) Q E s := by
  repeat' (first | (k_unfold; (try dsimp only)) | walk1 | (dsimp only; walk1))
end partMid

section partAmid
theorem item_first {us : List Value} {ns : List Int} (hI : IntsAre us ns) (hne : decide (ns = []) = false) : ∃ n t, us.toArray[0]? = some (Value.int n t) := by
  cases hI with
  | nil => cases hne
  | cons n t r => exact ⟨n, t, rfl⟩
theorem rng_f (a : Int) : 97 ≤ 97 + Int.fmod a 25 ∧ 97 + Int.fmod a 25 ≤ 121 := by
  rw [Int.fmod_eq_emod_of_nonneg _ (by decide)]
  omega
theorem rng_g (a : Int) : 82 ≤ 82 + Int.fmod a 41 ∧ 82 + Int.fmod a 41 ≤ 122 := by
  rw [Int.fmod_eq_emod_of_nonneg _ (by decide)]
  omega
local macro_rules | `(tactic| walk_at "subscriptTail Name Constant") => `(tactic| (k_here; (obtain ⟨n', t', e'⟩ := item_first (by assumption) (by assumption)); (refine' item_list ?a ?b ?c ?d ?_; (case a => kmk_list); (case b => decide); (case c => decide); (case d => exact e'))))
local macro_rules | `(tactic| walk_at "execs cons Assign") => `(tactic| (k_here; (refine' pairs_turn ?B ?X ?T ?F ?N ?hol ?hln ?hv ?f0 ?f1 ?g0 ?g1 ?hE ?hQ; (case B => k_asm); (case X => k_asm); (case T => k_asm); (case F => k_asm); (case N => exact news_tail (news_tail (by k_asm))); (case hol => k_asm); (case hln => k_asm); (case hv => k_asm); (case f0 => exact (rng_f _).1); (case f1 => exact (rng_f _).2); (case g0 => exact (rng_g _).1); (case g1 => exact (rng_g _).2); (case hE => k_asm); (case hQ => k_asm))))
theorem a_turn {w : World} {h₀ : Heap} {L l : Addr} {fa : Addr} {cdv : Value} {m mg mb : Str → Option Value} {s : Shared} {mean : ExcName → Option Value} {loose : List Str} {Q : Flow → Shared → Prop} {E : Value → Shared → Prop}
    {ln : Addr} {vs us : List Value} {ns : List Int} {nn : Nat} {ol ox : Obj} {vl : Option Value}
    (B : Below callerA h₀ [] h₀) (X : (hd.heap_39 w.params).In h₀) (T : Top hd.view_39 loose mean mg mb h₀)
    (hL : h₀.IsList l us.toArray) (hI : IntsAre us ns)
    (F : Fr h₀ L s.heap (fun z => if z = Str.ofString "names" then some (Value.ref ln) else if z = Str.ofString "script" then some (Value.ref l) else m z))
    (N : News h₀ L s.heap [(ln, PySem.W.listOf vs.toArray nn), (L + 1 + 1, ol), (L + 1, ox)]) (hol : ol.data = .cell vl) (hln : @LT.lt Nat _ (L + 1 + 1) ln)
    (hv : ∀ v ∈ vs, ∃ x t, v = .str x t ∧ Fine 14 x)
    (hE : PassesOwn (model PySem.Challenge.rw_ad5049_01.row.prog w) (callerA.deeper (lawEnv L fa cdv)) (lawEnv L fa cdv) E)
    (hQ : ∀ m' h' tk' o', Fr h₀ L h' m' → News h₀ L h' [(ln, PySem.W.listOf vs.toArray nn), (L + 1 + 1, o'), (L + 1, ox)] → Q (.ret (.bool true)) { s with heap := h', toks := tk' }) :
    wpAny (model PySem.Challenge.rw_ad5049_01.row.prog w) (callerA.deeper (lawEnv L fa cdv)) (execs (lawBody.drop 2) (lawEnv L fa cdv)) Q E s := by
  repeat' (first | (k_unfold; (try dsimp only)) | walk1 | (dsimp only; walk1))
end partAmid

section partNbody
def nameBody : List Stmt := forBody ((lawBody.drop 1).headD (.Pass ⟨0, 0, 0, 0⟩))
theorem join_fine : ∀ l : List Str, (∀ x ∈ l, Fine 2 x) → Fine (2 * l.length) (Str.join (Str.ofString "") l)
  | [], _ => by
    have e : Str.join (Str.ofString "") ([] : List Str) = ⟨([] : List Nat).toArray⟩ := rfl
    rw [e]; exact fine_codes [] fun _ h => nomatch h
  | [x], h => h x (.head _)
  | x :: y :: r, h => by
    have ih := join_fine (y :: r) fun z hz => h z (.tail _ hz)
    have e : Str.join (Str.ofString "") (x :: y :: r) = x ++ Str.ofString "" ++ Str.join (Str.ofString "") (y :: r) := rfl
    rw [e]
    have h1 := Fine.app (Fine.app (h x (.head _)) fine_nil) ih
    refine ⟨h1.1, Nat.le_trans h1.2 ?_⟩
    simp only [List.length_cons]
    omega
theorem item_fine {j : Int} (h0 : 0 ≤ j) (h1 : j < 10) : Fine 2 (Txt.item (Str.ofString "abcxyz09_é") j) := by
  have key : ∀ k : Nat, k < 10 → Clean (Txt.item (Str.ofString "abcxyz09_é") (k : Int)) ∧ (octets (Txt.item (Str.ofString "abcxyz09_é") (k : Int))).size ≤ 2 := by
    intro k hk
    have hc : ∃ c, Txt.item (Str.ofString "abcxyz09_é") (k : Int) = ⟨#[c]⟩ ∧ c < 256 := by
      have : k = 0 ∨ k = 1 ∨ k = 2 ∨ k = 3 ∨ k = 4 ∨ k = 5 ∨ k = 6 ∨ k = 7 ∨ k = 8 ∨ k = 9 := by omega
      rcases this with rfl | rfl | rfl | rfl | rfl | rfl | rfl | rfl | rfl | rfl
      · exact ⟨97, by decide +kernel, by decide⟩
      · exact ⟨98, by decide +kernel, by decide⟩
      · exact ⟨99, by decide +kernel, by decide⟩
      · exact ⟨120, by decide +kernel, by decide⟩
      · exact ⟨121, by decide +kernel, by decide⟩
      · exact ⟨122, by decide +kernel, by decide⟩
      · exact ⟨48, by decide +kernel, by decide⟩
      · exact ⟨57, by decide +kernel, by decide⟩
      · exact ⟨95, by decide +kernel, by decide⟩
      · exact ⟨233, by decide +kernel, by decide⟩
    obtain ⟨c, e, hlt⟩ := hc
    rw [e]
    refine ⟨?_, ?_⟩
    · intro d hd
      have : d = c := by simpa using hd
      rw [this]
      unfold Str.isSurrogate
      have h1 : ¬ (0xD800 ≤ c) := by omega
      simp [h1]
    · rw [octets_list]
      show (([c].flatMap Str.utf8Of).toArray).size ≤ 2
      rw [List.size_toArray, List.flatMap_cons, List.flatMap_nil, List.append_nil]
      unfold Str.utf8Of
      split
      · simp
      · rw [if_pos (by omega)]; simp
  obtain ⟨k, rfl⟩ := Int.eq_ofNat_of_zero_le h0
  exact key k (by omega)
/-- a name that the law builds -/
theorem name_fine {n : Int} (h1 : n.fmod 8 < 8) : Fine 14 (Str.join (Str.ofString "") ((rangeKs 0 (n.fmod 8 - 0).toNat).map fun k => Txt.item (Str.ofString "abcxyz09_é") ((n.fdiv (10 ^ k.toNat)).fmod 10))) := by
  have h := join_fine ((rangeKs 0 (n.fmod 8 - 0).toNat).map fun k => Txt.item (Str.ofString "abcxyz09_é") ((n.fdiv (10 ^ k.toNat)).fmod 10)) (by
    intro x hx
    obtain ⟨k, _, rfl⟩ := List.mem_map.mp hx
    have e := Int.fmod_eq_emod_of_nonneg (n.fdiv (10 ^ k.toNat)) (show (0 : Int) ≤ 10 by decide)
    exact item_fine (by rw [e]; omega) (by rw [e]; omega))
  refine ⟨h.1, Nat.le_trans h.2 ?_⟩
  rw [List.length_map, rangeKs_length]
  omega
theorem join_ys {prog : Program} {w : World} {A : Around} {E : Value → Shared → Prop} {s : Shared} {h₀ : Heap} {L D : Addr} {news : List (Addr × Obj)} {ys : List Value} {k : Nat} {n : Int} {Q : Value → Shared → Prop} {t : Tok}
    (N : News h₀ L s.heap news) (hm : (D, ({ cls := .type "list", data := .seq ys.toArray k } : Obj)) ∈ news) (h1 : n.fmod 8 < 8)
    (hc : CarriedAll ys ((rangeKs 0 (n.fmod 8 - 0).toNat).map fun k => PyData.str (Txt.item (Str.ofString "abcxyz09_é") ((n.fdiv (10 ^ k.toNat)).fmod 10))))
    (h : ∀ t' k, Q (.str (Str.join (Str.ofString "") ((rangeKs 0 (n.fmod 8 - 0).toNat).map fun k => Txt.item (Str.ofString "abcxyz09_é") ((n.fdiv (10 ^ k.toNat)).fmod 10))) t') { s with toks := k }) :
    wpAny (model prog w) A (call (.builtin "str.join") [.str (Str.ofString "") t, .ref D]) Q E s := by
  have hS : StrsAre ys ((rangeKs 0 (n.fmod 8 - 0).toNat).map fun k => Txt.item (Str.ofString "abcxyz09_é") ((n.fdiv (10 ^ k.toNat)).fmod 10)) := by
    refine StrsAre.of_carried ?_
    rw [List.map_map]
    exact hc
  refine join_list (News.isList N hm) hS ?_ (fun t' k => by
    rw [show Txt.join (Str.ofString "") ((rangeKs 0 (n.fmod 8 - 0).toNat).map fun k => Txt.item (Str.ofString "abcxyz09_é") ((n.fdiv (10 ^ k.toNat)).fmod 10)) = Str.join (Str.ofString "") ((rangeKs 0 (n.fmod 8 - 0).toNat).map fun k => Txt.item (Str.ofString "abcxyz09_é") ((n.fdiv (10 ^ k.toNat)).fmod 10)) from StrLaws.glued_eq_join _ _]
    exact h t' k)
  have h0 : (Str.ofString "").length = 0 := by decide +kernel
  rw [h0, Nat.mul_zero, Nat.add_zero, List.map_map]
  have key : ∀ l : List Int, (l.map ((fun x : Str => x.length) ∘ fun k => Txt.item (Str.ofString "abcxyz09_é") ((n.fdiv (10 ^ k.toNat)).fmod 10))).sum = l.length := by
    intro l
    induction l with
    | nil => rfl
    | cons x r ih =>
      rw [List.map_cons, List.sum_cons, ih, List.length_cons]
      show 1 + r.length = r.length + 1
      omega
  rw [key, rangeKs_length]
  omega
abbrev genOf {ox : Obj} {n : Int} {t : Tok} (h : ox.data = Data.cell (some (Value.int n t))) : Int → Str := fun k => Txt.item (Str.ofString "abcxyz09_é") ((n.fdiv (10 ^ k.toNat)).fmod 10)
local macro_rules | `(tactic| walk_at "CompSrc") => `(tactic| (k_here; (try k_fmods); k_dflt (refine LCg.CompSrc.range (by rfl) (by k_asm) (by k_asm) (by assumption) (by first | decide | exact small_one (by kcf_bnd) (by kcf_bnd) (by kcf_bnd) (by kcf_bnd)) (by first | exact rangeSize_nat _ _ | rfl) (by rw [PySem.sizeLine_eq]; omega) ?_); intro g'; (refine' kct_range (genOf (by assumption)) (fun k' t' I' oI' C' oC' D' m' ys' h' tk' E' hlo' hhi' hC' hx' F' N' off' ne' hMark' => ?_) ?_); (all_goals (try (simp only [LCg.Off3, and_true] at off'))); kcf_last))
local macro_rules | `(tactic| walk_at "CompEnd") => `(tactic| (refine' LCg.CompEnd.intro ?a ?b ?c ?d ?e ?f ?g; (case a => k_asm); (case b => k_asm); (case d => exact fun p hp => hp); (case e => (simp only [LCg.Off3, and_true]; assumption)); (case f => exact trivial); (case g => exact kct_el rfl rfl rfl)))
theorem ten_ne (k : Nat) : (10 : Int) ^ k ≠ 0 := Int.ne_of_gt (Int.pow_pos (by decide))
local macro_rules | `(tactic| walk_at "binaryOp FloorDiv int int") => `(tactic| (k_here; (refine' floordiv_int ?z ?_; (case z => exact ten_ne _)); (try dsimp only)))
local macro_rules | `(tactic| walk_at "call builtin:str.join") => `(tactic| (k_here; (refine' join_ys ?a ?b ?c ?d ?_; (case a => k_asm); (case b => k_mem); (case c => assumption); (case d => assumption)); intro _ _; (try dsimp only)))
theorem name_body {w : World} {h₀ : Heap} {L l D ln : Addr} {fa : Addr} {cdv : Value} {m mg mb : Str → Option Value} {s : Shared} {mean : ExcName → Option Value} {loose : List Str} {Q : Flow → Shared → Prop} {E : Value → Shared → Prop}
    {ws vs : List Value} {nn : Nat} {n : Int} {t : Tok} {ol ox : Obj} {own : List (Addr × Obj)}
    (B : Below callerA h₀ [] h₀) (X : (hd.heap_39 w.params).In h₀) (T : Top hd.view_39 loose mean mg mb h₀)
    (F : Fr h₀ L s.heap (fun z => if z = Str.ofString "names" then some (Value.ref ln) else if z = Str.ofString "script" then some (Value.ref l) else m z))
    (N : News h₀ L s.heap ((D, PySem.W.listOf ws.toArray 0) :: (ln, PySem.W.listOf vs.toArray nn) :: (L + 1 + 1, ol) :: (L + 1, ox) :: own)) (hox : ox.data = .cell (some (.int n t)))
    (hoff : OwnOff own [D, ln, L + 1 + 1, L + 1]) (h1 : @LT.lt Nat _ (L + 1 + 1) ln) (h2 : @LT.lt Nat _ ln D) (hlen : vs.length ≤ 100)
    (hQ : ∀ (x : Str) (t' : Tok) nn' h' tk', Fine 14 x → Fr h₀ L h' (fun z => if z = Str.ofString "names" then some (Value.ref ln) else if z = Str.ofString "script" then some (Value.ref l) else m z) →
      News h₀ L h' ((D, PySem.W.listOf ws.toArray 0) :: (ln, PySem.W.listOf (vs ++ [Value.str x t']).toArray nn') :: (L + 1 + 1, ol) :: (L + 1, ox) :: own) → Q .next { s with heap := h', toks := tk' }) :
    wpAny (model PySem.Challenge.rw_ad5049_01.row.prog w) (callerA.deeper (lawEnv L fa cdv)) (execs nameBody (lawEnv L fa cdv)) Q E s := by
  repeat' (first | (k_unfold; (try dsimp only)) | walk1 | (dsimp only; walk1))
  · exact LCg.CompEnd.intro (by k_asm) (by k_asm) _ (fun p hp => hp) (by simp only [LCg.Off3]; assumption) trivial (kct_el rfl rfl rfl)
  · (rename Fr _ _ _ _ => F9)
    (rename News _ _ _ _ => N9)
    have N8 := news_tail N9
    rw [List.push_toArray] at N8
    exact hQ _ _ _ _ _ (name_fine (by assumption)) F9 N8
end partNbody

section partNames
theorem sl_size {us : List Value} {ns : List Int} (hi : IntsAre us (ns.take 3 ++ [5, 777])) : us.toArray.size ≤ sizeLine := by
  refine kmk_sz hi ?_
  simp only [sizeLine_eq, List.length_append, List.length_cons, List.length_nil, List.length_take]
  omega
local macro_rules | `(tactic| walk_at "exec For Name Subscript") => `(tactic| (k_here; (rename Fr _ _ _ _ => lF'); (with_unfolding_all refine' For_turns (hE := by k_asm) lF' ?_); k_whole))
local macro_rules | `(tactic| walk_at "binaryOp Add ref ref") => `(tactic| (k_here; (refine' kmk_add_ints ?F ?N ?a ?b ?i ?j ?_ ?z; (case F => k_asm); (case N => k_asm); (case a => kmk_list); (case b => kmk_list); (case i => l_ints); (case j => l_ints); (case z => (simp only [sizeLine_eq, List.length_cons, List.length_nil, List.length_take]; omega))); intro D' ws' h' F' N' l1 hI'; (try k_lt l1)))
local macro_rules | `(tactic| walk_at "subscriptTail BinOp") => `(tactic| (k_here; (refine kba_turn (value' := PySem.Expr.Name (PySem.Str.ofString "t") ⟨0, 0, 0, 0⟩) (fun _ => rfl) ?_); (refine' kmk_slice_ints ?F ?N ?l ?p ?q ?i ?m ?c ?_ ?s ?t ?z; (case F => k_asm); (case N => k_asm); (case l => kmk_list); (case p => kmk_part); (case q => kmk_part); (case i => with_reducible assumption); (case m => exact kmk_upto (by with_reducible assumption) (by split <;> omega)); (case c => exact rfl); (case s => with_unfolding_all rfl); (case t => kmk_pure); (case z => exact sl_size (by with_reducible assumption))); intro D' ws' h' F' N' l1 hI' hC' hL'; (try k_lt l1)))
theorem names_loop {w : World} {h₀ : Heap} {L l D ln : Addr} {fa : Addr} {cdv : Value} {m mg mb : Str → Option Value} {s : Shared} {mean : ExcName → Option Value} {loose : List Str} {Q : Flow → Shared → Prop} {E : Value → Shared → Prop}
    {ws : List Value} {xs : List Int} {ol ox : Obj} {vx : Option Value} {px : Pos}
    (B : Below callerA h₀ [] h₀) (X : (hd.heap_39 w.params).In h₀) (T : Top hd.view_39 loose mean mg mb h₀)
    (F : Fr h₀ L s.heap (fun z => if z = Str.ofString "names" then some (Value.ref ln) else if z = Str.ofString "script" then some (Value.ref l) else m z))
    (N : News h₀ L s.heap [(D, PySem.W.listOf ws.toArray 0), (ln, PySem.W.listOf #[] 0), (L + 1 + 1, ol), (L + 1, ox)]) (hox : ox.data = .cell vx)
    (hI : IntsAre ws xs) (hlen : xs.length ≤ 5) (h1 : @LT.lt Nat _ (L + 1 + 1) ln) (h2 : @LT.lt Nat _ ln D)
    (hQ : ∀ (vs : List Value) nn' h' tk' o', (∀ v ∈ vs, ∃ x t, v = Value.str x t ∧ Fine 14 x) → Fr h₀ L h' (fun z => if z = Str.ofString "names" then some (Value.ref ln) else if z = Str.ofString "script" then some (Value.ref l) else m z) →
      News h₀ L h' [(ln, PySem.W.listOf vs.toArray nn'), (L + 1 + 1, ol), (L + 1, o')] → Q .next { s with heap := h', toks := tk' }) :
    wpAny (model PySem.Challenge.rw_ad5049_01.row.prog w) (callerA.deeper (lawEnv L fa cdv)) (pyIter (.ref D)) (fun it s₂ => TurnsAt PySem.Challenge.rw_ad5049_01.row.prog w (callerA.deeper (lawEnv L fa cdv)) h₀ (lawEnv L fa cdv) (.Name (Str.ofString "x") px) nameBody Q E it s₂) E s := by
  have hwl := hI.length
  refine listTurns (J := fun i m₁ nx => m₁ = (fun z => if z = Str.ofString "names" then some (Value.ref ln) else if z = Str.ofString "script" then some (Value.ref l) else m z) ∧ ∃ (vs : List Value) (nn : Nat) (ox' : Obj) (v' : Option Value), (∀ v ∈ vs, ∃ x t, v = Value.str x t ∧ Fine 14 x) ∧ vs.length = i ∧ ox'.data = .cell v' ∧
    nx = [(D, PySem.W.listOf ws.toArray 0), (ln, PySem.W.listOf vs.toArray nn), (L + 1 + 1, ol), (L + 1, ox')]) rfl (.head _) F N ⟨rfl, [], 0, ox, vx, (fun _ h => nomatch h), rfl, hox, rfl⟩ ?turn ?done
  case done =>
    rintro m₁ nx h tk ⟨rfl, vs, nn, ox', v', hg, _, _, rfl⟩ F₁ N₁
    exact hQ vs nn h tk ox' hg F₁ (news_tail N₁)
  case turn =>
    rintro i v m₁ nx h tk own hvi hoff hmem ⟨rfl, vs, nn, ox', v', hg, hvl, hd', rfl⟩ F₁ N₁
    have hil : i < ws.length := (List.getElem?_eq_some_iff.mp hvi).1
    obtain ⟨n, t, rfl, _⟩ := IntsAre.at hI i v hvi
    have hU : UpdF (L + 1) ox' ([(D, PySem.W.listOf ws.toArray 0), (ln, PySem.W.listOf vs.toArray nn), (L + 1 + 1, ol), (L + 1, ox')] ++ own) (fun o' => (D, PySem.W.listOf ws.toArray 0) :: (ln, PySem.W.listOf vs.toArray nn) :: (L + 1 + 1, ol) :: (L + 1, o') :: own) := by
      refine UpdF.tail ?_ (UpdF.tail ?_ (UpdF.tail ?_ (UpdF.head ?_)))
      · k_ne
      · k_ne
      · k_ne
      · intro p hp
        exact hoff p hp _ (.tail _ (.tail _ (.tail _ (.head _))))
    refine wpAny_assign_Name (storeX_C F₁ N₁ rfl hU hd' ?_)
    intro h3 o3 F₂ N₂ hd3
    refine name_body B X T F₂ N₂ hd3 hoff h1 h2 (by omega) ?_
    intro x t' nn' h' tk' fx F' N'
    refine ⟨h', tk', _, _, [(D, PySem.W.listOf ws.toArray 0), (ln, PySem.W.listOf (vs ++ [Value.str x t']).toArray nn'), (L + 1 + 1, ol), (L + 1, o3)], rfl, F', N', ?_, ?_, hoff, .head _, rfl, vs ++ [Value.str x t'], nn', o3, _, ?_, ?_, hd3, rfl⟩
    · intro p hp
      exact List.mem_append_left own hp
    · intro p hp
      exact List.mem_append_right [(D, PySem.W.listOf ws.toArray 0), (ln, PySem.W.listOf (vs ++ [Value.str x t']).toArray nn'), (L + 1 + 1, ol), (L + 1, o3)] hp
    · intro u hu
      rcases List.mem_append.mp hu with hu | hu
      · exact hg u hu
      · rw [List.mem_singleton.mp hu]; exact ⟨x, t', rfl, fx⟩
    · rw [List.length_append, hvl]; rfl
theorem five_len {ns : List Int} {k : Nat} : ((ns.take 3 ++ [5, 777]).take k).length ≤ 5 := by
  rw [List.length_take, List.length_append, List.length_take]
  show min k (min 3 ns.length + 2) ≤ 5
  omega
theorem names_turn {w : World} {h₀ : Heap} {L l : Addr} {fa : Addr} {cdv : Value} {m mg mb : Str → Option Value} {s : Shared} {mean : ExcName → Option Value} {loose : List Str} {Q : Flow → Shared → Prop} {E : Value → Shared → Prop}
    {us : List Value} {ns : List Int} {ol ox : Obj} {vl vx : Option Value}
    (B : Below callerA h₀ [] h₀) (X : (hd.heap_39 w.params).In h₀) (T : Top hd.view_39 loose mean mg mb h₀)
    (hL : h₀.IsList l us.toArray) (hI : IntsAre us ns) (hlen : ns.length ≤ 63)
    (F : Fr h₀ L s.heap (fun z => if z = Str.ofString "script" then some (Value.ref l) else m z))
    (N : News h₀ L s.heap [(L + 1 + 1, ol), (L + 1, ox)]) (hol : ol.data = .cell vl) (hox : ox.data = .cell vx)
    (hE : PassesOwn (model PySem.Challenge.rw_ad5049_01.row.prog w) (callerA.deeper (lawEnv L fa cdv)) (lawEnv L fa cdv) E)
    (hQ : ∀ m' h' tk', Fr h₀ L h' m' → Q (.ret (.bool true)) { s with heap := h', toks := tk' }) :
    wpAny (model PySem.Challenge.rw_ad5049_01.row.prog w) (callerA.deeper (lawEnv L fa cdv)) (execs lawBody (lawEnv L fa cdv)) Q E s := by
  repeat' (first | (k_unfold; (try dsimp only)) | walk1 | (dsimp only; walk1))
  refine names_loop B X T (by k_asm) (news_skip (news_skip (news_skip (news_skip (by k_asm))))) hox (by k_asm) five_len (by omega) (by omega) ?_
  intro vs nn' h' tk' o' hg F' N'
  exact a_turn B X T hL hI F' N' hol (by omega) hg hE fun m' h'' tk'' o'' F'' _ => hQ m' h'' tk'' F''
end partNames

section partFin
theorem fr_script {h₀ h : Heap} {L l : Addr} {m : Str → Option Value} (F : Fr h₀ L h m) (e : m (Str.ofString "script") = some (.ref l)) : Fr h₀ L h (fun z => if z = Str.ofString "script" then some (Value.ref l) else m z) := by
  have e' : (fun z => if z = Str.ofString "script" then some (Value.ref l) else m z) = m := by
    funext z
    by_cases h1 : z = Str.ofString "script"
    · rw [if_pos h1, h1, e]
    · rw [if_neg h1]
  rw [e']
  exact F
theorem law_holds : PySem.Challenge.rw_ad5049_01.Holds := Mine.hd (by
  w_strict (k_go0
            refine' names_turn ?zB ?zX ?zT ?zL ?zI ?zlen ?zF ?zN ?zol ?zox ?zE ?zQ
            case zF => exact fr_script (by assumption) rfl
            case zN => assumption
            case zB => assumption
            case zX => assumption
            case zT => assumption
            case zL => assumption
            case zI => assumption
            case zlen => omega
            case zol => assumption
            case zox => assumption
            case zE => passes_own
            case zQ =>
              intro m' h' tk' F'
              k_steps))
end partFin
end Mine

theorem PySem.Challenge.cw_ad5049_01_holds : PySem.Challenge.rw_ad5049_01.Holds := by
  exact Mine.law_holds
