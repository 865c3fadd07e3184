import PyProof.Rows.All
import Wide.All
import OpenK.AllK
import Wide.FinOn
import PySem.Challenge.RW_wn0021_01
open PySem PySem.W PyProof.Rows PySem.Calls PySem.Spec
set_option Elab.async false
set_option maxRecDepth 100000
set_option maxHeartbeats 8000000
set_option pp.deepTerms false
set_option pp.deepTerms.threshold 6
namespace Mine
open_top hd for PySem.Challenge.rw_wn0021_01
end Mine
namespace Mine
section
/-- what a def of the text is asked: at any frame of a def, with the room d and the C room u, nothing made known -/
abbrev Pure (w : World) (f : Addr) (d u : Nat) (vs : List Value) (R : Tok → Value) : Prop :=
  ∀ (loose : List Str) (mean : ExcName → Option Value) (mg mb : Str → Option Value) (news : List (Addr × Obj))
    (dp un : Nat) (gd : Option (List Code)) (cn : Str) (cs : Scope) (a : Addr) (ccd : Value) (cl : List (Str × Addr)) (outer : List Env) (A₀ : Around) (base h₀ : Heap) (L : Addr) (m : Str → Option Value) (s : Shared) (Q E : Value → Shared → Prop),
    Below A₀ base outer h₀ → Fr h₀ L s.heap m → (hd.heap_39 w.params).In h₀ → News h₀ L s.heap news → Top topProg loose mean mg mb h₀ → cs.kind = .function →
    dp + d < recursionLimit → un + u < cLine →
    (∀ (t : Tok) (h' : Heap) (tk' : Nat), Fr h₀ L h' m → News h₀ L h' news → Q (R t) { s with heap := h', toks := tk' }) →
      wpAny (model PySem.Challenge.rw_wn0021_01.row.prog w) (ktrTop dp un gd cn cs L a ccd cl outer) (call (.ref f) vs) Q E s
theorem Pure.use {w : World} {f : Addr} {d u : Nat} {vs : List Value} {R : Tok → Value} (C : Pure w f d u vs R) {loose : List Str} {mean : ExcName → Option Value} {mg mb : Str → Option Value} {news : List (Addr × Obj)}
    {dp un : Nat} {gd : Option (List Code)} {cn : Str} {cs : Scope} {a : Addr} {ccd : Value} {cl : List (Str × Addr)} {outer : List Env} {A₀ : Around} {base h₀ : Heap} {L : Addr} {m : Str → Option Value} {s : Shared} {Q E : Value → Shared → Prop}
    (B : Below A₀ base outer h₀) (F : Fr h₀ L s.heap m) (X : (hd.heap_39 w.params).In h₀) (N : News h₀ L s.heap news) (T : Top topProg loose mean mg mb h₀) (hk : cs.kind = .function)
    (hd : dp + d < recursionLimit) (hu : un + u < cLine)
    (hret : ∀ (t : Tok) (h' : Heap) (tk' : Nat), Fr h₀ L h' m → News h₀ L h' news → Q (R t) { s with heap := h', toks := tk' }) :
    wpAny (model PySem.Challenge.rw_wn0021_01.row.prog w) (ktrTop dp un gd cn cs L a ccd cl outer) (call (.ref f) vs) Q E s :=
  C loose mean mg mb news dp un gd cn cs a ccd cl outer A₀ base h₀ L m s Q E B F X N T hk hd hu hret
def Hold (P : Prop) : Prop := P
theorem Hold.out {P : Prop} (h : Hold P) : P := h
theorem Hold.in {P : Prop} (h : P) : Hold P := h
/-- a frame map known at some names, told as a written one over what is left -/
theorem fr_at {h₀ h : Heap} {L : Addr} {m : Str → Option Value} {x : Str} {v : Value} (F : Fr h₀ L h m) (e : m x = some v) : Fr h₀ L h (fun y => if y = x then some v else m y) := by
  have em : (fun y => if y = x then some v else m y) = m := by
    funext y
    by_cases hy : y = x
    · rw [if_pos hy, hy, e]
    · rw [if_neg hy]
  rw [em]; exact F
theorem fr_at2 {h₀ h : Heap} {L : Addr} {m : Str → Option Value} {x x2 : Str} {v v2 : Value} (F : Fr h₀ L h m) (e : m x = some v) (e2 : m x2 = some v2) :
    Fr h₀ L h (fun y => if y = x then some v else if y = x2 then some v2 else m y) := by
  have em : (fun y => if y = x then some v else if y = x2 then some v2 else m y) = m := by
    funext y
    by_cases hy : y = x
    · rw [if_pos hy, hy, e]
    · rw [if_neg hy]
      by_cases hy : y = x2
      · rw [if_pos hy, hy, e2]
      · rw [if_neg hy]
  rw [em]; exact F
theorem fr_at3 {h₀ h : Heap} {L : Addr} {m : Str → Option Value} {x x2 x3 : Str} {v v2 v3 : Value} (F : Fr h₀ L h m) (e : m x = some v) (e2 : m x2 = some v2) (e3 : m x3 = some v3) :
    Fr h₀ L h (fun y => if y = x then some v else if y = x2 then some v2 else if y = x3 then some v3 else m y) := by
  have em : (fun y => if y = x then some v else if y = x2 then some v2 else if y = x3 then some v3 else m y) = m := by
    funext y
    by_cases hy : y = x
    · rw [if_pos hy, hy, e]
    · rw [if_neg hy]
      by_cases hy : y = x2
      · rw [if_pos hy, hy, e2]
      · rw [if_neg hy]
        by_cases hy : y = x3
        · rw [if_pos hy, hy, e3]
        · rw [if_neg hy]
  rw [em]; exact F
theorem noE {α : Type} {M : Model} {A : Around} {t : Sem α} {Q : α → Shared → Prop} {E : Value → Shared → Prop} {s : Shared} (h : wpAny M A t Q (fun _ _ => False) s) : wpAny M A t Q E s :=
  wpAny_mono h (fun _ _ x => x) fun _ _ x => x.elim
end
section
open Builtin
theorem args_dec2 (a b : Value) : argsOk "bytes.decode" ⟨[a, b], []⟩ := by unfold argsOk; kernel_rfl
theorem entry_dec2 {c : UInt8} {cs : List UInt8} {t u : Tok} : «bytes.decode» ⟨[.bytes (c :: cs).toArray t, .str (PySem.Str.ofString "ascii") u], []⟩ = (mkStr (PySem.Str.ofString "utf-8") >>= fun _ => mkStr (PySem.Str.ofString "ascii") >>= fun e => mkStr (PySem.Str.ofString "bytes.decode") >>= fun d =>
    call (.builtin "_codecs.decode.text") [.bytes (c :: cs).toArray t, e, .none, d] >>= fun v => ret v) := by kernel_rfl
theorem entry_dec0 {t u : Tok} : «bytes.decode» ⟨[.bytes #[] t, .str (PySem.Str.ofString "ascii") u], []⟩ = (rule "bytes.decode.empty" >>= fun _ => retStr Str.empty) := by kernel_rfl
theorem road_ascii {id : String} {b : Array UInt8} : _codecs.decodeRoad id b (PySem.Str.ofString "ascii") none [] = (_codecs.runDecoder id _codecs.asciiDecoder none true b 0 [] >>= fun r => mkStr ⟨r.1⟩) := by kernel_rfl
theorem forIn_up {σ : Type} (F : Nat → σ → Sem (ForInStep σ)) (S : Nat → σ) (k : Nat) (hF : ∀ p, p < k → F p (S p) = pure (ForInStep.yield (S (p + 1)))) :
    ∀ n p, p + n = k → forIn (List.range' p n) (S p) F = (pure (S k) : Sem σ) := by
  intro n
  induction n with
  | zero => intro p h; obtain rfl : p = k := by omega
            rfl
  | succ n ih =>
    intro p h
    rw [List.range'_succ, List.forIn_cons, hF p (by omega)]
    exact ih (p + 1) (by omega)
theorem run_ascii (id : String) (b : List UInt8) (hb : ∀ c ∈ b, c.toNat < 128) (hl : b.length ≤ 1000) : _codecs.runDecoder id _codecs.asciiDecoder none true b.toArray 0 [] = pure ((b.map (·.toNat)).toArray, b.length) := by
  unfold _codecs.runDecoder
  simp only [Std.Legacy.Range.forIn_eq_forIn_range']
  have e0 : [:b.toArray.size].size = b.length := by simp [Std.Legacy.Range.size]
  rw [e0]
  refine (congrArg (· >>= _) (forIn_up (σ := Nat × Array Nat × _codecs.Faults) _ (fun p => (p, ((b.take p).map (·.toNat)).toArray, ({ } : _codecs.Faults))) b.length ?_ b.length 0 (by omega))).trans ?_
  · intro p hp
    dsimp only
    rw [if_neg (by rw [sizeLine_eq]; simp; omega), if_neg (by simp; omega)]
    have e : _codecs.asciiDecoder.find true b.toArray p = .text [(b.getD p 0).toNat] (p + 1) := by
      show (if ((b.toArray).getD p 0).toNat < 128 then _codecs.Found.char _ _ else _) = _
      have e1 : b.toArray.getD p 0 = b.getD p 0 := by simp [Array.getD, List.getD_eq_getElem?_getD, hp]
      rw [e1, if_pos ?_]
      · rfl
      · rw [List.getD_eq_getElem?_getD, List.getElem?_eq_getElem hp]
        exact hb _ (List.getElem_mem hp)
    rw [e]
    dsimp only
    have e2 : ((b.take (p + 1)).map (·.toNat)).toArray = ((b.take p).map (·.toNat)).toArray ++ [(b.getD p 0).toNat].toArray := by
      have hg : (b[p]?.toList).map (·.toNat) = [(b.getD p 0).toNat] := by rw [List.getD_eq_getElem?_getD, List.getElem?_eq_getElem hp]; rfl
      rw [List.take_add_one, List.map_append, hg, List.append_toArray]
    rw [e2]
  · show (pure (_, _) : Sem (Array Nat × Nat)) = _
    rw [List.take_length]
section
variable {prog : Program} {w : World} {A : Around} {E : Value → Shared → Prop} {s : Shared} {t u : Tok} {Q : Value → Shared → Prop}
/-- bytes of ASCII decoded -/
theorem dec_ascii {b : List UInt8} (hb : ∀ c ∈ b, c.toNat < 128) (hl : b.length ≤ 1000) (h : ∀ t' k, Q (.str ⟨(b.map (·.toNat)).toArray⟩ t') { s with toks := k }) :
    wpAny (model prog w) A (call (.builtin "bytes.decode") [.bytes b.toArray t, .str (PySem.Str.ofString "ascii") u]) Q E s := by
  refine call_meets FB.slot_bytes_decode (typeIs_bytes _ _ _) FB.entry_bytes_decode (args_dec2 _ _) (S := fun _ R s => ∀ t' k, R (.ok (.ret (.str ⟨(b.map (·.toNat)).toArray⟩ t'))) { s with toks := k }) ?_ h
  refine .of_wp fun prog w A R s h => ?_
  have hsz : (⟨(b.map (·.toNat)).toArray⟩ : Str).length ≤ sizeLine := by rw [sizeLine_eq]; simp [PySem.Str.length]; omega
  cases b with
  | nil =>
    rw [show ([] : List UInt8).toArray = #[] from rfl, entry_dec0]
    refine wpAny_bind (wpAny_rule ?_)
    unfold retStr
    exact wpAny_bind (wpAny_mkStr (wpAny_pure ⟨_, rfl, h _ _⟩) (by decide))
  | cons c cs =>
    rw [entry_dec2]
    refine wpAny_bind (wpAny_mkStr ?_ (by decide))
    refine wpAny_bind (wpAny_mkStr ?_ (by decide))
    refine wpAny_bind (wpAny_mkStr ?_ (by decide))
    refine wpAny_bind (call_function_meets KBd.kind_text KBd.plain_text KBd.entry_text (KBd.args_text _ _ _ _) (S := fun _ R s => ∀ t' k, R (.ok (.ret (.str ⟨((c :: cs).map (·.toNat)).toArray⟩ t'))) { s with toks := k }) ?_ fun t' k => wpAny_pure ⟨_, rfl, h _ _⟩)
    refine .of_wp fun prog w A R s h => ?_
    show wpAny _ _ (Bytes.bytesLike _ (.bytes _ t) >>= fun r => _) _ _ s
    refine wpAny_bind (wpAny_of_eq KBd.like_eq ?_)
    refine wpAny_bind (wpAny_of_eq KBd.held_eq ?_)
    show wpAny _ _ (_codecs.decodeRoad _ _ (PySem.Str.ofString "ascii") none [] >>= fun v => _) _ _ s
    rw [road_ascii, run_ascii _ _ hb hl]
    refine wpAny_bind (wpAny_bind (wpAny_pure ?_))
    exact wpAny_mkStr (wpAny_pure ⟨_, rfl, h _ _⟩) hsz
end
end
section
/-- the letters of a number, the last first behind -/
def apL (n : Nat) : List UInt8 := if h : n = 0 then [] else apL (n / 16) ++ [UInt8.ofNat (65 + n % 16)]
termination_by n
decreasing_by omega
theorem apL_zero : apL 0 = [] := by rw [apL]; rfl
theorem apL_pos {n : Nat} (h : n ≠ 0) : apL n = apL (n / 16) ++ [UInt8.ofNat (65 + n % 16)] := by rw [apL, dif_neg h]
theorem apL_len (k : Nat) : ∀ n, n < 16 ^ k → (apL n).length ≤ k := by
  induction k with
  | zero => intro n h; rw [show n = 0 by simpa using h, apL_zero]; simp
  | succ k ih =>
    intro n h
    by_cases hn : n = 0
    · rw [hn, apL_zero]; simp
    · rw [apL_pos hn, List.length_append, List.length_singleton]
      have := ih (n / 16) (by rw [Nat.pow_succ] at h; omega)
      omega
theorem picked_ap {r : Int} (h0 : 0 ≤ r) (h1 : r < 16) :
    KBy.picked #[65, 66, 67, 68, 69, 70, 71, 72, 73, 74, 75, 76, 77, 78, 79, 80] (some r) (some (r + 1)) = #[UInt8.ofNat (65 + r.toNat)] := by
  obtain ⟨k, rfl⟩ := Int.eq_ofNat_of_zero_le h0
  have key : ∀ k : Fin 16, KBy.picked #[65, 66, 67, 68, 69, 70, 71, 72, 73, 74, 75, 76, 77, 78, 79, 80] (some ((k.val : Nat) : Int)) (some (((k.val : Nat) : Int) + 1)) = #[UInt8.ofNat (65 + ((k.val : Nat) : Int).toNat)] := by decide +kernel
  exact key ⟨k, by omega⟩
theorem c_int2ap0 (w : World) (n : Nat) (hn : n < 16 ^ 40) (t : Tok) : Pure w 35 1 8 [.int n t] (fun t => .bytes (apL n).toArray t) := by
  k_with_none
  w_top off
  unfold Pure
  k_fill
  intro loose mean mg mb news dp un gd cn cs a' ccd cl outer A₀ base h₀ L m s Q E B F X N T hk hdp hun hret
  refine wpAny_call ?_
  k_with "exec While Name cons nil" => refine Hold.out ?_
  k_dflt cell_enter
  refine noE ?_
  k_steps
  refine Hold.in ?_
  rename Fr _ _ _ _ => F9
  rename News _ _ _ _ => N9
  have hlen := apL_len 40 n hn
  refine While_inv (n₀ := n) (fun i m' news' => ∃ (v : Array UInt8) (t1 t2 t3 : Tok), news' = news ∧ m' "num" = some (.int i t1) ∧ m' "val" = some (.bytes v t2) ∧ m' "AP" = some (.bytes #[65, 66, 67, 68, 69, 70, 71, 72, 73, 74, 75, 76, 77, 78, 79, 80] t3) ∧ apL n = apL i ++ v.toList) F9 N9 ?_ ?_ PassesOwn.never
  · have e : (if (n : Int) < 0 then -(n : Int) else (n : Int)) = n := if_neg (by omega)
    exact ⟨#[], _, _, _, rfl, congrArg (fun z => some (Value.int z _)) e, rfl, rfl, by simp⟩
  · rintro i m₁ _ h₁ tk₁ F₁ N₁ ⟨v, t1, t2, t3, rfl, e1, e2, e3, hv⟩
    have F' := fr_at3 F₁ e1 e2 e3
    clear F₁ e1 e2 e3 F9 N9
    have hvl : (apL n).length = (apL i).length + v.size := by rw [hv]; simp
    have hm : ((i : Int).fmod 16) = ((i % 16 : Nat) : Int) := by rw [Int.fmod_eq_emod_of_nonneg _ (by decide)]; omega
    have hq : ((i : Int).fdiv 16) = ((i / 16 : Nat) : Int) := by rw [Int.fdiv_eq_ediv_of_nonneg _ (by decide)]; omega
    k_with "subscriptTail" => (
      (with_reducible show wpAny _ _ (subscriptTail _ (Expr.Slice _ _ none _) (Value.bytes _ _) (Value.ref _)) _ _ _)
      (with_reducible rename Fr _ _ _ _ => F')
      (with_reducible rename News _ _ _ _ => N')
      (refine KBc.slice_K (s := ⟨_, _, _, _, _⟩) F' N' rfl (by constructor) (by constructor) (by decide) ?_)
      intro _ _ _ F'' N'' _
      rw [picked_ap (by omega) (by omega)]
      try dsimp only)
    k_with "binaryOp Add bytes bytes" => refine KBy.add_bytes (by simp only [List.size_toArray, List.length_cons, List.length_nil]; omega) ?_
    k_steps
    · rename Fr _ _ _ _ => F9
      rename News _ _ _ _ => N9
      have h0 : i ≠ 0 := by omega
      refine WhileStep.intro (n' := i / 16) F9 (cb_drop N9 fun p hp => .tail _ hp) (by omega) ⟨_, _, _, _, rfl, congrArg (fun z => some (Value.int z _)) hq, rfl, rfl, ?_⟩
      rw [hv, apL_pos h0, hm]
      simp only [Int.toNat_natCast, Array.toList_append, List.append_assoc]
    · rename _ = (0 : Int) => h0
      obtain rfl : i = 0 := by omega
      have e : v = (apL n).toArray := by rw [hv, apL_zero]; simp
      rw [e]
      exact hret _ _ _ (by assumption) (by assumption)
theorem c_int2ap (w : World) (i : Int) (t : Tok) (h0 : 0 ≤ i) (h1 : i < 16 ^ 40) : Pure w 35 1 8 [.int i t] (fun t => .bytes (apL i.toNat).toArray t) := by
  obtain ⟨n, rfl⟩ := Int.eq_ofNat_of_zero_le h0
  rw [Int.toNat_natCast]
  exact c_int2ap0 w n (by omega) t
end
section
/-- the letters as a text's numbers -/
def apW (n : Nat) : List Nat := (apL n).map (·.toNat)
def txt (l : List Nat) : Str := ⟨l.toArray⟩
theorem apL_small : ∀ n, ∀ c ∈ apL n, 65 ≤ c.toNat ∧ c.toNat < 81 := by
  intro n
  induction n using Nat.strongRecOn with
  | ind n ih =>
    by_cases hn : n = 0
    · rw [hn, apL_zero]; exact fun _ h => nomatch h
    · rw [apL_pos hn]
      intro c hc
      rcases List.mem_append.mp hc with hc | hc
      · exact ih _ (by omega) c hc
      · rw [List.mem_singleton.mp hc]
        have : n % 16 < 16 := Nat.mod_lt _ (by decide)
        rw [UInt8.toNat_ofNat_of_lt' (show 65 + n % 16 < 256 by omega)]
        omega
theorem c_word (w : World) (i : Int) (t : Tok) (h0 : 0 ≤ i) (h1 : i < 16 ^ 40) : Pure w 91 2 16 [.int i t] (fun t => .str (txt (apW i.toNat)) t) := by
  k_with_none
  w_top off
  unfold Pure
  k_fill
  intro loose mean mg mb news dp un gd cn cs a' ccd cl outer A₀ base h₀ L m s Q E B F X N T hk hdp hun hret
  refine wpAny_call ?_
  k_with "call ref" => (
    k_dflt (refine' (c_int2ap w _ _ h0 h1).use ?k1 ?k2 ?k3 ?k4 ?k5 ?kK ?kd ?ku ?_; (case k1 => k_asm); (case k2 => k_asm); (case k3 => k_asm); (case k4 => k_asm); (case k5 => k_asm); (case kK => exact rfl); (case kd => ktr_room); (case ku => ktr_units))
    intro t9 h9 tk9 F9 N9
    try dsimp only)
  have h2 := apL_len 40 i.toNat (by omega)
  k_with "call builtin:bytes.decode" => refine dec_ascii (fun c hc => Nat.lt_of_lt_of_le (apL_small _ c hc).2 (by decide)) (by omega) ?_
  k_dflt cell_enter
  refine noE ?_
  k_steps
  exact hret _ _ _ (by assumption) (by assumption)
end
section
section
variable {prog : Program} {w : World} {A : Around} {s : Shared} {env : Env} {h₀ : Heap} {L : Addr} {x : Str} {body : List Stmt} {Q : Flow → Shared → Prop} {m : Str → Option Value} {news : List (Addr × Obj)}

/-- a for, its iterator made -/
def LoopO (prog : Program) (w : World) (A : Around) (env : Env) (x : Str) (px : Pos) (body : List Stmt) (Q : Flow → Shared → Prop) (it : Value) (s₂ : Shared) : Prop :=
  codeAny (model prog w) A (.forLoop (.Name x px) it body [] env) (fun r s' => match r with | .ok f => Q f s' | .error _ => False) s₂
theorem For_O {px : Pos} {iter : Expr} {pos : Pos} (h : wpAny (model prog w) A (eval iter env) (fun xv s₁ => wpAny (model prog w) A (pyIter xv) (LoopO prog w A env x px body Q) (fun _ _ => False) s₁) (fun _ _ => False) s)
    (hs : ∀ x, foldedSetIterable iter env x = pure x := by intro _; rfl) : wpAny (model prog w) A (exec (.For (.Name x px) iter body [] pos) env) Q (fun _ _ => False) s := by
  refine wpAny_For (wpAny_mono h (fun xv s₁ h₁ => wpAny_mono h₁ (fun it s₂ h₂ => ?_) fun _ _ e => e) fun _ _ e => e) hs
  refine codeAny_mono h₂ fun r s' hr => ?_
  cases r with
  | ok f => exact hr
  | error e => exact hr.elim

/-- a turn's end: the words of the loop at the next turn -/
def ForEnd (h₀ : Heap) (L : Addr) (own : List (Addr × Obj)) (J : (Str → Option Value) → List (Addr × Obj) → Prop) (s : Shared) (Q : Flow → Shared → Prop) (f : Flow) (s₃ : Shared) : Prop :=
  match f with
  | .brk => Q .next s₃
  | .ret v => Q (.ret v) s₃
  | _ => ∃ h' tk m' news' nx, s₃ = { s with heap := h', toks := tk } ∧ Fr h₀ L h' m' ∧ News h₀ L h' news' ∧ (∀ p ∈ nx, p ∈ news') ∧ (∀ p ∈ own, p ∈ news') ∧ J m' nx
theorem ForEnd.next {own nx news' : List (Addr × Obj)} {J : (Str → Option Value) → List (Addr × Obj) → Prop} {h' : Heap} {tk : Nat} {m' : Str → Option Value} (F : Fr h₀ L h' m') (N : News h₀ L h' news') (hn : ∀ p ∈ nx, p ∈ news') (ho : ∀ p ∈ own, p ∈ news') (hj : J m' nx) :
    ForEnd h₀ L own J s Q .next { s with heap := h', toks := tk } := ⟨h', tk, m', news', nx, rfl, F, N, hn, ho, hj⟩
theorem ForEnd.cont {own nx news' : List (Addr × Obj)} {J : (Str → Option Value) → List (Addr × Obj) → Prop} {h' : Heap} {tk : Nat} {m' : Str → Option Value} (F : Fr h₀ L h' m') (N : News h₀ L h' news') (hn : ∀ p ∈ nx, p ∈ news') (ho : ∀ p ∈ own, p ∈ news') (hj : J m' nx) :
    ForEnd h₀ L own J s Q .cont { s with heap := h', toks := tk } := ⟨h', tk, m', news', nx, rfl, F, N, hn, ho, hj⟩
theorem ForEnd.ret {own : List (Addr × Obj)} {J : (Str → Option Value) → List (Addr × Obj) → Prop} {v : Value} {s₃ : Shared} (h : Q (.ret v) s₃) : ForEnd h₀ L own J s Q (.ret v) s₃ := h

def ownAt (I : Addr) (h : Heap) : List (Addr × Obj) := match h.get? I with | some o => [(I, o)] | none => []
theorem ownAt_addr {I : Addr} {h : Heap} : ∀ p ∈ ownAt I h, p.1 = I := by
  unfold ownAt
  split
  · intro p hp; rw [List.mem_singleton.mp hp]
  · exact fun _ hp => nomatch hp
theorem ownAt_get {I : Addr} {h : Heap} : ∀ p ∈ ownAt I h, h.get? p.1 = some p.2 := by
  unfold ownAt
  split
  · intro p hp; rw [List.mem_singleton.mp hp]; assumption
  · exact fun _ hp => nomatch hp
theorem ownAt_mem {I : Addr} {h : Heap} {o : Obj} (e : h.get? I = some o) : (I, o) ∈ ownAt I h := by
  unfold ownAt
  rw [e]
  exact .head _

theorem loop_W {I : Addr} {fp : List Addr} {n : Nat} {P : Nat → Value → Prop} {St : Nat → Heap → Prop} {px : Pos} (W : Walks prog w A I fp [I] n P St) (K : List (Addr × Obj)) (hfp : ∀ b ∈ fp, b = I ∨ ∃ p ∈ K, p.1 = b)
    (J : Nat → (Str → Option Value) → List (Addr × Obj) → Prop) (hK : ∀ i m₁ news₁, J i m₁ news₁ → ∀ p ∈ K, p ∈ news₁) (hadr : ∀ i m₁ news₁, J i m₁ news₁ → ∀ p ∈ news₁, p.1 < I) (hI : h₀.get? I = none) (hIL : I ≠ L) (hL : env.locals = L)
    (hst : St 0 s.heap) (F : Fr h₀ L s.heap m) (N : News h₀ L s.heap news) (hJ : J 0 m news)
    (turn : ∀ i v m₁ news₁ h tk own, i < n → P i v → J i m₁ news₁ → (∀ p ∈ own, p.1 = I) → Fr h₀ L h (fun y => if y = x then some v else m₁ y) → News h₀ L h (news₁ ++ own) →
      wpAny (model prog w) A (execs body env) (ForEnd h₀ L own (J (i + 1)) { s with heap := h, toks := tk } Q) (fun _ _ => False) { s with heap := h, toks := tk })
    (done : ∀ m₁ news₁ h tk, J n m₁ news₁ → Fr h₀ L h m₁ → News h₀ L h news₁ → Q .next { s with heap := h, toks := tk })
    (hx : env.kindOf x = some .local) (hp : (env.scope.kind == .class || (env.scope.kind == .module && env.locals != env.globals)) = false) :
    LoopO prog w A env x px body Q (.ref I) s := by
  subst hL
  refine codeAny_forLoop
    (fun k s' => ∃ h' tk m' news' i, s' = { s with heap := h', toks := tk } ∧ St i h' ∧ Fr h₀ env.locals h' m' ∧ News h₀ env.locals h' news' ∧ J i m' news' ∧ i ≤ n ∧ k = n + 1 - i) ?_ (n + 1)
    ⟨s.heap, s.toks, m, news, 0, rfl, hst, F, N, hJ, Nat.zero_le _, rfl⟩
  rintro k s' ⟨h', tk, m', news', i, rfl, hst', F', N', hJ', hi, rfl⟩
  have next : ∀ h₁ : Heap, (∀ b o, b ∉ [I] → h'.get? b = some o → h₁.get? b = some o) → Fr h₀ env.locals h₁ m' ∧ News h₀ env.locals h₁ news' := fun h₁ hk₁ =>
    ⟨⟨F'.ns.at' fun o e => hk₁ _ o (fun q => hIL (List.mem_singleton.mp q).symm) e, fun b o e => hk₁ b o (fun q => by rw [List.mem_singleton.mp q, hI] at e; cases e) (F'.keep b o e), F'.above⟩,
      fun p hp => ⟨hk₁ _ _ (fun q => Nat.ne_of_lt (hadr i m' news' hJ' p hp) (List.mem_singleton.mp q)) (N' p hp).1, (N' p hp).2⟩⟩
  by_cases hlt : i < n
  · refine W.item i _ _ _ hlt hst' fun v h₁ tk₁ hP hst₁ hk₁ => ?_
    obtain ⟨F₁, N₁⟩ := next h₁ hk₁
    refine wpAny_assign_Name (wpAny_storeName_local hx F₁.ns (fun h₂ hn₂ hs₂ => ?_) hp)
    have F₂ := F₁.set hn₂ hs₂
    have N₂ := N₁.set hs₂
    have Nown : News h₀ env.locals h₂ (ownAt I h₂) := fun p hp => ⟨ownAt_get p hp, by rw [ownAt_addr p hp]; exact hIL, by rw [ownAt_addr p hp]; exact hI⟩
    have N₃ : News h₀ env.locals h₂ (news' ++ ownAt I h₂) := fun p hp => (List.mem_append.mp hp).elim (N₂ p) (Nown p)
    have step := turn i v m' news' h₂ (tk₁ + 1) (ownAt I h₂) hlt hP hJ' ownAt_addr F₂ N₃
    have keep : ∀ h₃ : Heap, ∀ nx : List (Addr × Obj), (∀ p ∈ ownAt I h₂, h₃.get? p.1 = some p.2) → (∀ p ∈ nx, h₃.get? p.1 = some p.2) → (∀ p ∈ K, p ∈ nx) → St (i + 1) h₃ := by
      intro h₃ nx ho hn hk
      refine W.frame _ _ _ hst₁ fun b hb o e => ?_
      have e₂ : h₂.get? b = some o ∨ b = env.locals := by
        by_cases hbl : b = env.locals
        · exact .inr hbl
        · exact .inl ((hs₂.2 b hbl).trans e)
      rcases hfp b hb with rfl | ⟨p, hp, rfl⟩
      · rcases e₂ with e₂ | e₂
        · exact ho _ (ownAt_mem e₂)
        · exact absurd e₂ hIL
      · have h1 := (N₁ p (hK i m' news' hJ' p hp)).1
        rw [h1] at e
        cases e
        exact hn p (hk p hp)
    refine wpAny_mono step (fun f s₃ h₃ => ?_) fun _ _ e => e.elim
    cases f with
    | ret v => exact h₃
    | brk => exact h₃
    | cont =>
      obtain ⟨h'', tk'', m'', news'', nx, rfl, F'', N'', hn, ho, hj⟩ := h₃
      exact ⟨n + 1 - (i + 1), by omega, h'', tk'', m'', nx, i + 1, rfl, keep h'' nx (fun p hp => (N'' p (ho p hp)).1) (fun p hp => (N'' p (hn p hp)).1) (hK _ _ _ hj), F'', fun p hp => N'' p (hn p hp), hj, hlt, rfl⟩
    | next =>
      obtain ⟨h'', tk'', m'', news'', nx, rfl, F'', N'', hn, ho, hj⟩ := h₃
      exact ⟨n + 1 - (i + 1), by omega, h'', tk'', m'', nx, i + 1, rfl, keep h'' nx (fun p hp => (N'' p (ho p hp)).1) (fun p hp => (N'' p (hn p hp)).1) (hK _ _ _ hj), F'', fun p hp => N'' p (hn p hp), hj, hlt, rfl⟩
  · have hin : i = n := by omega
    subst hin
    refine W.done _ _ _ hst' fun h₁ tk₁ hk₁ => wpAny_execs_nil ?_
    obtain ⟨F₁, N₁⟩ := next h₁ hk₁
    exact done m' news' h₁ tk₁ hJ' F₁ N₁

theorem lt_size_news (N : News h₀ L s.heap news) : ∀ p ∈ news, p.1 < s.heap.objs.size := fun p hp => Heap.lt_size (N p hp).1
theorem fresh_at (F : Fr h₀ L s.heap m) : h₀.get? s.heap.objs.size = none := by
  cases q : h₀.get? s.heap.objs.size with
  | none => rfl
  | some o => exact absurd (Heap.lt_size (F.keep _ _ q)) (Nat.lt_irrefl _)

/-- over a text's signs; J's ledger bears the addresses that stood -/
theorem it_str {y : Str} {t : Tok} {px : Pos} (J : Nat → (Str → Option Value) → List (Addr × Obj) → Prop) (hh : A.handled = none) (hadr : ∀ i m₁ news₁, J i m₁ news₁ → ∀ p ∈ news₁, p.1 < s.heap.objs.size)
    (F : Fr h₀ L s.heap m) (N : News h₀ L s.heap news) (hL : env.locals = L) (hJ : J 0 m news)
    (turn : ∀ i c u m₁ news₁ h tk own, y.cps[i]? = some c → J i m₁ news₁ → (∀ p ∈ own, p.1 = s.heap.objs.size) → Fr h₀ L h (fun z => if z = x then some (.str ⟨#[c]⟩ u) else m₁ z) → News h₀ L h (news₁ ++ own) →
      wpAny (model prog w) A (execs body env) (ForEnd h₀ L own (J (i + 1)) { s with heap := h, toks := tk } Q) (fun _ _ => False) { s with heap := h, toks := tk })
    (done : ∀ m₁ news₁ h tk, J y.cps.size m₁ news₁ → Fr h₀ L h m₁ → News h₀ L h news₁ → Q .next { s with heap := h, toks := tk })
    (hx : env.kindOf x = some .local) (hp : (env.scope.kind == .class || (env.scope.kind == .module && env.locals != env.globals)) = false) :
    wpAny (model prog w) A (pyIter (.str y t)) (LoopO prog w A env x px body Q) (fun _ _ => False) s := by
  refine wpAny_pyIter_str fun o St hW hst => ?_
  refine loop_W (s := { s with heap := s.heap.push o }) (hW A hh) [] (fun b hb => .inl (List.mem_singleton.mp hb)) J (fun _ _ _ _ _ h => nomatch h) hadr (fresh_at F) (fun e => by subst hL; exact absurd F.ns.lt (e ▸ Nat.lt_irrefl _)) hL hst (F.push o)
    (fun p hp => ⟨Heap.get?_push_of_some _ (N p hp).1, (N p hp).2⟩) hJ ?_ done hx hp
  rintro i v m₁ news₁ h tk own hi ⟨c, u, hc, rfl⟩ hj ho F₁ N₁
  exact turn i c u m₁ news₁ h tk own hc hj ho F₁ N₁

/-- over a list of the ledger that stays as it is -/
theorem it_list {l : Addr} {vs : List Value} {nn : Nat} {px : Pos} (J : Nat → (Str → Option Value) → List (Addr × Obj) → Prop) (hh : A.handled = none) (hl : ∀ i m₁ news₁, J i m₁ news₁ → (l, listOf vs.toArray nn) ∈ news₁) (hadr : ∀ i m₁ news₁, J i m₁ news₁ → ∀ p ∈ news₁, p.1 < s.heap.objs.size)
    (F : Fr h₀ L s.heap m) (N : News h₀ L s.heap news) (hL : env.locals = L) (hJ : J 0 m news)
    (turn : ∀ i v m₁ news₁ h tk own, vs[i]? = some v → J i m₁ news₁ → (∀ p ∈ own, p.1 = s.heap.objs.size) → Fr h₀ L h (fun z => if z = x then some v else m₁ z) → News h₀ L h (news₁ ++ own) →
      wpAny (model prog w) A (execs body env) (ForEnd h₀ L own (J (i + 1)) { s with heap := h, toks := tk } Q) (fun _ _ => False) { s with heap := h, toks := tk })
    (done : ∀ m₁ news₁ h tk, J vs.length m₁ news₁ → Fr h₀ L h m₁ → News h₀ L h news₁ → Q .next { s with heap := h, toks := tk })
    (hx : env.kindOf x = some .local) (hp : (env.scope.kind == .class || (env.scope.kind == .module && env.locals != env.globals)) = false) :
    wpAny (model prog w) A (pyIter (.ref l)) (LoopO prog w A env x px body Q) (fun _ _ => False) s := by
  have hol : s.heap.get? l = some (listOf vs.toArray nn) := (N _ (hl _ _ _ hJ)).1
  have hls : s.heap.IsList l vs.toArray := ⟨_, hol, rfl, nn, rfl⟩
  have hne : l ≠ s.heap.objs.size := Nat.ne_of_lt (Heap.lt_size hol)
  refine wpAny_pyIter_list hls ?_
  have W := Walks.list (prog := prog) (w := w) hh s.heap.objs.size l hne vs.toArray
  refine loop_W (s := { s with heap := s.heap.push _ }) W [(l, listOf vs.toArray nn)] (fun b hb => ?_) J (fun i m₁ news₁ hj p hp => by rw [List.mem_singleton.mp hp]; exact hl i m₁ news₁ hj) hadr (fresh_at F) (fun e => by subst hL; exact absurd F.ns.lt (e ▸ Nat.lt_irrefl _)) hL
    ⟨⟨_, Heap.get?_push_size _ rfl, rfl, rfl⟩, hls.push _⟩ (F.push _)
    (fun p hp => ⟨Heap.get?_push_of_some _ (N p hp).1, (N p hp).2⟩) hJ ?_ (by rw [List.size_toArray]; exact done) hx hp
  · rcases List.mem_cons.mp hb with h | h
    · exact .inl h
    · exact .inr ⟨_, .head _, (List.mem_singleton.mp h).symm⟩
  · rintro i v m₁ news₁ h tk own hi hv hj ho F₁ N₁
    exact turn i v m₁ news₁ h tk own (by simpa using hv) hj ho F₁ N₁

/-- over a range by ones -/
theorem it_range {r : Addr} {a b : Int} {t u v : Tok} {n : Nat} {px : Pos} (J : Nat → (Str → Option Value) → List (Addr × Obj) → Prop) (hh : A.handled = none) (hr : IsRange s.heap r a b 1 t u v) (hsmall : Builtin.Range.small a b 1 = true) (hn : Builtin.Range.rangeSize a b 1 = (n : Int))
    (hadr : ∀ i m₁ news₁, J i m₁ news₁ → ∀ p ∈ news₁, p.1 < s.heap.objs.size) (F : Fr h₀ L s.heap m) (N : News h₀ L s.heap news) (hL : env.locals = L) (hJ : J 0 m news)
    (turn : ∀ (i : Nat) u m₁ news₁ h tk own, i < n → J i m₁ news₁ → (∀ p ∈ own, p.1 = s.heap.objs.size) → Fr h₀ L h (fun z => if z = x then some (.int (a + i) u) else m₁ z) → News h₀ L h (news₁ ++ own) →
      wpAny (model prog w) A (execs body env) (ForEnd h₀ L own (J (i + 1)) { s with heap := h, toks := tk } Q) (fun _ _ => False) { s with heap := h, toks := tk })
    (done : ∀ m₁ news₁ h tk, J n m₁ news₁ → Fr h₀ L h m₁ → News h₀ L h news₁ → Q .next { s with heap := h, toks := tk })
    (hx : env.kindOf x = some .local) (hp : (env.scope.kind == .class || (env.scope.kind == .module && env.locals != env.globals)) = false) :
    wpAny (model prog w) A (pyIter (.ref r)) (LoopO prog w A env x px body Q) (fun _ _ => False) s := by
  refine wpAny_pyIter_range hr hsmall ?_
  have W := Walks.range (prog := prog) (w := w) hh s.heap.objs.size a 1 n
  refine loop_W (s := { s with heap := s.heap.push _ }) W [] (fun b hb => .inl (List.mem_singleton.mp hb)) J (fun _ _ _ _ _ h => nomatch h) hadr (fresh_at F) (fun e => by subst hL; exact absurd F.ns.lt (e ▸ Nat.lt_irrefl _)) hL
    (by show IsRangeIter _ _ _ _ _; rw [hn]; simpa using Heap.get?_push_size _ rfl) (F.push _)
    (fun p hp => ⟨Heap.get?_push_of_some _ (N p hp).1, (N p hp).2⟩) hJ ?_ done hx hp
  rintro i v m₁ news₁ h tk own hi ⟨u, rfl⟩ hj ho F₁ N₁
  rw [Int.mul_one] at F₁
  exact turn i u m₁ news₁ h tk own hi hj ho F₁ N₁
end
end
section
def numF (l : List Nat) : Int := l.foldl (fun (a : Int) (c : Nat) => a * 16 + (c : Int) - 65) 0
theorem numF_snoc (l : List Nat) (c : Nat) : numF (l ++ [c]) = numF l * 16 + c - 65 := by simp [numF]
theorem snoc_of {α : Type} : ∀ (l : List α), l ≠ [] → ∃ r c, l = r ++ [c] := fun l h => ⟨l.dropLast, l.getLast h, (List.dropLast_concat_getLast h).symm⟩
theorem numF_bound : ∀ (k : Nat) (l : List Nat), l.length = k → (∀ c ∈ l, 65 ≤ c ∧ c < 81) → 0 ≤ numF l ∧ numF l < 16 ^ k := by
  intro k
  induction k with
  | zero => intro l h _; rw [List.length_eq_zero_iff.mp h]; exact ⟨Int.le_refl 0, by rw [Int.pow_zero]; exact Int.one_pos⟩
  | succ k ih =>
    intro l h hc
    obtain ⟨r, c, rfl⟩ := snoc_of l (by intro e; rw [e] at h; cases h)
    rw [numF_snoc]
    have h1 := ih r (by simpa using h) (fun c hc' => hc c (List.mem_append_left _ hc'))
    have h2 := hc c (List.mem_append_right _ (.head _))
    rw [Int.pow_succ]
    omega
theorem c_number (w : World) (y : Str) (t : Tok) (hl : y.cps.size ≤ 40) (hy : ∀ c ∈ y.cps.toList, 65 ≤ c ∧ c < 81) : Pure w 98 1 8 [.str y t] (fun t => .int (numF y.cps.toList) t) := by
  k_with_none
  w_top off
  unfold Pure
  k_fill
  intro loose mean mg mb news dp un gd cn cs a' ccd cl outer A₀ base h₀ L m s Q E B F X N T hk hdp hun hret
  refine wpAny_call ?_
  k_with "exec For Name Name cons nil" => refine For_O ?_
  k_dflt cell_enter
  refine noE ?_
  k_steps
  rename Fr _ _ _ _ => F9
  rename News _ _ _ _ => N9
  refine it_str (fun i m' news' => news' = news ∧ ∃ (t1 : Tok) (u : Str → Option Value), m' = fun z : Str => if z = "number" then some (Value.int (numF (y.cps.toList.take i)) t1) else u z) rfl ?_ F9 N9 rfl ⟨rfl, _, _, rfl⟩ ?_ ?_ rfl rfl
  · rintro _ _ _ ⟨rfl, _⟩
    exact lt_size_news N9
  · rintro i c u m₁ _ h tk own hc ⟨rfl, t1, u1, rfl⟩ ho F' N'
    dsimp only at F'
    clear F9 N9
    have hb : 65 ≤ c ∧ c < 81 := hy c (by rw [Array.getElem?_eq_some_iff] at hc; obtain ⟨h, e⟩ := hc; rw [← e]; simp)
    have hlen : (y.cps.toList.take i).length ≤ 40 := by simp; omega
    have hbb := numF_bound _ (y.cps.toList.take i) rfl (fun c hc => hy c (List.mem_of_mem_take hc))
    have hbc : numF (y.cps.toList.take i) < 16 ^ 40 := Int.lt_of_lt_of_le hbb.2 (by exact_mod_cast Nat.pow_le_pow_right (by decide) hlen)
    have hb0 := hbb.1
    clear hbb
    generalize hg : numF (y.cps.toList.take i) = g at *
    have e : numF (y.cps.toList.take (i + 1)) = g * 16 + c - 65 := by
      rw [List.take_add_one, show y.cps.toList[i]? = some c from by simpa using hc]
      show numF (_ ++ [c]) = _
      rw [numF_snoc, hg]
    k_steps
    rename Fr _ _ _ _ => F9
    rename News _ _ _ _ => N9
    exact ForEnd.next F9 N9 (fun p hp => List.mem_append_left _ hp) (fun p hp => List.mem_append_right _ hp) ⟨rfl, _, _, by rw [e]⟩
  · rintro m₁ _ h tk ⟨rfl, t1, u1, rfl⟩ F' N'
    clear F9 N9
    k_steps
    rw [List.take_of_length_le (by simp)]
    exact hret _ _ _ (by assumption) (by assumption)
end
end Mine
namespace Mine
local macro_rules | `(tactic| k_steps) => `(tactic| repeat' (first | (k_unfold; (try dsimp only)) | walk1 | (dsimp only; walk1)))
local macro_rules | `(tactic| walk_at "exec For Name Call cons nil") => `(tactic| k_extra "hk exec For Name Call cons nil")
local macro_rules | `(tactic| walk_at "subscriptTail Name Name ref int") => `(tactic| k_extra "mine sub")
local macro_rules | `(tactic| walk_at "pyIter ref") => `(tactic| k_extra "hk pyIter ref")
local macro_rules | `(tactic| walk_at "exec For Name Name cons nil") => `(tactic| k_extra "hk exec For Name Name cons nil")
local macro_rules | `(tactic| walk_at "call ref") => `(tactic| k_extra "mine call")
local macro_rules | `(tactic| walk_at "exec If") => `(tactic| k_extra "mine if")
local macro_rules | `(tactic| walk_at "call builtin:iter") => `(tactic| k_extra "mine iter")
local macro_rules | `(tactic| walk_at "binaryOp LShift int int") => `(tactic| k_extra "mine shl")
local macro_rules | `(tactic| walk_at "eval ListComp") => `(tactic| k_extra "mine comp")
local macro_rules | `(tactic| walk_at "CompSrc") => `(tactic| k_extra "hk CompSrc")
local macro_rules | `(tactic| walk_at "call builtin:list.append") => `(tactic| k_extra "mine app")
local macro_rules | `(tactic| walk_at "subscriptTail Name BinOp ref int") => `(tactic| k_extra "mine sub")
local macro_rules | `(tactic| walk_at "binaryOp Mult int int") => `(tactic| k_extra "mine mul")
local macro_rules | `(tactic| walk_at "binaryOp Pow int int") => `(tactic| k_extra "mine pow")
local macro_rules | `(tactic| walk_at "exec For Name Tuple cons nil") => `(tactic| k_extra "hk exec For Name Tuple cons nil")
local macro_rules | `(tactic| walk_at "execs cons") => `(tactic| k_extra "mine stage")
local macro_rules | `(tactic| walk_at "call builtin:max") => `(tactic| k_extra "mine max")
local macro_rules | `(tactic| walk_at "call builtin:len") => `(tactic| k_extra "mine len")
local macro_rules | `(tactic| walk_at "subscriptTail Name Slice ref ref") => `(tactic| k_extra "mine slice")
local macro_rules | `(tactic| walk_at "compareOp NotEq ref ref") => `(tactic| k_extra "mine ne")
local macro_rules | `(tactic| walk_at "exec For Name Subscript cons nil") => `(tactic| k_extra "hk exec For Name Subscript cons nil")
local macro_rules | `(tactic| walk_at "compareOp NotEq int int") => `(tactic| k_extra "mine ne")
section
def sp1 (w : Int) : Int := w.fdiv 8 * 512 + (w.fdiv 4).fmod 2 * 64 + (w.fdiv 2).fmod 2 * 8 + w.fmod 2
def spF (l : List Nat) : Int := l.foldl (fun (a : Int) (c : Nat) => a * 4096 + sp1 ((c : Int) - 65)) 0
theorem spF_snoc (l : List Nat) (c : Nat) : spF (l ++ [c]) = spF l * 4096 + sp1 ((c : Int) - 65) := by simp [spF]
theorem sp1_bound {c : Nat} (h : 65 ≤ c ∧ c < 81) : 0 ≤ sp1 ((c : Int) - 65) ∧ sp1 ((c : Int) - 65) < 4096 := by
  have key : ∀ k : Fin 16, 0 ≤ sp1 ((k.val : Nat) : Int) ∧ sp1 ((k.val : Nat) : Int) < 4096 := by decide +kernel
  have := key ⟨c - 65, by omega⟩
  rwa [show (((c - 65 : Nat) : Nat) : Int) = (c : Int) - 65 by omega] at this
theorem spF_bound : ∀ (k : Nat) (l : List Nat), l.length = k → (∀ c ∈ l, 65 ≤ c ∧ c < 81) → 0 ≤ spF l ∧ spF l < 4096 ^ k := by
  intro k
  induction k with
  | zero => intro l h _; rw [List.length_eq_zero_iff.mp h]; exact ⟨Int.le_refl 0, by rw [Int.pow_zero]; exact Int.one_pos⟩
  | succ k ih =>
    intro l h hc
    obtain ⟨r, c, rfl⟩ := snoc_of l (by intro e; rw [e] at h; cases h)
    rw [spF_snoc]
    have h1 := ih r (by simpa using h) (fun c hc' => hc c (List.mem_append_left _ hc'))
    have h2 := sp1_bound (hc c (List.mem_append_right _ (.head _)))
    rw [Int.pow_succ]
    omega
theorem c_spread (w : World) (y : Str) (t : Tok) (hl : y.cps.size ≤ 40) (hy : ∀ c ∈ y.cps.toList, 65 ≤ c ∧ c < 81) : Pure w 129 1 8 [.str y t] (fun t => .int (spF y.cps.toList) t) := by
  k_with_none
  w_top off
  unfold Pure
  k_fill
  intro loose mean mg mb news dp un gd cn cs a' ccd cl outer A₀ base h₀ L m s Q E B F X N T hk hdp hun hret
  refine wpAny_call ?_
  k_with "exec For Name Name cons nil" => refine For_O ?_
  k_dflt cell_enter
  refine noE ?_
  k_steps
  rename Fr _ _ _ _ => F9
  rename News _ _ _ _ => N9
  refine it_str (fun i m' news' => news' = news ∧ ∃ (t1 : Tok) (u : Str → Option Value), m' = fun z : Str => if z = "number" then some (Value.int (spF (y.cps.toList.take i)) t1) else u z) rfl ?_ F9 N9 rfl ⟨rfl, _, _, rfl⟩ ?_ ?_ rfl rfl
  · rintro _ _ _ ⟨rfl, _⟩
    exact lt_size_news N9
  · rintro i c u m₁ _ h tk own hc ⟨rfl, t1, u1, rfl⟩ ho F' N'
    dsimp only at F'
    clear F9 N9
    have hb : 65 ≤ c ∧ c < 81 := hy c (by rw [Array.getElem?_eq_some_iff] at hc; obtain ⟨h, e⟩ := hc; rw [← e]; simp)
    have hlen : (y.cps.toList.take i).length ≤ 40 := by simp; omega
    have hbb := spF_bound _ (y.cps.toList.take i) rfl (fun c hc => hy c (List.mem_of_mem_take hc))
    have hbc : spF (y.cps.toList.take i) < 4096 ^ 40 := Int.lt_of_lt_of_le hbb.2 (by exact_mod_cast Nat.pow_le_pow_right (by decide) hlen)
    have hb0 := hbb.1
    clear hbb
    generalize hg : spF (y.cps.toList.take i) = g at *
    have e : spF (y.cps.toList.take (i + 1)) = g * 4096 + sp1 ((c : Int) - 65) := by
      rw [List.take_add_one, show y.cps.toList[i]? = some c from by simpa using hc]
      show spF (_ ++ [c]) = _
      rw [spF_snoc, hg]
    k_steps
    rename Fr _ _ _ _ => F9
    rename News _ _ _ _ => N9
    dsimp only at F9 ⊢
    have e' : g * 4096 + ((c : Int) - 65).fdiv 8 * 512 + (((c : Int) - 65).fdiv 4).fmod 2 * 64 + (((c : Int) - 65).fdiv 2).fmod 2 * 8 + ((c : Int) - 65).fmod 2 = spF (y.cps.toList.take (i + 1)) := by
      rw [e]; unfold sp1; simp only [Int.add_assoc]
    rw [e'] at F9
    exact ForEnd.next F9 N9 (fun p hp => List.mem_append_left _ hp) (fun p hp => List.mem_append_right _ hp) ⟨rfl, _, _, rfl⟩
  · rintro m₁ _ h tk ⟨rfl, t1, u1, rfl⟩ F' N'
    clear F9 N9
    k_steps
    rw [List.take_of_length_le (by simp)]
    exact hret _ _ _ (by assumption) (by assumption)
end
section
open Builtin Builtin.Str
theorem str_eta (x : Str) : x = ⟨x.cps.toList.toArray⟩ := by cases x; simp
theorem strIdx_nat (lo : Option Nat) (b n : Nat) : strSliceIndices (lo.map (fun (a : Nat) => (a : Int))) (some (b : Int)) 1 n = sliceRange ((min (lo.getD 0) n : Nat) : Int) ((min b n : Nat) : Int) 1 := by
  cases lo with
  | none =>
    simp only [strSliceIndices, Option.map_none, Option.getD_none, show ((1 : Int) > 0) = True from by simp, if_true]
    congr 1
    rw [if_neg (by omega)]; omega
  | some a =>
    simp only [strSliceIndices, Option.map_some, Option.getD_some, show ((1 : Int) > 0) = True from by simp, if_true]
    congr 1
    · rw [if_neg (by omega)]; omega
    · rw [if_neg (by omega)]; omega
theorem slice_core (x : Str) (lo : Option Nat) (b : Nat) : Txt.slice x (lo.map (fun (a : Nat) => (a : Int))) (some (b : Int)) = ⟨((x.cps.toList.drop (lo.getD 0)).take (b - lo.getD 0)).toArray⟩ := by
  have hx : x.cps.toList.length = x.length := by simp [PySem.Str.length]
  have hl : (x.cps.toList.drop (min (lo.getD 0) x.length)).take (min b x.length - min (lo.getD 0) x.length) = (x.cps.toList.drop (lo.getD 0)).take (b - lo.getD 0) := by
    generalize lo.getD 0 = a
    by_cases ha : a ≤ x.length
    · rw [Nat.min_eq_left ha]
      by_cases hb : b ≤ x.length
      · rw [Nat.min_eq_left hb]
      · rw [Nat.min_eq_right (show x.length ≤ b by omega), List.take_of_length_le (by rw [List.length_drop]; omega), List.take_of_length_le (by rw [List.length_drop]; omega)]
    · rw [Nat.min_eq_right (show x.length ≤ a by omega), List.drop_of_length_le (by omega), List.drop_of_length_le (by omega), List.take_nil, List.take_nil]
  unfold Txt.slice
  rw [strIdx_nat, sliceRange_one]
  split
  · rename_i h
    simp at h
    rw [← hl]
    have h2 : min (lo.getD 0) x.length = 0 ∨ x.length = 0 := by omega
    have h3 : (x.cps.toList.drop (min (lo.getD 0) x.length)).take (min b x.length - min (lo.getD 0) x.length) = x.cps.toList := by
      rcases h2 with h2 | h2
      · rw [h2, List.drop_zero, List.take_of_length_le (by omega)]
      · have : x.cps.toList = [] := List.length_eq_zero_iff.mp (by omega)
        rw [this]; simp
    rw [h3]
  · rw [pick_run, hl]
theorem slice_nat (x : Str) (a b : Nat) : Txt.slice x (some (a : Int)) (some (b : Int)) = ⟨((x.cps.toList.drop a).take (b - a)).toArray⟩ := slice_core x (some a) b
theorem slice_upto (x : Str) (b : Nat) : Txt.slice x none (some (b : Int)) = ⟨(x.cps.toList.take b).toArray⟩ := by
  have := slice_core x none b
  simpa using this

theorem takeWhile_all_of {p : Nat → Bool} : ∀ {l : List Nat}, (∀ c ∈ l, p c = true) → l.takeWhile p = l
  | [], _ => rfl
  | a :: r, h => by rw [List.takeWhile_cons, h a (.head _), if_pos rfl, takeWhile_all_of fun c hc => h c (.tail _ hc)]
theorem strip_all {x y : Str} (h : ∀ c ∈ x.cps.toList, y.cps.contains c = true) : Txt.stripChars x y = PySem.Str.ofString "" := by
  have hlo : stripLo y.cps.contains true x = x.length := by
    unfold stripLo
    rw [if_pos rfl, takeWhile_all_of h]; simp [PySem.Str.length]
  have hhi : stripHi y.cps.contains true x x.length = x.length := by
    unfold stripHi
    rw [if_pos rfl, List.drop_of_length_le (by simp [PySem.Str.length])]; simp
  unfold Txt.stripChars Txt.stripBy stripSame PySem.stripped
  rw [hlo, hhi]
  by_cases h0 : x.length = 0
  · rw [if_pos (by rw [h0]; rfl)]
    have : x.cps = #[] := by simpa [PySem.Str.length] using h0
    cases x; cases this; decide +kernel
  · rw [if_neg (by simp [h0])]
    have : strSub x x.length x.length = ⟨#[]⟩ := by simp [strSub, PySem.Str.length]
    rw [this]; decide +kernel
theorem ap_contains {c : Nat} (h : 65 ≤ c ∧ c < 81) : (PySem.Str.ofString "ABCDEFGHIJKLMNOP").cps.contains c = true := by
  have key : ∀ k : Fin 16, (PySem.Str.ofString "ABCDEFGHIJKLMNOP").cps.contains (65 + k.val) = true := by decide +kernel
  have := key ⟨c - 65, by omega⟩
  rwa [show 65 + (c - 65) = c by omega] at this
end
section
theorem c_clean (w : World) (y : Str) (t : Tok) (hl : y.cps.size ≤ 40) (hy : ∀ c ∈ y.cps.toList, 65 ≤ c ∧ c < 81) (hz : y.cps.toList.head? ≠ some 65) : Pure w 105 1 8 [.str y t] (fun _ => .bool true) := by
  k_with_none
  w_top off
  unfold Pure
  k_fill
  intro loose mean mg mb news dp un gd cn cs a' ccd cl outer A₀ base h₀ L m s Q E B F X N T hk hdp hun hret
  refine wpAny_call ?_
  k_dflt cell_enter
  refine noE ?_
  have e1 : (Txt.stripChars y (PySem.Str.ofString "ABCDEFGHIJKLMNOP") == PySem.Str.ofString "") = true := by
    rw [strip_all fun c hc => ap_contains (hy c hc)]; exact beq_self_eq_true _
  have e2 : (Txt.slice y none (some 1) != PySem.Str.ofString "A") = true := by
    rw [show (some (1 : Int)) = some ((1 : Nat) : Int) from rfl, slice_upto]
    rw [bne_iff_ne]
    intro e
    have e3 := congrArg (fun z : PySem.Str => z.cps.toList) e
    rw [show (PySem.Str.ofString "A").cps.toList = [65] by decide +kernel] at e3
    simp only at e3
    revert e3
    cases hq : y.cps.toList with
    | nil => simp
    | cons a r => rw [hq] at hz; simp at hz ⊢; omega
  k_steps
  rw [e2]
  exact hret 0 _ _ (by assumption) (by assumption)
end
section
open LCg
section
variable {prog : Program} {w : World} {A : Around} {E : Value → Shared → Prop} {s : Shared} {h₀ : Heap} {L : Addr} {m : Str → Option Value} {env : Env}
/-- the turns of a list comprehension by an invariant over what is built and the ledger -/
theorem compRest_inv {elt : Expr} {x : Str} {scope : Scope} {cl : List (Str × Addr)} {S : List (Addr × Obj) → Prop} {P : Nat → Value → Prop} {Fin : List Value → List (Addr × Obj) → Prop} {n : Nat}
    (Inv : Nat → List Value → List (Addr × Obj) → Prop) (fin : ∀ ys news, Inv n ys news → Fin ys news)
    (step : ∀ i ys news, i < n → Inv i ys news → ∀ v I oI C oC D m₂ h tk, P i v → NsObj oC m₂ → m₂ x = some v → Fr h₀ L h m → News h₀ L h ((I, oI) :: (C, oC) :: (D, lst ys) :: news) → Off3 I C D news → ((@Ne Nat I C) ∧ (@Ne Nat I D) ∧ (@Ne Nat C D)) →
      wpAny (model prog w) A (eval elt (compEnvC scope cl C env)) (CompEnd h₀ L m { s with heap := h, toks := tk } I oI C oC D (lst ys) S (fun y news' => Inv (i + 1) (ys ++ [y]) news')) (fun _ _ => False) { s with heap := h, toks := tk }) :
    ∀ k i ys news, i + k = n → Inv i ys news → CompRest prog w A h₀ L m env elt x scope cl s S P Fin k i ys news := by
  intro k
  induction k with
  | zero => intro i ys news h hi; obtain rfl : i = n := h; exact fin ys news hi
  | succ k ih =>
    intro i ys news h hi
    refine CompRest.succ fun v I oI C oC D m₂ h' tk E' hP hC hx F N off ne => ?_
    refine wpAny_mono (step i ys news (by omega) hi v I oI C oC D m₂ h' tk hP hC hx F N off ne) (fun y s₂ hs => ?_) fun _ _ e => e.elim
    obtain ⟨h'', tk'', news', rfl, F', N', off', hS, hr⟩ := hs
    exact ⟨h'', tk'', news', rfl, F', N', off', hS, ih (i + 1) (ys ++ [y]) news' (by omega) hr⟩
/-- the source of a list comprehension, a text of ASCII -/
def StrSrc (prog : Program) (w : World) (A : Around) (h₀ : Heap) (L : Addr) (m : Str → Option Value) (env : Env) (elt : Expr) (x : Str) (scope : Scope) (cl : List (Str × Addr)) (Fin : Shared → List Value → List (Addr × Obj) → Prop) (xv : Value) (s₁ : Shared) : Prop :=
  ∃ (y : Str) (t : Tok) (news : List (Addr × Obj)), xv = .str y t ∧ A.handled = none ∧ y.cps.all (· < 128) = true ∧ y.cps.size ≤ sizeLine ∧ Fr h₀ L s₁.heap m ∧ News h₀ L s₁.heap news ∧
      ∀ s₂ : Shared, (∃ h, s₂ = { s₁ with heap := h }) → CompRest prog w A h₀ L m env elt x scope cl s₂ (fun _ => True) (SignAt y) (Fin s₂) y.cps.size 0 [] news
theorem StrSrc.intro {elt : Expr} {x : Str} {scope : Scope} {cl : List (Str × Addr)} {Fin : Shared → List Value → List (Addr × Obj) → Prop} {s₁ : Shared} {y : Str} {t : Tok} {news : List (Addr × Obj)} (hh : A.handled = none) (ha : y.cps.all (· < 128) = true) (hsz : y.cps.size ≤ sizeLine) (F : Fr h₀ L s₁.heap m) (N : News h₀ L s₁.heap news)
    (h : ∀ g, CompRest prog w A h₀ L m env elt x scope cl { s₁ with heap := g } (fun _ => True) (SignAt y) (Fin { s₁ with heap := g }) y.cps.size 0 [] news) :
    StrSrc prog w A h₀ L m env elt x scope cl Fin (.str y t) s₁ := ⟨y, t, news, rfl, hh, ha, hsz, F, N, fun _ ⟨g, e⟩ => e ▸ h g⟩
/-- a list comprehension over a text of ASCII -/
theorem ListComp_S {elt iter : Expr} {x : Str} {px : Pos} {scope : Scope} {cl : List (Str × Addr)} {pos : Pos} {Q : Value → Shared → Prop} (_F₀ : Fr h₀ L s.heap m)
    (hclos : closureFor scope env = pure cl) (hcell : ∀ y ∈ scope.names, y.2 ≠ .cell) (hkind : scope.kind = .function)
    (hnames : ∀ y ∈ scope.names, y.2 = .local → scope.names.lookup y.1 = some .local) (hx : scope.names.lookup x = some .local)
    (h : wpAny (model prog w) A (eval iter env) (StrSrc prog w A h₀ L m env elt x scope cl (fun s₂ => FinE h₀ L m s₂ Q)) E s)
    (hs : ∀ x, foldedSetIterable iter env x = pure x := by intro _; rfl) :
    wpAny (model prog w) A (eval (.ListComp elt [⟨.Name x px, iter, [], 0⟩] scope pos) env) Q E s := by
  rw [eval_ListComp]
  refine wpAny_comprehension_free (use := none) rfl hs hclos hkind hnames (wpAny_mono h (fun xv s₁ h₁ => ?_) fun _ _ e => e)
  obtain ⟨y, t, news, rfl, hh, ha, hsz, F, N, R⟩ := h₁
  refine wpAny_pyIter_ascii ha ?_
  refine block_U (S := fun _ => True) (Walks.strAscii hh s₁.heap.objs.size y t) hsz (fun i h st => by obtain ⟨o, e, _⟩ := st; exact ⟨o, e⟩) (fun i h h' o nw st e e' _ _ _ => by obtain ⟨o', q, r⟩ := st; rw [e] at q; cases q; exact ⟨o, e', r⟩) hcell hkind hx ⟨_, Heap.get?_push_size _ rfl, rfl, rfl⟩ (fun b hb => ?_)
    (F.keeps fun _ _ e => Heap.get?_push_of_some _ e) (N.grown fun _ _ e => Heap.get?_push_of_some _ e) (Nat.ne_of_lt F.ns.lt) (next_is_new F) (fun p hp => Nat.ne_of_lt (Heap.lt_size (N p hp).1)) trivial (R _ ⟨_, rfl⟩) ?_
  · rw [List.mem_singleton.mp hb]
    show s₁.heap.objs.size < (s₁.heap.push _).objs.size
    rw [Heap.size_push]; exact Nat.lt_succ_self _
  · intro D C h' tk m' ys news' F' N' o1 hn hC₀ hD₀ hCL hDL hCD offC fin
    refine ⟨m', hn, fun h'' hs'' => fin D h'' tk (F'.change hs'' hCL hC₀) (fun p hp => ?_) o1⟩
    refine ⟨hs''.extBut _ _ ?_ (N' p hp).1, (N' p hp).2⟩
    rcases List.mem_cons.mp hp with rfl | hp
    · exact Ne.symm hCD
    · exact offC p hp
end
end
section
def dressF (l : List Nat) (k : Int) : List Nat := if l = [] ∨ k = 2 then 34 :: (l ++ [34]) else if k = 1 then l.flatMap (fun c => [92, c]) else l
theorem strsAre_snoc {z : Str} {t : Tok} : ∀ {vs : List Value} {zs : List Str}, StrsAre vs zs → StrsAre (vs ++ [.str z t]) (zs ++ [z])
  | _, _, .nil => .cons _ _ .nil
  | _, _, .cons _ _ r => .cons _ _ (strsAre_snoc r)
theorem strsAre_len : ∀ {vs : List Value} {zs : List Str}, StrsAre vs zs → vs.length = zs.length
  | _, _, .nil => rfl
  | _, _, .cons _ _ r => by simp [strsAre_len r]
theorem join_empty (zs : List Str) : Txt.join ⟨#[]⟩ zs = txt (zs.flatMap (·.cps.toList)) := by
  show Builtin.Str.glued ⟨#[]⟩ zs = _
  unfold Builtin.Str.glued txt
  cases zs with
  | nil => rfl
  | cons a r =>
    have key : ∀ (r : List Str) (x : Array Nat), r.foldl (fun acc (p : Str) => acc ++ (⟨#[]⟩ : Str).cps ++ p.cps) x = x ++ (r.flatMap (·.cps.toList)).toArray := by
      intro r
      induction r with
      | nil => intro x; simp
      | cons b r ih => intro x; rw [List.foldl_cons, ih, List.flatMap_cons]; apply Array.ext'; simp
    simp only [List.drop_one, List.tail_cons, List.headD_cons]
    rw [key]
    congr 1
    simp
def slashed (c : Nat) : Str := PySem.Str.ofString "\\" ++ ⟨#[c]⟩
theorem slashed_cps (c : Nat) : (slashed c).cps.toList = [92, c] := by
  unfold slashed
  rw [Str.cps_append, show (PySem.Str.ofString "\\").cps = #[92] by decide +kernel]
  rfl
theorem slashed_sum : ∀ l : List Nat, ((l.map slashed).map (·.length)).sum = 2 * l.length
  | [] => rfl
  | c :: r => by
    have h := slashed_cps c
    have h2 : (slashed c).length = 2 := by show (slashed c).cps.size = 2; rw [← Array.length_toList, h]; rfl
    simp only [List.map_cons, List.sum_cons, List.length_cons, h2, slashed_sum r]
    omega
theorem slashed_flat : ∀ l : List Nat, (l.map slashed).flatMap (·.cps.toList) = l.flatMap (fun c => [92, c])
  | [] => rfl
  | c :: r => by rw [List.map_cons, List.flatMap_cons, List.flatMap_cons, slashed_flat r, slashed_cps]
theorem quoted_txt (y : Str) : PySem.Str.ofString "\"" ++ y ++ PySem.Str.ofString "\"" = txt (34 :: (y.cps.toList ++ [34])) := by
  apply Str.ext'
  rw [Str.cps_append, Str.cps_append, show (PySem.Str.ofString "\"").cps = #[34] by decide +kernel]
  simp [txt]
theorem txt_eta (y : Str) : y = txt y.cps.toList := by cases y; simp [txt]
theorem empty_of {y : Str} (h : (y == PySem.Str.ofString "") = true) : y.cps.toList = [] := by
  rw [beq_iff_eq.mp h]; decide +kernel
theorem nonempty_of {y : Str} (h : (y == PySem.Str.ofString "") = false) : y.cps.toList ≠ [] := by
  intro e
  rw [beq_eq_false_iff_ne] at h
  apply h
  rw [txt_eta y, e]; decide +kernel
open LCg in
theorem c_dressed (w : World) (y : Str) (k : Int) (t u : Tok) (hl : y.cps.size ≤ 40) (hy : ∀ c ∈ y.cps.toList, 65 ≤ c ∧ c < 81) : Pure w 110 1 8 [.str y t, .int k u] (fun t => .str (txt (dressF y.cps.toList k)) t) := by
  k_with_none
  w_top off
  unfold Pure
  k_fill
  intro loose mean mg mb news dp un gd cn cs a' ccd cl outer A₀ base h₀ L m s Q E B F X N T hk hdp hun hret
  refine wpAny_call ?_
  k_dflt cell_enter
  refine noE ?_
  have hl' : y.length ≤ 40 := hl
  k_with "eval ListComp" => refine Hold.out ?_
  k_steps
  · rename (y == _) = true => e
    rw [quoted_txt, show 34 :: (y.cps.toList ++ [34]) = dressF y.cps.toList k by unfold dressF; rw [if_pos (.inl (empty_of e))]]
    exact hret _ _ _ (by assumption) (by assumption)
  · rw [quoted_txt, show 34 :: (y.cps.toList ++ [34]) = dressF y.cps.toList k by unfold dressF; rw [if_pos (.inr (by assumption))]]
    exact hret _ _ _ (by assumption) (by assumption)
  · refine Hold.in ?_
    have hk1 : k = 1 := by assumption
    subst hk1
    have hne := nonempty_of (y := y) (by assumption)
    have hd : dressF y.cps.toList 1 = y.cps.toList.flatMap (fun c => [92, c]) := by
      unfold dressF; rw [if_neg (by intro h; rcases h with h | h; exact hne h; cases h), if_pos rfl]
    have ha : y.cps.all (· < 128) = true := by
      rw [Array.all_eq_true']; intro c hc; simp; have := hy c (by simpa using hc); omega
    dsimp only
    rename Fr _ _ _ _ => F9
    refine ListComp_S (cl := []) F9 (by rfl) (by decide) (by rfl) (by decide) (by rfl) ?_
    k_steps
    rename Fr _ _ _ _ => F9
    rename News _ _ _ _ => N9
    refine StrSrc.intro rfl ha (by rw [sizeLine_eq]; omega) F9 N9 fun g9 => ?_
    refine compRest_inv (fun i ys news' => news = news' ∧ StrsAre ys ((y.cps.toList.take i).map slashed)) ?_ ?_ _ 0 [] news (Nat.zero_add _) ⟨rfl, .nil⟩
    · rintro ys _ ⟨rfl, hs⟩
      unfold FinE
      intro D h tk F' N' o1
      rw [List.take_of_length_le (by simp)] at hs
      have hok := slashed_sum y.cps.toList
      have hlen : y.cps.toList.length ≤ 40 := by simpa using hl
      k_with "call builtin:str.join" => (
        refine join_list (items := ys.toArray) ⟨_, N'.get (.head _), rfl, _, rfl⟩ (by simpa using hs) (by rw [show (PySem.Str.ofString "").length = 0 from rfl, hok]; omega) ?_)
      k_steps
      rw [show (PySem.Str.ofString "") = ⟨#[]⟩ from rfl, join_empty, slashed_flat, ← hd]
      exact hret _ _ _ (by assumption) (cb_drop (by assumption) fun p hp => .tail _ hp)
    · rintro i ys _ hi ⟨rfl, hs⟩ v I oI C oC D m₂ h tk ⟨c, u, hc, rfl⟩ hC hx F' N' off ne
      k_steps
      rename Fr _ _ _ _ => F9
      rename News _ _ _ _ => N9
      refine CompEnd.intro F9 N9 news (fun p hp => hp) off trivial ⟨rfl, ?_⟩
      rw [List.take_add_one, show y.cps.toList[i]? = some c from by simpa using hc, List.map_append]
      exact strsAre_snoc hs
  · have hne := nonempty_of (y := y) (by assumption)
    have e : y = txt (dressF y.cps.toList k) := by
      unfold dressF
      rw [if_neg (by intro h; rcases h with h | h; exact hne h; contradiction), if_neg (by assumption)]
      exact txt_eta y
    have h9 : ∀ h' tk', Fr h₀ L h' m → News h₀ L h' news → Q (.str y t) { s with heap := h', toks := tk' } := by
      intro h' tk' a b
      have h8 := hret t h' tk' a b
      dsimp only at h8
      rw [← e] at h8
      exact h8
    exact h9 _ _ (by assumption) (by assumption)
end
section
def choiceF (d : Int) : Int := (d.fdiv 65536).fmod 12
def sepF (j : Int) : Nat := [32, 9, 10, 13].getD j.toNat 32
def pieceF (t d : Int) (k : Nat) : List Nat := dressF (apW t.toNat) ((choiceF d).fmod 3) ++ (if k < 5 then [sepF ((choiceF d).fdiv 3)] else [])
def textF (ts ds : List Int) (i : Nat) : List Nat := (List.range i).flatMap (fun k => pieceF (ts.getD k 0) (ds.getD k 0) k)
theorem textF_succ (ts ds : List Int) (i : Nat) : textF ts ds (i + 1) = textF ts ds i ++ pieceF (ts.getD i 0) (ds.getD i 0) i := by
  unfold textF; rw [List.range_succ, List.flatMap_append]; simp
theorem txt_append (a b : List Nat) : txt a ++ txt b = txt (a ++ b) := by apply Str.ext'; rw [Str.cps_append]; simp [txt]
theorem txt_length (a : List Nat) : (txt a).length = a.length := by simp [txt, Str.length]
theorem txt_cps (a : List Nat) : (txt a).cps.toList = a := by simp [txt]
theorem dressF_len (l : List Nat) (k : Int) : (dressF l k).length ≤ 2 * l.length + 2 := by
  unfold dressF
  split
  · simp; omega
  · split
    · have : ∀ l : List Nat, (l.flatMap (fun c => [92, c])).length = 2 * l.length := by
        intro l; induction l with
        | nil => rfl
        | cons a r ih => rw [List.flatMap_cons, List.length_append, ih]; simp; omega
      rw [this]; omega
    · omega
theorem apW_len {k n : Nat} (h : n < 16 ^ k) : (apW n).length ≤ k := by unfold apW; rw [List.length_map]; exact apL_len k n h
theorem apW_small (n : Nat) : ∀ c ∈ apW n, 65 ≤ c ∧ c < 81 := by
  intro c hc
  obtain ⟨x, hx, rfl⟩ := List.mem_map.mp hc
  exact apL_small n x hx
theorem choiceF_bound (d : Int) : 0 ≤ choiceF d ∧ choiceF d < 12 := ⟨Int.fmod_nonneg_of_pos _ (by decide), Int.fmod_lt_of_pos _ (by decide)⟩
theorem sep_item {j : Int} (h0 : 0 ≤ j) (h1 : j < 4) : Txt.item (PySem.Str.ofString " \t\n\r") j = txt [sepF j] := by
  obtain ⟨k, rfl⟩ := Int.eq_ofNat_of_zero_le h0
  have key : ∀ k : Fin 4, Txt.item (PySem.Str.ofString " \t\n\r") ((k.val : Nat) : Int) = txt [sepF ((k.val : Nat) : Int)] := by decide +kernel
  exact key ⟨k, by omega⟩
theorem textF_len (ts ds : List Int) (hb : ∀ t ∈ ts, 0 ≤ t ∧ t ≤ 65536) (i : Nat) : (textF ts ds i).length ≤ 100 * i := by
  induction i with
  | zero => simp [textF]
  | succ i ih =>
    rw [textF_succ, List.length_append]
    have h1 : (ts.getD i 0) ≤ 65536 := by
      rw [List.getD_eq_getElem?_getD]
      cases h : ts[i]? with
      | none => simp
      | some t => exact (hb t (List.mem_of_getElem? h)).2
    have h2 := apW_len (k := 5) (n := (ts.getD i 0).toNat) (by omega)
    have h3 := dressF_len (apW (ts.getD i 0).toNat) ((choiceF (ds.getD i 0)).fmod 3)
    unfold pieceF
    rw [List.length_append]
    split <;> simp only [List.length_singleton, List.length_nil] <;> omega
theorem c_text (w : World) (ta da : Addr) (tv dv : List Value) (n1 n2 : Nat) (ts ds : List Int) (ht : IntsAre tv ts) (hdv : IntsAre dv ds) (hts : ts.length = 6) (hds : ds.length = 6) (hb : ∀ t ∈ ts, 0 ≤ t ∧ t ≤ 65536)
   (loose : List Str) (mean : ExcName → Option Value) (mg mb : Str → Option Value) (news : List (Addr × Obj))
    (dp un : Nat) (gd : Option (List Code)) (cn : Str) (cs : Scope) (a : Addr) (ccd : Value) (cl : List (Str × Addr)) (outer : List Env) (A₀ : Around) (base h₀ : Heap) (L : Addr) (m : Str → Option Value) (s : Shared) (Q E : Value → Shared → Prop)
    (B : Below A₀ base outer h₀) (F : Fr h₀ L s.heap m) (X : (hd.heap_39 w.params).In h₀) (N : News h₀ L s.heap ((ta, listOf tv.toArray n1) :: (da, listOf dv.toArray n2) :: news)) (T : Top topProg loose mean mg mb h₀) (hk : cs.kind = .function)
    (hdp : dp + 4 < recursionLimit) (hun : un + 40 < cLine)
    (hret : ∀ (t : Tok) (h' : Heap) (tk' : Nat), Fr h₀ L h' m → News h₀ L h' ((ta, listOf tv.toArray n1) :: (da, listOf dv.toArray n2) :: news) → Q (.str (txt (textF ts ds 6)) t) { s with heap := h', toks := tk' }) :
      wpAny (model PySem.Challenge.rw_wn0021_01.row.prog w) (ktrTop dp un gd cn cs L a ccd cl outer) (call (.ref 117) [.ref ta, .ref da]) Q E s := by
  k_with_none
  w_top off
  k_with "hk exec For Name Call cons nil" => refine Hold.out ?_
  k_with "hk pyIter ref" => refine Hold.out ?_
  revert X; k_fill; intro X
  refine wpAny_call ?_
  k_dflt cell_enter
  refine noE ?_
  k_steps
  refine Hold.in ?_
  refine For_O ?_
  k_steps
  refine Hold.in ?_
  rename Fr _ _ _ _ => F9
  rename News _ _ _ _ => N9
  refine' it_range (n := 6) (fun i m' news' => (ta, listOf tv.toArray n1) :: (da, listOf dv.toArray n2) :: news = news' ∧ ∃ (t1 : Tok) (u : Str → Option Value), m' = fun z : Str => if z = "told" then some (Value.ref ta) else if z = "drawn" then some (Value.ref da) else if z = "text" then some (.str (txt (textF ts ds i)) t1) else u z) ?h1 ?h2 ?h3 ?h4 ?h5 ?h6 ?h7 ?h8 ?h9 ?h10 ?h11 ?h12 ?h13
  case h1 => rfl
  case h2 => assumption
  case h3 => decide
  case h4 => decide
  case h6 => exact fr_at3 (x := "told") (v := .ref ta) (x2 := "drawn") (v2 := .ref da) (x3 := "text") (v3 := .str (txt (textF ts ds 0)) _) F9 rfl rfl rfl
  case h7 => exact N9
  case h8 => rfl
  case h9 => exact ⟨rfl, _, _, rfl⟩
  case h12 => rfl
  case h13 => rfl
  · rintro _ _ _ ⟨rfl, _⟩
    exact lt_size_news N9
  · rintro i u m₁ nw h tk own hi ⟨hnw, t1, u1, rfl⟩ ho F' N'
    subst hnw
    dsimp only at F'
    rw [Int.zero_add] at F'
    clear F9 N9
    obtain ⟨t, hti⟩ : ∃ t, ts[i]? = some t := ⟨ts[i], by simp [hts, hi]⟩
    obtain ⟨d, hdi⟩ : ∃ d, ds[i]? = some d := ⟨ds[i], by simp [hds, hi]⟩
    obtain ⟨tkT, hxT⟩ := ht.get i t hti
    obtain ⟨tkD, hxD⟩ := hdv.get i d hdi
    have hxT' : tv[((i : Nat) : Int).toNat]? = some (.int t tkT) := hxT
    have hxD' : dv[((i : Nat) : Int).toNat]? = some (.int d tkD) := hxD
    have htb := hb t (List.mem_of_getElem? hti)
    have htl := apW_len (k := 5) (n := t.toNat) (by omega)
    have e1 : ts.getD i 0 = t := by rw [List.getD_eq_getElem?_getD, hti]; rfl
    have e2 : ds.getD i 0 = d := by rw [List.getD_eq_getElem?_getD, hdi]; rfl
    have hcb := choiceF_bound d
    have hsucc := textF_succ ts ds i
    rw [e1, e2] at hsucc
    have hlen := textF_len ts ds hb i
    have hdl := dressF_len (apW t.toNat) ((choiceF d).fmod 3)
    have hc3 : 0 ≤ (choiceF d).fdiv 3 ∧ (choiceF d).fdiv 3 < 4 := by
      rw [Int.fdiv_eq_ediv_of_nonneg _ (by decide)]; omega
    have hcdef : (d.fdiv 65536).fmod 12 = choiceF d := rfl
    have hsmall : ∀ c ∈ (txt (apW t.toNat)).cps.toList, 65 ≤ c ∧ c < 81 := by rw [txt_cps]; exact apW_small _
    have hsz : (txt (apW t.toNat)).cps.size ≤ 40 := by rw [show (txt (apW t.toNat)).cps.size = (apW t.toNat).length from txt_length _]; omega
    k_with "mine sub" => (
      (with_reducible rename News _ _ _ _ => N9)
      k_dflt (first
      | refine item_litK (l := ta) (vs := tv) ⟨_, N9.get (.head _), rfl, _, rfl⟩ (by omega) (by omega) hxT' ?_
      | refine item_litK (l := da) (vs := dv) ⟨_, N9.get (.tail _ (.head _)), rfl, _, rfl⟩ (by omega) (by omega) hxD' ?_))
    k_with "call ref" => (
      k_dflt ((first | refine' (c_word w t _ htb.1 (by omega)).use ?k1 ?k2 ?k3 ?k4 ?k5 ?kK ?kd ?ku ?_ | refine' (c_dressed w (txt (apW t.toNat)) _ _ _ hsz hsmall).use ?k1 ?k2 ?k3 ?k4 ?k5 ?kK ?kd ?ku ?_); (case k1 => k_asm); (case k2 => k_asm); (case k3 => k_asm); (case k4 => k_asm); (case k5 => k_asm); (case kK => exact rfl); (case kd => ktr_room); (case ku => ktr_units))
      intro t9 h9 tk9 F9 N9
      (try dsimp only)
      (try rw [txt_cps, hcdef]))
    k_with "binaryOp Add str str" => k_dflt (refine add_str ?_ (by rw [sizeLine_eq]; simp only [Str.length_append, txt_length, List.length_singleton]; omega))
    k_steps
    · have et : txt (textF ts ds i) ++ txt (dressF (apW t.toNat) ((choiceF d).fmod 3)) ++ txt [sepF ((choiceF d).fdiv 3)] = txt (textF ts ds (i + 1)) := by
        rw [txt_append, txt_append, hsucc]; unfold pieceF; rw [if_pos (by omega), List.append_assoc]
      rename Fr _ _ _ _ => F9
      rename News _ _ _ _ => N9
      dsimp only at F9 ⊢
      rw [hcdef, sep_item hc3.1 hc3.2, et] at F9
      exact ForEnd.next (fr_at3 (x := "told") (v := .ref ta) (x2 := "drawn") (v2 := .ref da) (x3 := "text") (v3 := .str (txt (textF ts ds (i + 1))) _) F9 rfl rfl rfl) N9 (fun p hp => List.mem_append_left _ hp) (fun p hp => List.mem_append_right _ hp) ⟨rfl, _, _, rfl⟩
    · have et : txt (textF ts ds i) ++ txt (dressF (apW t.toNat) ((choiceF d).fmod 3)) = txt (textF ts ds (i + 1)) := by
        rw [txt_append, hsucc]; unfold pieceF; rw [if_neg (by omega), List.append_nil]
      rename Fr _ _ _ _ => F9
      rename News _ _ _ _ => N9
      dsimp only at F9 ⊢
      rw [et] at F9
      exact ForEnd.next (fr_at3 (x := "told") (v := .ref ta) (x2 := "drawn") (v2 := .ref da) (x3 := "text") (v3 := .str (txt (textF ts ds (i + 1))) _) F9 rfl rfl rfl) N9 (fun p hp => List.mem_append_left _ hp) (fun p hp => List.mem_append_right _ hp) ⟨rfl, _, _, rfl⟩
  · rintro m₁ _ h tk ⟨rfl, t1, u1, rfl⟩ F' N'
    clear F9 N9
    k_steps
    exact hret _ _ _ (by assumption) (by assumption)
end
section
/-- everything but what stands at these addresses is as it was -/
def KeepBut (h h' : Heap) (adr : List Addr) : Prop := ∀ b o, b ∉ adr → h.get? b = some o → h'.get? b = some o
theorem KeepBut.refl {h : Heap} {adr : List Addr} : KeepBut h h adr := fun _ _ _ e => e
theorem KeepBut.trans {h h' h'' : Heap} {adr : List Addr} (a : KeepBut h h' adr) (b : KeepBut h' h'' adr) : KeepBut h h'' adr := fun x o hx e => b x o hx (a x o hx e)
theorem KeepBut.mono {h h' : Heap} {adr adr' : List Addr} (a : KeepBut h h' adr) (hs : ∀ b ∈ adr, b ∈ adr') : KeepBut h h' adr' := fun x o hx e => a x o (fun q => hx (hs x q)) e
theorem KeepBut.news {h₀ h h' : Heap} {L : Addr} {adr : List Addr} {rest : List (Addr × Obj)} (a : KeepBut h h' adr) (N : News h₀ L h rest) (off : ∀ p ∈ rest, p.1 ∉ adr) : News h₀ L h' rest := fun p hp => ⟨a p.1 p.2 (off p hp) (N p hp).1, (N p hp).2⟩
theorem News.app {h₀ h : Heap} {L : Addr} {l r : List (Addr × Obj)} (a : News h₀ L h l) (b : News h₀ L h r) : News h₀ L h (l ++ r) := fun p hp => (List.mem_append.mp hp).elim (a p) (b p)
theorem leave_keep {s : Shared} {adr : List Addr} {h₀ : Heap} {L : Addr} {m : Str → Option Value} {R : Result → Shared → Prop} {v : Value} {s' : Shared}
    (hl : LeaveK h₀ L m (hideAll s.heap adr) (fun r s' => KeepBut s.heap s'.heap adr → R r s') v s') : LeaveK h₀ L m (hideAll s.heap adr) R v s' := by
  obtain ⟨L', m', news', F', N', k⟩ := hl
  exact ⟨L', m', news', F', N', fun a b => k a b fun x o hx e => F'.keep x o (hideAll_get _ e hx)⟩
section
variable {prog : Program} {w : World} {A₀ A : Around} {s : Shared} {base h₀ : Heap} {outer : List Env} {L : Addr} {m mg mb : Str → Option Value} {env : Env} {news : List (Addr × Obj)} {K : Frag} {p : Program} {loose : List Str} {mean : ExcName → Option Value}
  {R : Result → Shared → Prop} {name qual : Str} {params : Arguments} {body : List Stmt} {scope : Scope} {cl : List (Str × Addr)} {dV kV doc pm cdv ct : Value} {an : Option Addr} {fo : Obj} {f : Addr} {args : Args} {binds : List (Str × Value)}
theorem call_keep (B : Below A₀ base outer h₀) (F : Fr h₀ L s.heap m) (X₀ : K.In h₀) (N : News h₀ L s.heap news) (T : Top p loose mean mg mb h₀) (hA : A.frames = some (env :: outer)) (hf : env.frame = some L) (hke : env.scope.kind = .function)
    (ho : s.heap.get? f = some fo) (hd : fo.data = .func (fnX name qual params body scope cl dV kV doc pm an cdv ct)) (hcd : s.heap.CodeRec cdv qual) (hroom : A.depth < recursionLimit)
    (hbind : BindsTo s (fnX name qual params body scope cl dV kV doc pm an cdv ct) args binds) (hloc : ∀ y ∈ binds, scope.names.lookup y.1 = some .local)
    (h : ∀ g L' h₁, Fr h₀ L g m → Fr g L' h₁ (fun y => binds.reverse.lookup y) → News g L' h₁ news → Below A base (env :: outer) g → K.In g → Top p loose mean mg mb g → (∀ p ∈ news, p.1 < L') →
      wpAny (model prog w) (A.deeper (envX qual scope L' f cdv cl)) (execs body (envX qual scope L' f cdv cl))
        (fun fl s' => LeaveK h₀ L m g (fun r s' => KeepBut s.heap s'.heap (news.map (·.1)) → R r s') (match fl with | .ret v => v | _ => .none) s')
        (fun _ _ => False) { s with heap := h₁, toks := s.toks + binds.length })
    (hcell : ∀ x ∈ scope.names, x.2 ≠ .cell) (hco : scope.isCoroutine = false) (hgen : scope.isGenerator = false) (hk : scope.kind = .function) : codeAny (model prog w) A (.call (.ref f) args) R s := by
  obtain ⟨FG, BG, st, lv⟩ := groundX (R := R) B F N hA hf hke
  refine codeAny_call_def (fd := fnX name qual params body scope cl dV kV doc pm an cdv ct) (body := body) (binds := binds) hroom ho hd (T.nolimit.keeps F.keep) hcd rfl hbind hcell hloc (fun h₁ hns hk₁ => ?_) hco hgen hk
  exact wpAny_mono (h _ s.heap.objs.size h₁ FG ⟨hns, fun b o e => hk₁ b o (of_hideAll _ e), Nat.le_of_eq (hideAll_size _ _)⟩
    (fun p hp => ⟨hk₁ _ _ (N p hp).1, Nat.ne_of_lt (Heap.lt_size (N p hp).1), hideAll_none _ (List.mem_map_of_mem hp)⟩) BG (X₀.keeps st) (T.keeps st) fun p hp => Heap.lt_size (N p hp).1) (fun fl s' hl => lv _ _ (leave_keep hl)) fun _ _ y => y.elim
end
end
section
abbrev fnO (fd : FuncData) : Obj := { cls := .type "function", data := .func fd }
/-- what the law's own read does: one sign of the text, the place one further -/
def ReadSpec (w : World) (xt : Str) (lp f cc c2 c1 : Addr) (fd : FuncData) (co o2 o1 : Obj) : Prop :=
  ∀ (loose : List Str) (mean : ExcName → Option Value) (mg mb : Str → Option Value) (p : Nat) (tp t1 : Tok) (nl : Nat)
    (dp un : Nat) (gd : Option (List Code)) (cn : Str) (cs : Scope) (a : Addr) (ccd : Value) (cl : List (Str × Addr)) (outer : List Env) (A₀ : Around) (base h₀ : Heap) (L : Addr) (m : Str → Option Value) (s : Shared) (Q E : Value → Shared → Prop),
    Below A₀ base outer h₀ → Fr h₀ L s.heap m → (hd.heap_39 w.params).In h₀ → News h₀ L s.heap [(lp, listOf #[.int p tp] nl), (f, fnO fd), (cc, co), (c2, o2), (c1, o1)] → Top topProg loose mean mg mb h₀ → cs.kind = .function →
    dp + 1 < recursionLimit → un + 8 < cLine → p < 2 ^ 40 →
    (∀ (t t' : Tok) (h' : Heap) (tk' : Nat), Fr h₀ L h' m → News h₀ L h' [(lp, listOf #[.int ((p : Int) + 1) t'] nl), (f, fnO fd), (cc, co), (c2, o2), (c1, o1)] → KeepBut s.heap h' [lp, f, cc, c2, c1] →
      Q (.str (txt ((xt.cps.toList.drop p).take 1)) t) { s with heap := h', toks := tk' }) →
      wpAny (model PySem.Challenge.rw_wn0021_01.row.prog w) (ktrTop dp un gd cn cs L a ccd cl outer) (call (.ref f) [.int 1 t1]) Q E s
abbrev xdOf (w : World) (x2 pb : Addr) (t1 t2 t3 t4 t5 : Tok) (n : Int) (tn : Tok) : Obj :=
  dictOf [⟨PyData.keyHash w.params (PySem.Str.ofString "lineno"), .str (PySem.Str.ofString "lineno") t1, .int n tn⟩,
    ⟨PyData.keyHash w.params (PySem.Str.ofString "instream"), .str (PySem.Str.ofString "instream") t2, .ref x2⟩,
    ⟨PyData.keyHash w.params (PySem.Str.ofString "whitespace"), .str (PySem.Str.ofString "whitespace") t3, .str (PySem.Str.ofString "\n\t\r ") t5⟩,
    ⟨PyData.keyHash w.params (PySem.Str.ofString "pushback"), .str (PySem.Str.ofString "pushback") t4, .ref pb⟩] 4
abbrev sdOf (w : World) (pb2 f : Addr) (t1 t2 t3 t4 t5 t6 t7 : Tok) : Obj :=
  dictOf [⟨PyData.keyHash w.params (PySem.Str.ofString "lineno"), .str (PySem.Str.ofString "lineno") t1, .int 1 t6⟩,
    ⟨PyData.keyHash w.params (PySem.Str.ofString "instream"), .str (PySem.Str.ofString "instream") t2, .none⟩,
    ⟨PyData.keyHash w.params (PySem.Str.ofString "whitespace"), .str (PySem.Str.ofString "whitespace") t3, .str (PySem.Str.ofString "\n\t\r ") t7⟩,
    ⟨PyData.keyHash w.params (PySem.Str.ofString "pushback"), .str (PySem.Str.ofString "pushback") t4, .ref pb2⟩,
    ⟨PyData.keyHash w.params (PySem.Str.ofString "read"), .str (PySem.Str.ofString "read") t5, .ref f⟩] 5
end
local macro_rules | `(tactic| k_room) => `(tactic| ktr_room)
local macro_rules | `(tactic| k_units) => `(tactic| ktr_units)
section
section
variable {prog : Program} {w : World} {A₀ A : Around} {s : Shared} {base h₀ : Heap} {outer : List Env} {L : Addr} {m mg mb : Str → Option Value} {env : Env} {news : List (Addr × Obj)} {K : Frag} {p : Program} {loose : List Str} {mean : ExcName → Option Value}
  {R : Result → Shared → Prop} {name qual : Str} {params : Arguments} {body : List Stmt} {scope : Scope} {cl : List (Str × Addr)} {dV kV doc pm cdv ct : Value} {an : Option Addr} {fo : Obj} {f : Addr} {args : Args} {binds : List (Str × Value)}
theorem call_keepC2 {oc : Value} {od : Option Addr} {osl : Array (Option Value)} (B : Below A₀ base outer h₀) (F : Fr h₀ L s.heap m) (X₀ : K.In h₀) (N : News h₀ L s.heap news) (T : Top p loose mean mg mb h₀) (hA : A.frames = some (env :: outer)) (hf : env.frame = some L) (hke : env.scope.kind = .function)
    (ho : K.lookup f = some ⟨oc, od, .func (fnOf name qual params body scope dV kV doc pm an cdv ct), osl⟩) (hcd : codeIn K cdv qual = true) (hroom : A.depth < recursionLimit)
    (hbind : BindsTo s (fnOf name qual params body scope dV kV doc pm an cdv ct) args binds) (hkind : (binds.all fun y => scope.names.lookup y.1 == some .local || scope.names.lookup y.1 == some .cell) = true)
    (hnd : ((cellsFrom 0 scope.names []).map (·.1)).Nodup)
    (h : ∀ g L' h₁ tk cells, Fr h₀ L g m → Fr g L' h₁ (bindL (envOfC qual scope L' f cdv).kindOf binds fun _ => none) → News g L' h₁ (cells ++ news) →
      CellsAre (bindC (envOfC qual scope L' f cdv).kindOf binds fun _ => none) (cellsFrom (L' + 1) scope.names []) cells → Below A base (env :: outer) g → K.In g → Top p loose mean mg mb g → (∀ p ∈ news, p.1 < L') → s.heap.objs.size = L' →
      wpAny (model prog w) (A.deeper (envOfC qual scope L' f cdv)) (execs body (envOfC qual scope L' f cdv))
        (fun fl s' => LeaveK h₀ L m g (fun r s' => KeepBut s.heap s'.heap (news.map (·.1)) → R r s') (match fl with | .ret v => v | _ => .none) s')
        (fun _ _ => False) { s with heap := h₁, toks := tk })
    (hco : scope.isCoroutine = false) (hgen : scope.isGenerator = false) (hk : scope.kind = .function) : codeAny (model prog w) A (.call (.ref f) args) R s := by
  obtain ⟨FG, BG, st, lv⟩ := groundX (R := R) B F N hA hf hke
  refine codeAny_call_function hroom ((X₀.keeps F.keep) _ _ ho) rfl hco hgen rfl (codeRec_of (X₀.keeps F.keep) hcd) (hbind _ _ _ _ ?_)
  refine wpAny_newFunctionEnv_cells hk (kindsX hkind _) fun env' he s' x => ?_
  subst he
  refine ⟨(T.nolimit.keeps F.keep).keeps x.toInCall.keep, codeAny_func ?_⟩
  obtain ⟨h₁, tk, rfl, _⟩ := x.done
  have hk₁ := x.toInCall.keep
  obtain ⟨cells, NC, Y⟩ := Cl.news (h₀ := s.heap) (Nat.le_refl _) fun n c hm => ⟨x.cell n c (lookup_of_mem_nodup (cellsFrom_names scope.names 0 (s.heap.objs.size + 1) [] [] rfl ▸ hnd) hm), x.above n c hm⟩
  refine wpAny_mono (h _ s.heap.objs.size h₁ tk cells FG ⟨x.toInCall.ns, fun b o e => hk₁ b o (of_hideAll _ e), Nat.le_of_eq (hideAll_size _ _)⟩ (fun p hp => ?_) Y BG (X₀.keeps st) (T.keeps st) (fun p hp => Heap.lt_size (N p hp).1) rfl) (fun fl s' hl => lv _ _ (leave_keep hl)) fun _ _ y => y.elim
  rcases List.mem_append.mp hp with hp | hp
  · refine ⟨(NC p hp).1, (NC p hp).2.1, ?_⟩
    cases q : (hideAll s.heap (news.map (·.1))).get? p.1 with
    | none => rfl
    | some o => have := of_hideAll _ q; rw [(NC p hp).2.2] at this; cases this
  · exact ⟨hk₁ _ _ (N p hp).1, Nat.ne_of_lt (Heap.lt_size (N p hp).1), hideAll_none _ (List.mem_map_of_mem hp)⟩
end
theorem c_lexer (w : World) (x : Str) (tx : Tok) (hxl : x.length ≤ 1000)
   (loose : List Str) (mean : ExcName → Option Value) (mg mb : Str → Option Value)
    (dp un : Nat) (gd : Option (List Code)) (cn : Str) (cs : Scope) (a : Addr) (ccd : Value) (cl : List (Str × Addr)) (outer : List Env) (A₀ : Around) (base h₀ : Heap) (L : Addr) (m : Str → Option Value) (s : Shared) (Q E : Value → Shared → Prop)
    (B : Below A₀ base outer h₀) (F : Fr h₀ L s.heap m) (X : (hd.heap_39 w.params).In h₀) (N : News h₀ L s.heap [(79, tabObj #[])]) (T : Top topProg loose mean mg mb h₀) (hk : cs.kind = .function)
    (C : CodeHd base 83 79) (hdp : dp + 4 < recursionLimit) (hun : un + 40 < cLine)
    (hret : ∀ (pb x1 d x2 d2 pb2 f cc lp c2 c1 : Addr) (fd : FuncData) (co o2 o1 : Obj) (a1 a2 a3 a4 a5 b1 b2 b3 b4 b5 b6 b7 tn tp : Tok) (tab : Array Value) (h' : Heap) (tk' : Nat), Fr h₀ L h' m →
      News h₀ L h' [(pb, listOf #[] 0), (x1, instObj 73 d), (d, xdOf w x2 pb a1 a2 a3 a4 a5 1 tn), (pb2, listOf #[] 0), (x2, instObj 73 d2), (d2, sdOf w pb2 f b1 b2 b3 b4 b5 b6 b7), (f, fnO fd), (cc, co), (lp, listOf #[.int 0 tp] 0), (c2, o2), (c1, o1), (79, tabObj tab)] →
      ReadSpec w x lp f cc c2 c1 fd co o2 o1 → KeepBut s.heap h' [79] → (@LT.lt Nat _ 79 c1 ∧ @LT.lt Nat _ c1 c2 ∧ @LT.lt Nat _ c2 lp ∧ @LT.lt Nat _ lp cc ∧ @LT.lt Nat _ cc f ∧ @LT.lt Nat _ f d2 ∧ @LT.lt Nat _ d2 x2 ∧ @LT.lt Nat _ x2 pb2 ∧ @LT.lt Nat _ pb2 d ∧ @LT.lt Nat _ d x1 ∧ @LT.lt Nat _ x1 pb) → @LT.lt Nat _ s.heap.objs.size c1 →
      Q (.ref x1) { s with heap := h', toks := tk' }) :
      wpAny (model PySem.Challenge.rw_wn0021_01.row.prog w) (ktrTop dp un gd cn cs L a ccd cl outer) (call (.ref 84) [.str x tx]) Q E s := by
  k_with_none
  w_top off
  revert X; k_fill; intro X
  refine wpAny_call ?_
  k_dflt (refine' call_keepC2 ?k1 ?k2 ?k3 ?k4 ?k5 ?kA ?kF ?kK ?k6 ?k7 ?k8 ?k9 ?kB ?kD ?_ ?c2 ?c3 ?c4; (case kA => exact rfl); (case kF => exact rfl); (case kK => assumption); (case k1 => k_asm); (case k2 => k_asm); (case k3 => k_asm); (case k4 => k_asm); (case k5 => k_asm); (case k6 => k_is); (case k7 => k_is); (case k8 => ktr_room); (case k9 => first | exact BindsTo.of_eq rfl); (case kB => exact rfl); (case kD => decide +kernel); (case c2 => exact rfl); (case c3 => exact rfl); (case c4 => exact rfl); k_whole; intro g' L' h' tk' cells' FG' F' N' Y' B' X' T' l1 hLs; (try k_lt l1); k_cells Y'; (try simp only [List.cons_append, List.nil_append] at N'); (try dsimp only); (try k_lift B'); (try k_fold))
  k_steps
  (with_reducible rename KeepBut _ _ _ => kp)
  (with_reducible rename News h₀ _ _ _ => N9)
  (with_reducible rename Fr h₀ _ _ _ => F9)
  refine hret _ _ _ _ _ _ _ _ _ _ _ _ _ _ _ _ _ _ _ _ _ _ _ _ _ _ _ _ _ _ _ _ F9 N9 ?_ kp ?_ ?_
  rotate_left
  · omega
  · omega
  unfold ReadSpec
  intro loose mean mg mb p tp t1 nl dp un gd cn cs a ccd cl outer A₀ base h₀ L m s Q E B F X N T hk hdp hun hp hret
  refine wpAny_call ?_
  k_dflt (refine' call_keep ?k1 ?k2 ?k3 ?k4 ?k5 ?kA ?kF ?kK ?k6 ?kd ?k7 ?k8 ?k9 ?kB ?_ ?c5 ?c2 ?c3 ?c4; (case kA => exact rfl); (case kF => exact rfl); (case kK => exact hk); (case k1 => exact B); (case k2 => exact F); (case k3 => exact X); (case k4 => exact N); (case k5 => exact T); (case k6 => exact N.get (.tail _ (.head _))); (case kd => exact rfl); (case k7 => exact codeRec_news N (.tail _ (.tail _ (.head _))) (by assumption) (by assumption)); (case k8 => exact Nat.lt_of_succ_lt hdp); (case k9 => exact BindsTo.of_eq rfl); (case kB => exact locs rfl); (case c2 => exact rfl); (case c3 => exact rfl); (case c4 => exact rfl); (case c5 => decide); k_whole; intro g' L' h' FG' F' N' B' X' T' l1; (try k_lt l1); (try dsimp only); (try k_lift B'); (try k_fold))
  k_steps
  (with_reducible rename KeepBut _ _ _ => kp2)
  (with_reducible rename News h₀ _ _ _ => N9)
  (with_reducible rename Fr h₀ _ _ _ => F9)
  have e : Txt.slice x (some ([(p : Int)].getD (Int.toNat 0) 0)) (some ([(p : Int)].getD (Int.toNat 0) 0 + 1)) = txt ((x.cps.toList.drop p).take 1) := by
    show Txt.slice x (some ((p : Nat) : Int)) (some ((p + 1 : Nat) : Int)) = _
    rw [slice_nat, Nat.add_sub_cancel_left]; rfl
  rw [e]
  exact hret _ _ _ _ F9 N9 kp2
end
section
/-- a lexer's own objects: where they stand and what does not turn -/
structure LexA where
  (pb x d x2 d2 pb2 f cc lp c2 c1 : Addr)
  fd : FuncData
  (co o2 o1 : Obj)
  (a1 a2 a3 a4 a5 b1 b2 b3 b4 b5 b6 b7 : Tok)
  (nl : Nat)
  xt : Str
def LexA.led (a : LexA) (w : World) (npb : Nat) (pbs : List Value) (p n : Int) (tp tn : Tok) : List (Addr × Obj) :=
  [(a.pb, listOf pbs.toArray npb), (a.x, instObj 73 a.d), (a.d, xdOf w a.x2 a.pb a.a1 a.a2 a.a3 a.a4 a.a5 n tn), (a.x2, instObj 73 a.d2), (a.d2, sdOf w a.pb2 a.f a.b1 a.b2 a.b3 a.b4 a.b5 a.b6 a.b7), (a.f, fnO a.fd), (a.cc, a.co), (a.lp, listOf #[.int p tp] a.nl), (a.c2, a.o2), (a.c1, a.o1)]
def LexA.adr (a : LexA) : List Addr := [a.pb, a.x, a.d, a.x2, a.d2, a.f, a.cc, a.lp, a.c2, a.c1]
def LexA.Ok (a : LexA) (w : World) : Prop :=
  (@LT.lt Nat _ a.c1 a.c2 ∧ @LT.lt Nat _ a.c2 a.lp ∧ @LT.lt Nat _ a.lp a.cc ∧ @LT.lt Nat _ a.cc a.f ∧ @LT.lt Nat _ a.f a.d2 ∧ @LT.lt Nat _ a.d2 a.x2 ∧ @LT.lt Nat _ a.x2 a.d ∧ @LT.lt Nat _ a.d a.x ∧ @LT.lt Nat _ a.x a.pb) ∧
  ReadSpec w a.xt a.lp a.f a.cc a.c2 a.c1 a.fd a.co a.o2 a.o1 ∧ a.xt.cps.size ≤ 1000
def nlOf (l : List Nat) : Nat := if l = [10] then 1 else 0
theorem txt_beq (l r : List Nat) : (txt l == txt r) = decide (l = r) := by
  by_cases h : l = r
  · rw [h]; simp
  · rw [decide_eq_false h, beq_eq_false_iff_ne]
    intro e
    apply h
    have := congrArg (fun z : PySem.Str => z.cps.toList) e
    simpa [txt] using this
theorem nl_yes {l : List Nat} (h : (txt l == PySem.Str.ofString "\n") = true) : nlOf l = 1 := by
  rw [show PySem.Str.ofString "\n" = txt [10] from rfl, txt_beq, decide_eq_true_eq] at h
  unfold nlOf; rw [if_pos h]
theorem nl_no {l : List Nat} (h : (txt l == PySem.Str.ofString "\n") = false) : nlOf l = 0 := by
  rw [show PySem.Str.ofString "\n" = txt [10] from rfl, txt_beq, decide_eq_false_iff_not] at h
  unfold nlOf; rw [if_neg h]
theorem off55 {f : Addr} {l : List (Addr × Obj)} {m : List Addr} (h1 : ∀ q ∈ l, @LT.lt Nat _ f q.1) (h2 : ∀ b ∈ m, @LE.le Nat _ b f) : ∀ q ∈ l, q.1 ∉ m := fun q hq hb => Nat.lt_irrefl _ (Nat.lt_of_lt_of_le (h1 q hq) (h2 _ hb))
theorem c_rcC (w : World) (a : LexA) (hok : a.Ok w) (p n : Nat) (tp tn : Tok) (npb : Nat) (pbs : List Value) (hp : p < 2 ^ 30) (hn : n < 2 ^ 30)
    (loose : List Str) (mean : ExcName → Option Value) (mg mb : Str → Option Value)
    (dp un : Nat) (gd : Option (List Code)) (cn : Str) (cs : Scope) (a' : Addr) (ccd : Value) (cl : List (Str × Addr)) (outer : List Env) (A₀ : Around) (base h₀ : Heap) (L : Addr) (m : Str → Option Value) (s : Shared) (Q E : Value → Shared → Prop)
    (B : Below A₀ base outer h₀) (F : Fr h₀ L s.heap m) (X : (hd.heap_39 w.params).In h₀) (N : News h₀ L s.heap (a.led w npb pbs p n tp tn)) (T : Top topProg loose mean mg mb h₀) (hk : cs.kind = .function)
    (hdp : dp + 4 < recursionLimit) (hun : un + 40 < cLine)
    (hret : ∀ (t tp' tn' : Tok) (h' : Heap) (tk' : Nat), Fr h₀ L h' m → News h₀ L h' (a.led w npb pbs ((p + 1 : Nat) : Int) ((n + nlOf ((a.xt.cps.toList.drop p).take 1) : Nat) : Int) tp' tn') → KeepBut s.heap h' a.adr →
      Q (.str (txt ((a.xt.cps.toList.drop p).take 1)) t) { s with heap := h', toks := tk' }) :
      codeAny (model PySem.Challenge.rw_wn0021_01.row.prog w) (ktrTop dp un gd cn cs L a' ccd cl outer) (.call (.ref 56) ⟨[.ref a.x], []⟩) (fun r s' => match r with | .ok (.ret v) => Q v s' | .ok _ => False | .error e => E e s') s := by
  k_with_none
  w_top off
  revert X; k_fill; intro X
  obtain ⟨pb, x, d, x2, d2, pb2, f, cc, lp, c2, c1, fd, co, o2, o1, a1, a2, a3, a4, a5, b1, b2, b3, b4, b5, b6, b7, nl, xt⟩ := a
  obtain ⟨hord, hread, hxt⟩ := hok
  dsimp only [LexA.led, LexA.adr] at *
  k_dflt (refine' call_keep ?k1 ?k2 ?k3 ?k4 ?k5 ?kA ?kF ?kK ?k6 ?kd ?k7 ?k8 ?k9 ?kB ?_ ?c5 ?c2 ?c3 ?c4; (case kA => exact rfl); (case kF => exact rfl); (case kK => exact hk); (case k1 => exact B); (case k2 => exact F); (case k3 => exact X); (case k4 => exact N); (case k5 => exact T); (case k6 => exact (X.keeps F.keep) _ _ (by k_is)); (case kd => exact rfl); (case k7 => exact codeRec_of (X.keeps F.keep) (by k_is)); (case k8 => ktr_room); (case k9 => exact BindsTo.of_eq rfl); (case kB => exact locs rfl); (case c2 => exact rfl); (case c3 => exact rfl); (case c4 => exact rfl); (case c5 => decide); k_whole; intro g' L' h' FG' F' N' B' X' T' l1; (try k_lt l1); (try dsimp only); (try k_lift B'); (try k_fold))
  k_with "callWith ref" => (
    (with_reducible rename News _ _ _ _ => N9)
    k_dflt (refine callWith_F (q := f) ⟨_, _, _, _, N9.get (.tail _ (.tail _ (.tail _ (.tail _ (.tail _ (.head _))))))⟩ ?_))
  k_with "call ref" => refine Hold.out ?_
  k_steps
  refine Hold.in ?_
  (with_reducible rename News _ _ _ _ => N9)
  (with_reducible rename Fr _ _ _ _ => F9)
  have hp5 : News _ _ _ [(lp, listOf #[.int (p : Int) tp] nl), (f, fnO fd), (cc, co), (c2, o2), (c1, o1)] := fun q hq => N9 q ((by lcg_sub : ∀ q ∈ [(lp, listOf #[.int (p : Int) tp] nl), (f, fnO fd), (cc, co), (c2, o2), (c1, o1)], q ∈ _) q hq)
  have hr5 : News _ _ _ [(pb, listOf pbs.toArray npb), (x, instObj 73 d), (d, xdOf w x2 pb a1 a2 a3 a4 a5 n tn), (x2, instObj 73 d2), (d2, sdOf w pb2 f b1 b2 b3 b4 b5 b6 b7)] := fun q hq => N9 q ((by lcg_sub : ∀ q ∈ [(pb, listOf pbs.toArray npb), (x, instObj 73 d), (d, xdOf w x2 pb a1 a2 a3 a4 a5 n tn), (x2, instObj 73 d2), (d2, sdOf w pb2 f b1 b2 b3 b4 b5 b6 b7)], q ∈ _) q hq)
  refine hread _ _ _ _ p tp _ nl _ _ _ _ _ _ _ _ _ _ _ _ _ _ _ _ _ (by k_asm) F9 (by k_asm) hp5 (by k_asm) rfl (by ktr_room) (by ktr_units) (by omega) ?_
  intro t t' h9 tk9 F8 N8 kp8
  obtain ⟨q1, q2, q3, q4, q5, q6, q7, q8, q9⟩ := id hord
  have r6 := Nat.lt_trans q5 q6
  have r7 := Nat.lt_trans r6 q7
  have r8 := Nat.lt_trans r7 q8
  have r9 := Nat.lt_trans r8 q9
  have s3 := Nat.lt_trans q3 q4
  have s2 := Nat.lt_trans q2 s3
  have s1 := Nat.lt_trans q1 s2
  have hr8 := KeepBut.news kp8 hr5 (off55 (f := f) (List.forall_mem_cons.mpr ⟨r9, List.forall_mem_cons.mpr ⟨r8, List.forall_mem_cons.mpr ⟨r7, List.forall_mem_cons.mpr ⟨r6, List.forall_mem_cons.mpr ⟨q5, fun _ h => nomatch h⟩⟩⟩⟩⟩)
    (List.forall_mem_cons.mpr ⟨Nat.le_of_lt s3, List.forall_mem_cons.mpr ⟨Nat.le_refl _, List.forall_mem_cons.mpr ⟨Nat.le_of_lt q4, List.forall_mem_cons.mpr ⟨Nat.le_of_lt s2, List.forall_mem_cons.mpr ⟨Nat.le_of_lt s1, fun _ h => nomatch h⟩⟩⟩⟩⟩))
  clear q1 q2 q3 q4 q5 q6 q7 q8 q9 r6 r7 r8 r9 s1 s2 s3
  have N' : News _ _ _ [(pb, listOf pbs.toArray npb), (x, instObj 73 d), (d, xdOf w x2 pb a1 a2 a3 a4 a5 n tn), (x2, instObj 73 d2), (d2, sdOf w pb2 f b1 b2 b3 b4 b5 b6 b7), (f, fnO fd), (cc, co), (lp, listOf #[.int ((p : Int) + 1) t'] nl), (c2, o2), (c1, o1)] :=
    fun q hq => (News.app hr8 N8) q ((by lcg_sub : ∀ q ∈ [(pb, listOf pbs.toArray npb), (x, instObj 73 d), (d, xdOf w x2 pb a1 a2 a3 a4 a5 n tn), (x2, instObj 73 d2), (d2, sdOf w pb2 f b1 b2 b3 b4 b5 b6 b7), (f, fnO fd), (cc, co), (lp, listOf #[.int ((p : Int) + 1) t'] nl), (c2, o2), (c1, o1)], q ∈ _) q hq)
  clear N9 hp5 hr5 N8 hr8 F9 kp8
  k_steps
  · rename (_ == _) = true => e
    have e' := nl_yes e
    (with_reducible rename KeepBut _ _ _ => kp2)
    (with_reducible rename News h₀ _ _ _ => N9)
    (with_reducible rename Fr h₀ _ _ _ => F9)
    refine hret t ?tp ?tn _ _ F9 ?nn kp2
    case nn => (rw [e']; exact N9)
  · rename (_ == _) = false => e
    have e' := nl_no e
    (with_reducible rename KeepBut _ _ _ => kp2)
    (with_reducible rename News h₀ _ _ _ => N9)
    (with_reducible rename Fr h₀ _ _ _ => F9)
    refine hret t ?tp2 ?tn2 _ _ F9 ?nn2 kp2
    case nn2 => (rw [e']; exact N9)
end
section
open Builtin
theorem slot_ci_next : Slot "callable_iterator" "__next__" "callable_iterator.__next__" :=
  .of (owner := "callable_iterator") (n := "__next__") (by rw [typeLookup_type, builtinLookup_eq_fast]; kernel_rfl) (by decide +kernel) (by decide +kernel) (by decide +kernel)
    (by first | exact .inl (by decide +kernel) | exact .inr (by decide +kernel)) (by rw [isSubtype_type]; kernel_rfl)
theorem slot_ci_iter : Slot "callable_iterator" "__iter__" "callable_iterator.__iter__" :=
  .of (owner := "callable_iterator") (n := "__iter__") (by rw [typeLookup_type, builtinLookup_eq_fast]; kernel_rfl) (by decide +kernel) (by decide +kernel) (by decide +kernel)
    (by first | exact .inl (by decide +kernel) | exact .inr (by decide +kernel)) (by rw [isSubtype_type]; kernel_rfl)
theorem entry_ci_next : entryFor table "callable_iterator.__next__" = some Builtin.«callable_iterator.__next__» := entryFor_of_fast (by kernel_rfl)
theorem entry_ci_iter : entryFor table "callable_iterator.__iter__" = some Builtin.«dict_keyiterator.__iter__» :=
  entryFor_alias (id' := "dict_keyiterator.__iter__") (by kernel_rfl) rfl (by decide +kernel) (by kernel_rfl)
theorem args_ci_next (a : Value) : argsOk "callable_iterator.__next__" ⟨[a], []⟩ := by unfold argsOk; kernel_rfl
theorem args_ci_iter (a : Value) : argsOk "callable_iterator.__iter__" ⟨[a], []⟩ := by unfold argsOk; kernel_rfl
abbrev ciO (vs : Array Value) : Obj := { cls := .type "callable_iterator", data := .fields vs }
section
variable {prog : Program} {w : World} {A : Around} {E : Value → Shared → Prop} {s : Shared}
theorem callBorrowed_of {M : Model} {f : Value} {pos : List Value} {Q : Value → Shared → Prop} (h : wpAny M A (call f pos) Q E s) : wpAny M A (callBorrowed f pos) Q E s := fun Γ p hΓ => by
  have h1 := h Γ p hΓ
  rw [Sem.wp_cmd_call] at h1
  unfold callBorrowed
  rw [Sem.wp_call]
  refine wpCode_mono (fun r s' hr => ?_) h1
  cases r with
  | error e => exact hr
  | ok f => cases f with
    | ret v => exact hr
    | next => exact hr.elim
    | brk => exact hr.elim
    | cont => exact hr.elim
/-- the iterator of a callable handed to iter -/
theorem ci_iter {it : Addr} {vs : Array Value} {Q : Value → Shared → Prop} (ho : s.heap.get? it = some (ciO vs)) (h : Q (.ref it) s) : wpAny (model prog w) A (pyIter (.ref it)) Q E s := by
  have hT : s.TypeIs (.ref it) "callable_iterator" := ⟨_, ho, rfl⟩
  refine wpAny_pyIter_slot hT slot_ci_iter (wpAny_call_entry slot_ci_iter hT entry_ci_iter ?_ (args_ci_iter _))
  show wpAny _ _ (ret (.ref it)) _ _ s
  exact wpAny_pure ⟨_, rfl, "callable_iterator", _, hT, slot_ci_next.lookup, h⟩
end
end
section
open Builtin
theorem args_iter2 (a b : Value) : argsOk "iter" ⟨[a, b], []⟩ := by unfold argsOk; kernel_rfl
theorem look_method_call : typeLookup (.type "method") "__call__" = pure (some (.builtin "method.__call__")) := by rw [typeLookup_type, builtinLookup_eq_fast]; kernel_rfl
section
variable {prog : Program} {w : World} {A : Around} {E : Value → Shared → Prop} {s : Shared} {h₀ : Heap} {L : Addr} {m : Str → Option Value} {news : List (Addr × Obj)}
theorem call_iter2 {q : Addr} {f self : Value} {y : Str} {t : Tok} {Q : Value → Shared → Prop} (F : Fr h₀ L s.heap m) (N : News h₀ L s.heap news) (hq : s.heap.get? q = some (methodObj f self))
    (h : ∀ it h', Fr h₀ L h' m → News h₀ L h' ((it, ciO #[.ref q, .str y t, .bool false]) :: news) → (∀ p ∈ news, p.1 < it) → Q (.ref it) { s with heap := h' }) :
    wpAny (model prog w) A (call (.builtin "iter") [.ref q, .str y t]) Q E s := by
  refine call_function_entry (by decide +kernel) (by decide +kernel) kdk_entry_iter (args_iter2 _ _) ?_
  have hT : s.TypeIs (.ref q) "method" := ⟨_, hq, rfl⟩
  show wpAny _ _ (specialOf (.ref q) "__call__" >>= fun r => _) _ _ s
  refine wpAny_bind (wpAny_specialOf hT look_method_call ?_)
  refine wpAny_bind (wpAny_rule ?_)
  show wpAny _ _ (newFields "callable_iterator" [.ref q, .str y t, .bool false] >>= fun r => ret r) _ _ s
  exact wpAny_bind (wpAny_newObj_type (wpAny_pure ⟨_, rfl, h _ _ (F.push _) (N.push F _) fun p hp => Heap.lt_size (N p hp).1⟩))

/-- a call out of an iterator's slot, a method object of a def -/
theorem out_slot {M : Model} {q g : Addr} {self : Value} {fo : Obj} {fd : FuncData} {Q : Value → Shared → Prop} (hq : s.heap.get? q = some (methodObj (.ref g) self)) (hg : s.heap.get? g = some fo) (hd : fo.data = .func fd)
    (h : wpAny M A (call (.ref q) []) Q E s) : wpAny M A (callOutOfASlot (.ref q)) Q E s := by
  unfold callOutOfASlot borrowsExactly
  refine wpAny_bind ?_
  refine wpAny_bind (wpAny_load hq ?_)
  show wpAny M A (do
      match (← load g).data with
      | .func _ => pure true
      | _ => pure false) _ E s
  refine wpAny_bind (wpAny_load hg ?_)
  rw [hd]
  refine wpAny_pure ?_
  exact callBorrowed_of h
theorem borrows_method {M : Model} {q g : Addr} {self : Value} {fo : Obj} {fd : FuncData} {Q : Bool → Shared → Prop} (hq : s.heap.get? q = some (methodObj (.ref g) self)) (hg : s.heap.get? g = some fo) (hd : fo.data = .func fd)
    (h : Q true s) : wpAny M A (borrowsExactly (.ref q)) Q E s := by
  unfold borrowsExactly
  refine wpAny_bind (wpAny_load hq ?_)
  show wpAny M A (do
      match (← load g).data with
      | .func _ => pure true
      | _ => pure false) _ E s
  refine wpAny_bind (wpAny_load hg ?_)
  rw [hd]
  exact wpAny_pure h

/-- next of a callable's iterator: what the call gives, or the end -/
theorem ci_next {it q g : Addr} {self : Value} {fo : Obj} {fd : FuncData} {t : Tok} {Q : Option Value → Shared → Prop} (hh : A.handled = none) (hit : s.heap.get? it = some (ciO #[.ref q, .str (PySem.Str.ofString "") t, .bool false])) (hq : s.heap.get? q = some (methodObj (.ref g) self)) (hg : s.heap.get? g = some fo) (hd : fo.data = .func fd)
    (h : wpAny (model prog w) A.in1 (call (.ref q) []) (fun v s' => ∃ y u, v = .str y u ∧ s'.heap.get? it = some (ciO #[.ref q, .str (PySem.Str.ofString "") t, .bool false]) ∧ s'.heap.get? q = some (methodObj (.ref g) self) ∧ s'.heap.get? g = some fo ∧
      (y ≠ PySem.Str.ofString "" → Q (some (.str y u)) s') ∧
      (y = PySem.Str.ofString "" → ∀ h', h'.get? it = some (ciO #[.none, .none, .bool true]) → (∀ b o, b ≠ it → s'.heap.get? b = some o → h'.get? b = some o) → Q none { s' with heap := h' })) (fun _ _ => False) s) :
    wpAny (model prog w) A (pyNext (.ref it)) Q E s := by
  have hT : s.TypeIs (.ref it) "callable_iterator" := ⟨_, hit, rfl⟩
  unfold pyNext
  refine wpAny_bind (wpAny_attempt (wpAny_callSpecial?_slot (name := Str.ofString "__next__") hT slot_ci_next (wpAny_call_entry slot_ci_next hT entry_ci_next ?_ (args_ci_next _))))
  show wpAny _ _ (field (.ref it) 2 >>= fun r => _) _ _ s
  refine wpAny_bind (wpAny_field hit rfl (x := .bool false) rfl ?_)
  rw [if_neg (by decide)]
  dsimp only
  refine wpAny_bind (wpAny_field hit rfl (x := .ref q) rfl ?_)
  refine wpAny_bind (wpAny_attempt ?_)
  refine out_slot hq hg hd (wpAny_mono h (fun v s' hv => ?_) fun _ _ e => e.elim)
  obtain ⟨y, u, rfl, hit', hq', hg', h1, h2⟩ := hv
  dsimp only
  refine wpAny_bind (wpAny_field hit' rfl (x := .bool false) rfl ?_)
  rw [if_neg (by decide)]
  refine wpAny_bind (wpAny_field hit' rfl (x := .str (PySem.Str.ofString "") t) rfl ?_)
  refine wpAny_bind (wpAny_holding (eqBool_str ?_))
  by_cases hy : y = PySem.Str.ofString ""
  · rw [hy, beq_self_eq_true, if_neg (by decide)]
    refine wpAny_bind (wpAny_rule ?_)
    show wpAny _ _ ((field (.ref it) 0 >>= fun o => slotLetsGo _ o _ >>= fun _ => setField (.ref it) 0 .none >>= fun _ => setField (.ref it) 1 .none >>= fun _ => setField (.ref it) 2 (.bool true)) >>= fun _ => _) _ _ _
    refine wpAny_bind ?_
    refine wpAny_bind (wpAny_field hit' rfl (x := .ref q) rfl ?_)
    refine wpAny_bind ?_
    unfold slotLetsGo
    refine wpAny_bind (borrows_method hq' hg' hd ?_)
    rw [if_pos rfl]
    refine wpAny_pure ?_
    refine wpAny_bind (wpAny_setField hit' rfl (by simp) ?_)
    have e1 := Heap.get?_update_self (Obj.mapFields (·.setIfInBounds 0 Value.none)) hit' rfl
    refine wpAny_bind (wpAny_setField e1 rfl (by simp) ?_)
    have e2 := Heap.get?_update_self (Obj.mapFields (·.setIfInBounds 1 Value.none)) e1 rfl
    refine wpAny_setField e2 rfl (by simp) ?_
    have e3 := Heap.get?_update_self (Obj.mapFields (·.setIfInBounds 2 (Value.bool true))) e2 rfl
    show wpAny _ _ (newExc (.type "StopIteration") [] >>= _) _ _ _
    refine wpAny_bind ?_
    simp only [newExc, newTuple]
    refine wpAny_bind (wpAny_newObj_type ?_ (by size_fits))
    refine wpAny_bind (m := firstArgMember _ _) (wpAny_of_eq (a := Value.none) (by first | rfl | (simp only [firstArgMember]; rfl)) ?_)
    refine wpAny_newObj_type ?_ (by size_fits)
    simp only [raiseNew]
    refine wpAny_bind (wpAny_handled ?_)
    rw [show A.in1.handled = none from hh]
    refine wpAny_bind (wpAny_pure (wpAny_throw ?_))
    refine wpAny_bind (wpAny_isInstance (T := "StopIteration") (b := true) ⟨_, Heap.get?_push_size _ rfl, rfl⟩ isSubtype_stop ?_)
    refine wpAny_pure (h2 hy _ (Heap.get?_push_of_some _ (Heap.get?_push_of_some _ e3)) fun b o hb e => ?_)
    exact Heap.get?_push_of_some _ (Heap.get?_push_of_some _ ((((Heap.SameBut.update ..).trans (Heap.SameBut.update ..)).trans (Heap.SameBut.update ..)).extBut b o hb e))
  · have hb : (PySem.Str.ofString "" == y) = false := by rw [beq_eq_false_iff_ne]; exact fun e => hy e.symm
    rw [hb, if_pos (by decide)]
    exact wpAny_pure ⟨_, rfl, wpAny_pure (h1 hy)⟩
/-- next of a callable's iterator that has ended -/
theorem ci_done {it : Addr} {Q : Option Value → Shared → Prop} (hh : A.handled = none) (hit : s.heap.get? it = some (ciO #[.none, .none, .bool true])) (h : ∀ h', (∀ b o, s.heap.get? b = some o → h'.get? b = some o) → Q none { s with heap := h' }) :
    wpAny (model prog w) A (pyNext (.ref it)) Q E s := by
  have hT : s.TypeIs (.ref it) "callable_iterator" := ⟨_, hit, rfl⟩
  unfold pyNext
  refine wpAny_bind (wpAny_attempt (wpAny_callSpecial?_slot (name := Str.ofString "__next__") hT slot_ci_next (wpAny_call_entry slot_ci_next hT entry_ci_next ?_ (args_ci_next _))))
  show wpAny _ _ (field (.ref it) 2 >>= fun r => _) _ _ s
  refine wpAny_bind (wpAny_field hit rfl (x := .bool true) rfl ?_)
  rw [if_pos (by decide)]
  refine wpAny_bind (wpAny_rule ?_)
  refine wpAny_bind ?_
  show wpAny _ _ (newExc (.type "StopIteration") [] >>= _) _ _ _
  refine wpAny_bind ?_
  simp only [newExc, newTuple]
  refine wpAny_bind (wpAny_newObj_type ?_ (by size_fits))
  refine wpAny_bind (m := firstArgMember _ _) (wpAny_of_eq (a := Value.none) (by first | rfl | (simp only [firstArgMember]; rfl)) ?_)
  refine wpAny_newObj_type ?_ (by size_fits)
  simp only [raiseNew]
  refine wpAny_bind (wpAny_handled ?_)
  rw [show A.in1.handled = none from hh]
  refine wpAny_bind (wpAny_pure (wpAny_throw ?_))
  refine wpAny_bind (wpAny_isInstance (T := "StopIteration") (b := true) ⟨_, Heap.get?_push_size _ rfl, rfl⟩ isSubtype_stop ?_)
  exact wpAny_pure (h _ fun b o e => Heap.get?_push_of_some _ (Heap.get?_push_of_some _ e))
end
section
variable {prog : Program} {w : World} {A : Around} {s : Shared} {env : Env} {h₀ : Heap} {L : Addr} {x : Str} {body : List Stmt} {Q : Flow → Shared → Prop} {m : Str → Option Value} {news : List (Addr × Obj)}
def WEnd (h₀ : Heap) (L : Addr) (s : Shared) (J : Nat → (Str → Option Value) → List (Addr × Obj) → Prop) (k : Nat) (Q : Flow → Shared → Prop) (f : Flow) (s₃ : Shared) : Prop :=
  match f with
  | .brk => Q .next s₃
  | .ret v => Q (.ret v) s₃
  | _ => ∃ h' tk m' news' k', s₃ = { s with heap := h', toks := tk } ∧ k' < k ∧ Fr h₀ L h' m' ∧ News h₀ L h' news' ∧ J k' m' news'
theorem WEnd.next {J : Nat → (Str → Option Value) → List (Addr × Obj) → Prop} {k k' : Nat} {h' : Heap} {tk : Nat} {m' : Str → Option Value} {news' : List (Addr × Obj)} (hk : k' < k) (F : Fr h₀ L h' m') (N : News h₀ L h' news') (hj : J k' m' news') :
    WEnd h₀ L s J k Q .next { s with heap := h', toks := tk } := ⟨h', tk, m', news', k', rfl, hk, F, N, hj⟩
theorem WEnd.cont {J : Nat → (Str → Option Value) → List (Addr × Obj) → Prop} {k k' : Nat} {h' : Heap} {tk : Nat} {m' : Str → Option Value} {news' : List (Addr × Obj)} (hk : k' < k) (F : Fr h₀ L h' m') (N : News h₀ L h' news') (hj : J k' m' news') :
    WEnd h₀ L s J k Q .cont { s with heap := h', toks := tk } := ⟨h', tk, m', news', k', rfl, hk, F, N, hj⟩
theorem WEnd.ret {J : Nat → (Str → Option Value) → List (Addr × Obj) → Prop} {k : Nat} {v : Value} {s₃ : Shared} (h : Q (.ret v) s₃) : WEnd h₀ L s J k Q (.ret v) s₃ := h
/-- a for over any iterator, by a measure -/
theorem loop_M {it : Addr} {px : Pos} (J : Nat → (Str → Option Value) → List (Addr × Obj) → Prop) {k₀ : Nat} (F : Fr h₀ L s.heap m) (N : News h₀ L s.heap news) (hJ : J k₀ m news)
    (turn : ∀ k m₁ news₁ h tk, J k m₁ news₁ → Fr h₀ L h m₁ → News h₀ L h news₁ →
      wpAny (model prog w) A (pyNext (.ref it)) (fun o s₂ => match o with
        | none => Q .next s₂
        | some v => wpAny (model prog w) A (storeName env x v) (fun _ s₃ => wpAny (model prog w) A (execs body env) (WEnd h₀ L s J k Q) (fun _ _ => False) s₃) (fun _ _ => False) s₂) (fun _ _ => False) { s with heap := h, toks := tk }) :
    LoopO prog w A env x px body Q (.ref it) s := by
  refine codeAny_forLoop (fun k s' => ∃ h tk m₁ news₁, s' = { s with heap := h, toks := tk } ∧ Fr h₀ L h m₁ ∧ News h₀ L h news₁ ∧ J k m₁ news₁) ?_ k₀ ⟨_, _, m, news, rfl, F, N, hJ⟩
  rintro k s' ⟨h, tk, m₁, news₁, rfl, F₁, N₁, hj⟩
  refine wpAny_mono (turn k m₁ news₁ h tk hj F₁ N₁) (fun o s₂ h₂ => ?_) fun _ _ e => e.elim
  cases o with
  | none => exact wpAny_execs_nil h₂
  | some v =>
    refine wpAny_assign_Name (wpAny_mono h₂ (fun _ s₃ h₃ => wpAny_mono h₃ (fun f s₄ h₄ => ?_) fun _ _ e => e.elim) fun _ _ e => e.elim)
    cases f with
    | ret v => exact h₄
    | brk => exact h₄
    | next => obtain ⟨h', tk', m', news', k', e, hk, F', N', hj'⟩ := h₄; exact ⟨k', hk, h', tk', m', news', e, F', N', hj'⟩
    | cont => obtain ⟨h', tk', m', news', k', e, hk, F', N', hj'⟩ := h₄; exact ⟨k', hk, h', tk', m', news', e, F', N', hj'⟩
end
end
section
/-- what the lexer's loops give, told on a list of signs: the token, what is left, the line ends read -/
def isWs (c : Nat) : Bool := c == 10 || c == 9 || c == 13 || c == 32
def nl1 (c : Nat) : Nat := if c = 10 then 1 else 0
def lexP : List Nat → List Nat → List Nat × List Nat × Nat
  | [], acc => (acc, [], 0)
  | c :: r, acc =>
    if isWs c = true then (acc, r, nl1 c)
    else if c = 92 then
      match r with
      | [] => (acc, [], 0)
      | d :: r' => ((lexP r' (acc ++ [d])).1, (lexP r' (acc ++ [d])).2.1, (lexP r' (acc ++ [d])).2.2 + nl1 d)
    else lexP r (acc ++ [c])
def lexQ : List Nat → List Nat → List Nat × List Nat × Nat
  | [], acc => (acc, [], 0)
  | c :: r, acc =>
    if c = 34 then (acc, r, 0)
    else if c = 92 then
      match r with
      | [] => (acc, [], 0)
      | d :: r' => ((lexQ r' (acc ++ [d])).1, (lexQ r' (acc ++ [d])).2.1, (lexQ r' (acc ++ [d])).2.2 + nl1 d)
    else ((lexQ r (acc ++ [c])).1, (lexQ r (acc ++ [c])).2.1, (lexQ r (acc ++ [c])).2.2 + nl1 c)
def lexT : List Nat → List Nat × List Nat × Nat
  | [] => ([], [], 0)
  | c :: r =>
    if isWs c = true then ((lexT r).1, (lexT r).2.1, (lexT r).2.2 + nl1 c)
    else if c = 34 then lexQ r []
    else if c = 92 then
      match r with
      | [] => ([], [], 0)
      | d :: r' => ((lexP r' [d]).1, (lexP r' [d]).2.1, (lexP r' [d]).2.2 + nl1 d)
    else lexP r [c]
end
section
theorem apW_zero : apW 0 = [] := by unfold apW; rw [apL_zero]; rfl
theorem apW_pos {n : Nat} (h : n ≠ 0) : apW n = apW (n / 16) ++ [65 + n % 16] := by
  unfold apW
  rw [apL_pos h, List.map_append, List.map_cons, List.map_nil]
  congr 2
  have : n % 16 < 16 := Nat.mod_lt _ (by decide)
  exact UInt8.toNat_ofNat_of_lt' (show 65 + n % 16 < 256 by omega)
theorem numF_apW (n : Nat) : numF (apW n) = n := by
  induction n using Nat.strongRecOn with
  | ind n ih =>
    by_cases hn : n = 0
    · subst hn; rw [apW_zero]; rfl
    · rw [apW_pos hn, numF_snoc, ih _ (by omega)]
      omega
theorem sum_step (a b c d e f i j : Nat) (h : c + 2 * d = a + b) (h2 : e + 2 * f = i + j) : (2 * c + e) + 2 * (2 * d + f) = (2 * a + i) + (2 * b + j) := by omega
theorem bit_sum (x y : Nat) : (x ^^^ y) % 2 + 2 * ((x &&& y) % 2) = x % 2 + y % 2 := by
  rw [show (x ^^^ y) % 2 = (x % 2) ^^^ (y % 2) from Nat.xor_mod_two_pow (n := 1), show (x &&& y) % 2 = (x % 2) &&& (y % 2) from Nat.and_mod_two_pow (n := 1)]
  rcases Nat.mod_two_eq_zero_or_one x with h | h <;> rcases Nat.mod_two_eq_zero_or_one y with h' | h' <;> rw [h, h'] <;> rfl
theorem and_xor_sum : ∀ (k x y : Nat), x < 2 ^ k → y < 2 ^ k → (x ^^^ y) + 2 * (x &&& y) = x + y := by
  intro k
  induction k with
  | zero =>
    intro x y hx hy
    rw [Nat.lt_one_iff.mp (show x < 1 from hx), Nat.lt_one_iff.mp (show y < 1 from hy)]; rfl
  | succ k ih =>
    intro x y hx hy
    have h := ih (x / 2) (y / 2) (Nat.div_lt_of_lt_mul (by rw [Nat.mul_comm]; exact hx)) (Nat.div_lt_of_lt_mul (by rw [Nat.mul_comm]; exact hy))
    have h2 := sum_step _ _ _ _ _ _ _ _ h (bit_sum x y)
    rw [← Nat.xor_div_two, ← Nat.and_div_two] at h2
    simp only [Nat.div_add_mod] at h2
    exact h2
theorem bitXor_nat (x y : Nat) : Builtin.bitXor (x : Int) (y : Int) = ((x ^^^ y : Nat) : Int) := by
  have h := and_xor_sum (x + y) x y (Nat.lt_of_le_of_lt (Nat.le_add_right _ _) Nat.lt_two_pow_self) (Nat.lt_of_le_of_lt (Nat.le_add_left _ _) Nat.lt_two_pow_self)
  rw [bitXor_and, bitAnd_pp (by omega) (by omega), Int.toNat_natCast, Int.toNat_natCast]
  omega
/-- one share's part -/
def shF (s x : Nat) : Nat := if s = 0 then 0 else x * 2 ^ (s - 1)
def seqX (s : Nat → Nat) (x0 x1 x2 : Nat) : Nat → Nat
  | 0 => x0
  | 1 => x1
  | 2 => x2
  | n + 3 => (shF (s 0) (seqX s x0 x1 x2 n) ^^^ shF (s 1) (seqX s x0 x1 x2 (n + 1))) ^^^ shF (s 2) (seqX s x0 x1 x2 (n + 2))
theorem shF_lt {s x k : Nat} (hs : s ≤ 3) (hx : x < 2 ^ k) : shF s x < 2 ^ (k + 2) := by
  have e : 2 ^ (k + 2) = 2 ^ k * 4 := Nat.pow_add 2 k 2
  unfold shF
  split
  · exact Nat.two_pow_pos _
  · rw [e]
    have : s - 1 = 0 ∨ s - 1 = 1 ∨ s - 1 = 2 := by omega
    rcases this with h | h | h <;> rw [h] <;> omega
theorem seqX_lt (s : Nat → Nat) (x0 x1 x2 : Nat) (hs : ∀ k, s k ≤ 3) (h0 : x0 < 2 ^ 17) (h1 : x1 < 2 ^ 17) (h2 : x2 < 2 ^ 17) : ∀ n, seqX s x0 x1 x2 n < 2 ^ (17 + 2 * n)
  | 0 => h0
  | 1 => Nat.lt_of_lt_of_le h1 (Nat.pow_le_pow_right (by decide) (by omega))
  | 2 => Nat.lt_of_lt_of_le h2 (Nat.pow_le_pow_right (by decide) (by omega))
  | n + 3 => by
    have a := shF_lt (hs 0) (seqX_lt s x0 x1 x2 hs h0 h1 h2 n)
    have b := shF_lt (hs 1) (seqX_lt s x0 x1 x2 hs h0 h1 h2 (n + 1))
    have c := shF_lt (hs 2) (seqX_lt s x0 x1 x2 hs h0 h1 h2 (n + 2))
    show (_ ^^^ _) ^^^ _ < _
    refine Nat.xor_lt_two_pow (Nat.xor_lt_two_pow (Nat.lt_of_lt_of_le a (Nat.pow_le_pow_right (by decide) (by omega))) (Nat.lt_of_lt_of_le b (Nat.pow_le_pow_right (by decide) (by omega)))) (Nat.lt_of_lt_of_le c (Nat.pow_le_pow_right (by decide) (by omega)))
/-- the sum after k shares -/
def totF (s : Nat → Nat) (x0 x1 x2 : Nat) (i : Nat) : Nat → Nat
  | 0 => 0
  | k + 1 => totF s x0 x1 x2 i k ^^^ shF (s k) (seqX s x0 x1 x2 (i + k))
theorem totF_three (s : Nat → Nat) (x0 x1 x2 i : Nat) : totF s x0 x1 x2 i 3 = seqX s x0 x1 x2 (i + 3) := by
  show ((0 ^^^ _) ^^^ _) ^^^ _ = _
  rw [Nat.zero_xor]; rfl
theorem totF_pos {s : Nat → Nat} {x0 x1 x2 i k : Nat} (h : 0 < s k) : Builtin.bitXor ((totF s x0 x1 x2 i k : Nat) : Int) (((seqX s x0 x1 x2 (i + k) : Nat) : Int) * 2 ^ (s k - 1)) = ((totF s x0 x1 x2 i (k + 1) : Nat) : Int) := by
  have e : ((seqX s x0 x1 x2 (i + k) : Nat) : Int) * 2 ^ (s k - 1) = ((shF (s k) (seqX s x0 x1 x2 (i + k)) : Nat) : Int) := by
    unfold shF; rw [if_neg (by omega), Int.natCast_mul, Int.natCast_pow]; rfl
  rw [e, bitXor_nat]; rfl
theorem totF_zero {s : Nat → Nat} {x0 x1 x2 i k : Nat} (h : s k = 0) : totF s x0 x1 x2 i (k + 1) = totF s x0 x1 x2 i k := by
  show totF s x0 x1 x2 i k ^^^ shF (s k) _ = _
  rw [shF, if_pos h, Nat.xor_zero]
end
section
/-- a number's ones, spread: three places each -/
def spN (n : Nat) : Nat := if h : n = 0 then 0 else spN (n / 2) * 8 + n % 2
termination_by n
decreasing_by omega
theorem spN_zero : spN 0 = 0 := by rw [spN]; rfl
theorem spN_eq (n : Nat) : spN n = spN (n / 2) * 8 + n % 2 := by
  by_cases h : n = 0
  · subst h; rw [spN_zero]
  · rw [spN, dif_neg h]
theorem lin4 (A b3 b2 b1 b0 : Nat) : (((A * 8 + b3) * 8 + b2) * 8 + b1) * 8 + b0 = A * 4096 + (b3 * 512 + b2 * 64 + b1 * 8 + b0) := by omega
theorem spN_eq16 (n : Nat) : spN n = spN (n / 16) * 4096 + (n % 16 / 8 * 512 + n % 16 / 4 % 2 * 64 + n % 16 / 2 % 2 * 8 + n % 16 % 2) := by
  rw [show n % 16 / 8 = n / 8 % 2 from Nat.mod_mul_right_div_self n 8 2, show n % 16 / 4 = n / 4 % 4 from Nat.mod_mul_right_div_self n 4 4, show n % 16 / 2 = n / 2 % 8 from Nat.mod_mul_right_div_self n 2 8,
    Nat.mod_mod_of_dvd (n / 4) (by decide), Nat.mod_mod_of_dvd (n / 2) (by decide), Nat.mod_mod_of_dvd n (by decide),
    spN_eq n, spN_eq (n / 2), spN_eq (n / 2 / 2), spN_eq (n / 2 / 2 / 2), show n / 2 / 2 / 2 / 2 = n / 16 by rw [Nat.div_div_eq_div_mul, Nat.div_div_eq_div_mul, Nat.div_div_eq_div_mul],
    show n / 2 / 2 / 2 = n / 8 by rw [Nat.div_div_eq_div_mul, Nat.div_div_eq_div_mul], show n / 2 / 2 = n / 4 by rw [Nat.div_div_eq_div_mul]]
  exact lin4 _ _ _ _ _
theorem sp1_nat (k : Nat) (h : k < 16) : sp1 (k : Int) = ((k / 8 * 512 + k / 4 % 2 * 64 + k / 2 % 2 * 8 + k % 2 : Nat) : Int) := by
  have key : ∀ k : Fin 16, sp1 ((k.val : Nat) : Int) = ((k.val / 8 * 512 + k.val / 4 % 2 * 64 + k.val / 2 % 2 * 8 + k.val % 2 : Nat) : Int) := by decide +kernel
  exact key ⟨k, h⟩
theorem spF_apW (n : Nat) : spF (apW n) = (spN n : Nat) := by
  induction n using Nat.strongRecOn with
  | ind n ih =>
    by_cases hn : n = 0
    · subst hn; rw [apW_zero, spN_zero]; rfl
    · rw [apW_pos hn, spF_snoc, ih _ (by omega), spN_eq16 n, show (((65 + n % 16 : Nat) : Int) - 65) = ((n % 16 : Nat) : Int) by omega, sp1_nat _ (Nat.mod_lt _ (by decide))]
      omega
theorem spN_double (n : Nat) : spN (n * 2) = spN n * 8 := by
  rw [spN_eq (n * 2), show n * 2 / 2 = n by omega]; omega
theorem spN_shift (n m : Nat) : spN (n * 2 ^ m) = spN n * 8 ^ m := by
  induction m with
  | zero => simp
  | succ m ih => rw [Nat.pow_succ, ← Nat.mul_assoc, spN_double, ih, Nat.pow_succ, Nat.mul_assoc]
theorem spN_lt (k : Nat) : ∀ n, n < 2 ^ k → spN n < 8 ^ k := by
  induction k with
  | zero => intro n h; rw [show n = 0 by simpa using h, spN_zero]; decide
  | succ k ih =>
    intro n h
    have := ih (n / 2) (by rw [Nat.pow_succ] at h; omega)
    rw [spN_eq, Nat.pow_succ]
    omega
/-- one at every third place -/
def oddN : Nat → Nat
  | 0 => 0
  | w + 1 => oddN w * 8 + 1
theorem oddN_eq (w : Nat) : oddN w * 7 + 1 = 8 ^ w := by
  induction w with
  | zero => rfl
  | succ w ih => rw [oddN, Nat.pow_succ, ← ih]; omega
theorem oddN_div (w : Nat) : (8 ^ w - 1) / 7 = oddN w := by
  have := oddN_eq w
  omega
theorem and_digit (T O d : Nat) (hd : d < 8) (he : d % 2 = 0) : (T * 8 + d) &&& (O * 8 + 1) = (T &&& O) * 8 := by
  have h1 : ((T * 8 + d) &&& (O * 8 + 1)) / 8 = T &&& O := by
    rw [show ((T * 8 + d) &&& (O * 8 + 1)) / 8 = ((T * 8 + d) / 8) &&& ((O * 8 + 1) / 8) from Nat.and_div_two_pow (n := 3)]
    rw [Nat.mul_comm T, Nat.mul_comm O, Nat.mul_add_div (by decide), Nat.mul_add_div (by decide), Nat.div_eq_of_lt hd]; rfl
  have h2 : ((T * 8 + d) &&& (O * 8 + 1)) % 8 = 0 := by
    rw [show ((T * 8 + d) &&& (O * 8 + 1)) % 8 = ((T * 8 + d) % 8) &&& ((O * 8 + 1) % 8) from Nat.and_mod_two_pow (n := 3)]
    rw [Nat.mul_comm T, Nat.mul_comm O, Nat.mul_add_mod, Nat.mul_add_mod, Nat.mod_eq_of_lt hd, show 1 % 8 = 1 from rfl, Nat.and_one_is_mod, he]
  have h3 := Nat.div_add_mod ((T * 8 + d) &&& (O * 8 + 1)) 8
  rw [h1, h2, Nat.add_zero, Nat.mul_comm] at h3
  exact h3.symm
theorem sum4 (a b c d p q r s : Nat) : a * 8 + p + (b * 8 + q) + (c * 8 + r) + (d * 8 + s) = (a + b + c + d) * 8 + (p + q + r + s) := by omega
theorem four_bits (z0 z1 z2 : Nat) : ((z0 ^^^ z1 ^^^ z2) % 2 + z0 % 2 + z1 % 2 + z2 % 2) < 8 ∧ ((z0 ^^^ z1 ^^^ z2) % 2 + z0 % 2 + z1 % 2 + z2 % 2) % 2 = 0 := by
  rw [show (z0 ^^^ z1 ^^^ z2) % 2 = ((z0 ^^^ z1) % 2) ^^^ (z2 % 2) from Nat.xor_mod_two_pow (n := 1), show (z0 ^^^ z1) % 2 = (z0 % 2) ^^^ (z1 % 2) from Nat.xor_mod_two_pow (n := 1)]
  rcases Nat.mod_two_eq_zero_or_one z0 with h | h <;> rcases Nat.mod_two_eq_zero_or_one z1 with h' | h' <;> rcases Nat.mod_two_eq_zero_or_one z2 with h2 | h2 <;> rw [h, h', h2] <;> decide
theorem parity (w : Nat) : ∀ z0 z1 z2 : Nat, (spN (z0 ^^^ z1 ^^^ z2) + spN z0 + spN z1 + spN z2) &&& oddN w = 0 := by
  induction w with
  | zero => intro z0 z1 z2; exact Nat.and_zero _
  | succ w ih =>
    intro z0 z1 z2
    have h := ih (z0 / 2) (z1 / 2) (z2 / 2)
    rw [← Nat.xor_div_two, ← Nat.xor_div_two] at h
    rw [spN_eq (z0 ^^^ z1 ^^^ z2), spN_eq z0, spN_eq z1, spN_eq z2, oddN, sum4, and_digit _ _ _ (four_bits z0 z1 z2).1 (four_bits z0 z1 z2).2, h]
/-- one share's part at a distance -/
def shA (s a x : Nat) : Nat := if s = 0 then 0 else x * 2 ^ ((s - 1) * a)
theorem xor_mul_pow (x y m : Nat) : (x ^^^ y) * 2 ^ m = (x * 2 ^ m) ^^^ (y * 2 ^ m) := by
  rw [← Nat.shiftLeft_eq, ← Nat.shiftLeft_eq, ← Nat.shiftLeft_eq, Nat.shiftLeft_xor_distrib]
theorem shA_xor (s a x y : Nat) : shA s a (x ^^^ y) = shA s a x ^^^ shA s a y := by
  unfold shA
  split
  · rfl
  · exact xor_mul_pow _ _ _
theorem shA_comm (s t a x : Nat) : shA s a (shA t a x) = shA t a (shA s a x) := by
  unfold shA
  split <;> split <;> simp [Nat.mul_assoc, Nat.mul_comm, Nat.mul_left_comm]
theorem shA_twice (s a x : Nat) : shA s a (shA s a x) = shA s (2 * a) x := by
  unfold shA
  split
  · rfl
  · rw [Nat.mul_assoc, ← Nat.pow_add]; congr 2; rw [← Nat.two_mul, Nat.mul_left_comm]
theorem shA_one (s x : Nat) : shA s 1 x = shF s x := by unfold shA shF; rw [Nat.mul_one]
/-- the rule at a distance -/
def Rule (S : Nat → Nat) (x : Nat → Nat) (a : Nat) : Prop := ∀ n, x (n + 3 * a) = shA (S 0) a (x n) ^^^ shA (S 1) a (x (n + a)) ^^^ shA (S 2) a (x (n + 2 * a))
theorem nine (p q r u v t1 t2 t3 : Nat) : (p ^^^ t1 ^^^ t2) ^^^ (t1 ^^^ q ^^^ t3) ^^^ (t2 ^^^ t3 ^^^ r) = p ^^^ q ^^^ r := by
  apply Nat.eq_of_testBit_eq
  intro i
  simp only [Nat.testBit_xor]
  cases p.testBit i <;> cases q.testBit i <;> cases r.testBit i <;> cases t1.testBit i <;> cases t2.testBit i <;> cases t3.testBit i <;> rfl
theorem Rule.two {S : Nat → Nat} {x : Nat → Nat} {a : Nat} (h : Rule S x a) : Rule S x (2 * a) := by
  intro n
  have h0 := h n
  have h1 := h (n + a)
  have h2 := h (n + 2 * a)
  have h3 := h (n + 3 * a)
  rw [show n + 3 * (2 * a) = n + 3 * a + 3 * a by omega, h3, show n + 3 * a + a = n + a + 3 * a by omega, show n + 3 * a + 2 * a = n + 2 * a + 3 * a by omega, h0, h1, h2,
    show n + a + a = n + 2 * a by omega, show n + a + 2 * a = n + 3 * a by omega, show n + 2 * a + a = n + 3 * a by omega, show n + 2 * a + 2 * a = n + 2 * (2 * a) by omega]
  simp only [shA_xor, shA_twice]
  rw [shA_comm (S 1) (S 0), shA_comm (S 2) (S 0), shA_comm (S 2) (S 1)]
  exact nine _ _ _ 0 0 _ _ _
theorem rule_one (S : Nat → Nat) (X0 X1 X2 : Nat) : Rule S (seqX S X0 X1 X2) 1 := by
  intro n
  rw [shA_one, shA_one, shA_one]
  rfl
theorem rule_all (S : Nat → Nat) (X0 X1 X2 : Nat) : ∀ a ∈ [1, 2, 4, 8], Rule S (seqX S X0 X1 X2) a := by
  have r1 := rule_one S X0 X1 X2
  have r2 := r1.two
  have r4 := r2.two
  have r8 := r4.two
  intro a ha
  simp only [List.mem_cons, List.not_mem_nil, or_false] at ha
  rcases ha with rfl | rfl | rfl | rfl
  · exact r1
  · exact r2
  · exact r4
  · exact r8
/-- what the law's sum holds after k shares -/
def spT (S : Nat → Nat) (x : Nat → Nat) (a n : Nat) : Nat → Nat
  | 0 => spN (x (n + 3 * a))
  | k + 1 => spT S x a n k + spN (shA (S k) a (x (n + k * a)))
theorem spT_pos {S : Nat → Nat} {x : Nat → Nat} {a n k : Nat} (h : 0 < S k) : spT S x a n (k + 1) = spT S x a n k + spN (x (n + k * a)) * 8 ^ ((S k - 1) * a) := by
  rw [spT, shA, if_neg (by omega), spN_shift]
theorem spT_zero {S : Nat → Nat} {x : Nat → Nat} {a n k : Nat} (h : S k = 0) : spT S x a n (k + 1) = spT S x a n k := by
  rw [spT, shA, if_pos h, spN_zero]; rfl
theorem spT_odd {S : Nat → Nat} {x : Nat → Nat} {a : Nat} (h : Rule S x a) (n w : Nat) : spT S x a n 3 &&& oddN w = 0 := by
  have e := h n
  show (spN (x (n + 3 * a)) + spN (shA (S 0) a (x (n + 0 * a))) + spN (shA (S 1) a (x (n + 1 * a))) + spN (shA (S 2) a (x (n + 2 * a)))) &&& oddN w = 0
  rw [e, Nat.zero_mul, Nat.add_zero, Nat.one_mul]
  exact parity w _ _ _
end
section
def Ltr (l : List Nat) : Prop := ∀ c ∈ l, 65 ≤ c ∧ c < 81
theorem ws_ltr {c : Nat} (h : 65 ≤ c) : isWs c = false := by
  unfold isWs
  simp; omega
/-- the line ends: read and left -/
theorem lexP_count : ∀ (k : Nat) (l acc : List Nat), l.length ≤ k → (lexP l acc).2.2 + (lexP l acc).2.1.count 10 = l.count 10 := by
  intro k
  induction k with
  | zero => intro l acc h; rw [List.length_eq_zero_iff.mp (by omega : l.length = 0), lexP]; rfl
  | succ k ih =>
    intro l acc h
    cases l with
    | nil => rw [lexP]; rfl
    | cons c r =>
      rw [lexP.eq_def]
      dsimp only
      by_cases hw : isWs c = true
      · rw [if_pos hw]
        simp only [List.count_cons, nl1, beq_iff_eq]; omega
      · rw [if_neg hw]
        have hc : c ≠ 10 := by intro e; apply hw; rw [e]; rfl
        by_cases hb : c = 92
        · rw [if_pos hb]
          cases r with
          | nil => simp [List.count_cons, hc]
          | cons d r' =>
            have := ih r' (acc ++ [d]) (by simp at h; omega)
            simp only [List.count_cons, nl1, beq_iff_eq, hc, if_false]
            omega
        · rw [if_neg hb, ih r _ (by simp at h; omega)]
          simp [List.count_cons, hc]
theorem lexQ_count : ∀ (k : Nat) (l acc : List Nat), l.length ≤ k → (lexQ l acc).2.2 + (lexQ l acc).2.1.count 10 = l.count 10 := by
  intro k
  induction k with
  | zero => intro l acc h; rw [List.length_eq_zero_iff.mp (by omega : l.length = 0), lexQ]; rfl
  | succ k ih =>
    intro l acc h
    cases l with
    | nil => rw [lexQ]; rfl
    | cons c r =>
      rw [lexQ.eq_def]
      dsimp only
      by_cases hw : c = 34
      · rw [if_pos hw]
        simp [List.count_cons, hw]
      · rw [if_neg hw]
        by_cases hb : c = 92
        · rw [if_pos hb]
          cases r with
          | nil => simp [List.count_cons, hb]
          | cons d r' =>
            have := ih r' (acc ++ [d]) (by simp at h; omega)
            simp only [List.count_cons, nl1, beq_iff_eq, hb]
            simp only [show ¬ ((92 : Nat) = 10) by decide, if_false]
            omega
        · rw [if_neg hb]
          have := ih r (acc ++ [c]) (by simp at h; omega)
          simp only [List.count_cons, nl1, beq_iff_eq]
          omega
theorem lexT_count : ∀ (k : Nat) (l : List Nat), l.length ≤ k → (lexT l).2.2 + (lexT l).2.1.count 10 = l.count 10 := by
  intro k
  induction k with
  | zero => intro l h; rw [List.length_eq_zero_iff.mp (by omega : l.length = 0), lexT]; rfl
  | succ k ih =>
    intro l h
    cases l with
    | nil => rw [lexT]; rfl
    | cons c r =>
      rw [lexT.eq_def]
      dsimp only
      by_cases hw : isWs c = true
      · rw [if_pos hw]
        have := ih r (by simp at h; omega)
        simp only [List.count_cons, nl1, beq_iff_eq]
        omega
      · rw [if_neg hw]
        have hc : c ≠ 10 := by intro e; apply hw; rw [e]; rfl
        by_cases hq : c = 34
        · rw [if_pos hq, lexQ_count _ r [] (Nat.le_refl _)]
          simp [List.count_cons, hc]
        · rw [if_neg hq]
          by_cases hb : c = 92
          · rw [if_pos hb]
            cases r with
            | nil => simp [List.count_cons, hc]
            | cons d r' =>
              have := lexP_count _ r' [d] (Nat.le_refl _)
              simp only [List.count_cons, nl1, beq_iff_eq, hc, if_false]
              omega
          · rw [if_neg hb, lexP_count _ r [c] (Nat.le_refl _)]
            simp [List.count_cons, hc]
/-- the text ends, or a blank stands there -/
def Stop (r : List Nat) : Prop := r = [] ∨ ∃ c r', r = c :: r' ∧ isWs c = true
theorem lexP_stop {r acc : List Nat} (h : Stop r) : (lexP r acc).1 = acc ∧ (lexP r acc).2.1 = r.tail := by
  rcases h with rfl | ⟨c, r', rfl, hc⟩
  · rw [lexP]; exact ⟨rfl, rfl⟩
  · rw [lexP.eq_def]; dsimp only; rw [if_pos hc]; exact ⟨rfl, rfl⟩
theorem lexP_plain {r : List Nat} (h : Stop r) : ∀ (l acc : List Nat), Ltr l → (lexP (l ++ r) acc).1 = acc ++ l ∧ (lexP (l ++ r) acc).2.1 = r.tail
  | [], acc, _ => by simpa using lexP_stop h
  | c :: l, acc, hl => by
    have hc := hl c (.head _)
    have e : lexP (c :: l ++ r) acc = lexP (l ++ r) (acc ++ [c]) := by
      rw [List.cons_append, lexP.eq_def]; dsimp only; rw [if_neg (by rw [ws_ltr hc.1]; decide), if_neg (by omega)]
    have := lexP_plain h l (acc ++ [c]) fun x hx => hl x (.tail _ hx)
    rw [e]
    simpa using this
theorem lexP_slash {r : List Nat} (h : Stop r) : ∀ (l acc : List Nat), (lexP (l.flatMap (fun c => [92, c]) ++ r) acc).1 = acc ++ l ∧ (lexP (l.flatMap (fun c => [92, c]) ++ r) acc).2.1 = r.tail
  | [], acc => by simpa using lexP_stop h
  | c :: l, acc => by
    have e : lexP ((c :: l).flatMap (fun c => [92, c]) ++ r) acc = ((lexP (l.flatMap (fun c => [92, c]) ++ r) (acc ++ [c])).1, (lexP (l.flatMap (fun c => [92, c]) ++ r) (acc ++ [c])).2.1, (lexP (l.flatMap (fun c => [92, c]) ++ r) (acc ++ [c])).2.2 + nl1 c) := by
      rw [List.flatMap_cons, List.append_assoc]
      show lexP (92 :: c :: (l.flatMap (fun c => [92, c]) ++ r)) acc = _
      rw [lexP.eq_def]; rfl
    have := lexP_slash h l (acc ++ [c])
    rw [e]
    simpa using this
theorem lexQ_word {r : List Nat} : ∀ (l acc : List Nat), Ltr l → (lexQ (l ++ 34 :: r) acc).1 = acc ++ l ∧ (lexQ (l ++ 34 :: r) acc).2.1 = r
  | [], acc, _ => by
    rw [List.nil_append, lexQ.eq_def]; dsimp only; rw [if_pos rfl, List.append_nil]; exact ⟨rfl, rfl⟩
  | c :: l, acc, hl => by
    have hc := hl c (.head _)
    have e : lexQ (c :: l ++ 34 :: r) acc = ((lexQ (l ++ 34 :: r) (acc ++ [c])).1, (lexQ (l ++ 34 :: r) (acc ++ [c])).2.1, (lexQ (l ++ 34 :: r) (acc ++ [c])).2.2 + nl1 c) := by
      rw [List.cons_append, lexQ.eq_def]; dsimp only; rw [if_neg (by omega), if_neg (by omega)]
    have := lexQ_word (r := r) l (acc ++ [c]) fun x hx => hl x (.tail _ hx)
    rw [e]
    simpa using this
/-- a word as it is dressed is read: what is left is what stands behind it, less the blank that ends it, or all of it -/
theorem lexT_dress {l r : List Nat} {k : Int} (hl : Ltr l) (h : Stop r) : (lexT (dressF l k ++ r)).1 = l ∧ ((lexT (dressF l k ++ r)).2.1 = r.tail ∨ (lexT (dressF l k ++ r)).2.1 = r) := by
  unfold dressF
  split
  · have e : lexT (34 :: (l ++ [34]) ++ r) = lexQ (l ++ 34 :: r) [] := by
      rw [List.cons_append, List.append_assoc, lexT.eq_def]; rfl
    have := lexQ_word (r := r) l [] hl
    rw [e]
    exact ⟨by simpa using this.1, .inr this.2⟩
  · rename_i hn
    have hne : l ≠ [] := fun e => hn (.inl e)
    obtain ⟨c, q, rfl⟩ := List.exists_cons_of_ne_nil hne
    have hc := hl c (.head _)
    split
    · have e : lexT ((c :: q).flatMap (fun c => [92, c]) ++ r) = ((lexP (q.flatMap (fun c => [92, c]) ++ r) [c]).1, (lexP (q.flatMap (fun c => [92, c]) ++ r) [c]).2.1, (lexP (q.flatMap (fun c => [92, c]) ++ r) [c]).2.2 + nl1 c) := by
        rw [List.flatMap_cons, List.append_assoc]
        show lexT (92 :: c :: (q.flatMap (fun c => [92, c]) ++ r)) = _
        rw [lexT.eq_def]; rfl
      have := lexP_slash h q [c]
      rw [e]
      exact ⟨this.1, .inl this.2⟩
    · have e : lexT (c :: q ++ r) = lexP (q ++ r) [c] := by
        rw [List.cons_append, lexT.eq_def]; dsimp only; rw [if_neg (by rw [ws_ltr hc.1]; decide), if_neg (by omega), if_neg (by omega)]
      have := lexP_plain h q [c] fun x hx => hl x (.tail _ hx)
      rw [e]
      exact ⟨this.1, .inl this.2⟩
theorem sepF_ws (j : Int) : isWs (sepF j) = true := by
  unfold sepF
  generalize j.toNat = k
  match k with
  | 0 | 1 | 2 | 3 => rfl
  | k + 4 => rfl
theorem lexT_wsC {c : Nat} {r : List Nat} (h : isWs c = true) : (lexT (c :: r)).1 = (lexT r).1 ∧ (lexT (c :: r)).2.1 = (lexT r).2.1 := by
  rw [lexT.eq_def]; dsimp only; rw [if_pos h]; exact ⟨rfl, rfl⟩
/-- what is still to read behind i words -/
def restF (ts ds : List Int) (i : Nat) : List Nat := (List.range' i (6 - i)).flatMap (fun k => pieceF (ts.getD k 0) (ds.getD k 0) k)
theorem restF_zero (ts ds : List Int) : restF ts ds 0 = textF ts ds 6 := by
  unfold restF textF
  rw [List.range_eq_range']
theorem restF_six (ts ds : List Int) : restF ts ds 6 = [] := rfl
theorem restF_step (ts ds : List Int) (i : Nat) (h : i < 6) : restF ts ds i = pieceF (ts.getD i 0) (ds.getD i 0) i ++ restF ts ds (i + 1) := by
  unfold restF
  rw [show 6 - i = (6 - (i + 1)) + 1 by omega, List.range'_succ, List.flatMap_cons]
/-- the lexer stands before the i-th word -/
def At (ts ds : List Int) (i : Nat) (l : List Nat) : Prop := l = restF ts ds i ∨ ∃ c, isWs c = true ∧ i < 6 ∧ l = c :: restF ts ds i
theorem at_step {ts ds : List Int} {i : Nat} {l : List Nat} (h : At ts ds i l) (hi : i < 6) : (lexT l).1 = apW (ts.getD i 0).toNat ∧ At ts ds (i + 1) (lexT l).2.1 := by
  have key : (lexT (restF ts ds i)).1 = apW (ts.getD i 0).toNat ∧ At ts ds (i + 1) (lexT (restF ts ds i)).2.1 := by
    rw [restF_step _ _ _ hi, pieceF, List.append_assoc]
    by_cases h5 : i < 5
    · rw [if_pos h5]
      have hst : Stop ([sepF ((choiceF (ds.getD i 0)).fdiv 3)] ++ restF ts ds (i + 1)) := .inr ⟨_, _, rfl, sepF_ws _⟩
      have := lexT_dress (k := (choiceF (ds.getD i 0)).fmod 3) (apW_small (ts.getD i 0).toNat) hst
      refine ⟨this.1, ?_⟩
      rcases this.2 with e | e
      · exact .inl e
      · exact .inr ⟨_, sepF_ws _, by omega, e⟩
    · obtain rfl : i = 5 := by omega
      rw [if_neg h5]
      have hst : Stop ([] ++ restF ts ds (5 + 1)) := .inl rfl
      have := lexT_dress (k := (choiceF (ds.getD 5 0)).fmod 3) (apW_small (ts.getD 5 0).toNat) hst
      refine ⟨this.1, .inl ?_⟩
      rcases this.2 with e | e <;> exact e
  rcases h with rfl | ⟨c, hc, _, rfl⟩
  · exact key
  · have := lexT_wsC (r := restF ts ds i) hc
    rw [this.1, this.2]
    exact key
theorem at_end {ts ds : List Int} {l : List Nat} (h : At ts ds 6 l) : l = [] := by
  rcases h with h | ⟨_, _, h, _⟩
  · exact h
  · omega
theorem apW_head (n : Nat) : (apW n).head? ≠ some 65 := by
  induction n using Nat.strongRecOn with
  | ind n ih =>
    by_cases hn : n = 0
    · subst hn; rw [apW_zero]; decide
    · rw [apW_pos hn, List.head?_append]
      by_cases h16 : n / 16 = 0
      · rw [h16, apW_zero]
        simp; omega
      · have := ih (n / 16) (by omega)
        cases hq : (apW (n / 16)).head? with
        | none =>
          rw [List.head?_eq_none_iff, apW_pos h16] at hq
          simp at hq
        | some a => rw [hq] at this; simpa using this
theorem cnt_count (c : Nat) : ∀ l : List Nat, PyProof.Rows.cnt c l = (l.count c : Nat)
  | [] => rfl
  | n :: r => by
    rw [cnt_cons, cnt_count c r, List.count_cons]
    by_cases h : n = c <;> simp [h] <;> omega
end
section
theorem drop_next {xs : List Nat} {p c : Nat} {r : List Nat} (h : xs.drop p = c :: r) : xs.drop (p + 1) = r := by
  have := congrArg List.tail h
  rwa [List.tail_drop] at this
theorem isWs_mem (c : Nat) : (c ∈ (PySem.Str.ofString "\n\t\r ").cps.toList) ↔ isWs c = true := by
  rw [show (PySem.Str.ofString "\n\t\r ").cps.toList = [10, 9, 13, 32] by decide +kernel]
  simp [isWs, or_assoc]
theorem ws_yes {c : Nat} (h : (Builtin.Str.occurrences (PySem.Str.ofString "\n\t\r ") (txt [c]) 0 (PySem.Str.ofString "\n\t\r ").length 1).isEmpty = false) : isWs c = true := by
  have h1 := StrLaws.found_one (PySem.Str.ofString "\n\t\r ") c
  rw [show (⟨#[c]⟩ : Str) = txt [c] from rfl, h] at h1
  exact (isWs_mem c).mp (of_decide_eq_true h1.symm)
theorem ws_no {c : Nat} (h : (Builtin.Str.occurrences (PySem.Str.ofString "\n\t\r ") (txt [c]) 0 (PySem.Str.ofString "\n\t\r ").length 1).isEmpty = true) : ¬ isWs c = true := by
  have h1 := StrLaws.found_one (PySem.Str.ofString "\n\t\r ") c
  rw [show (⟨#[c]⟩ : Str) = txt [c] from rfl, h] at h1
  exact fun q => of_decide_eq_false h1.symm ((isWs_mem c).mpr q)
theorem nlOf_one (c : Nat) : nlOf [c] = nl1 c := by unfold nlOf nl1; by_cases h : c = 10 <;> simp [h]
theorem nl1_le (c : Nat) : nl1 c ≤ 1 := by unfold nl1; split <;> omega
theorem lexT_ws {c : Nat} {r : List Nat} (h : isWs c = true) : lexT (c :: r) = ((lexT r).1, (lexT r).2.1, (lexT r).2.2 + nl1 c) := by rw [lexT.eq_def]; dsimp only; rw [if_pos h]
theorem drop_next2 {xs : List Nat} {p : Nat} {r : List Nat} (h : xs.drop p = r) : xs.drop (p + 1) = r.tail := by
  have := congrArg List.tail h
  rwa [List.tail_drop] at this
theorem lexT_q {r : List Nat} : lexT (34 :: r) = lexQ r [] := by rw [lexT.eq_def]; rfl
theorem lexT_c {c : Nat} {r : List Nat} (h : ¬ isWs c = true) (h1 : c ≠ 34) (h2 : c ≠ 92) : lexT (c :: r) = lexP r [c] := by rw [lexT.eq_def]; dsimp only; rw [if_neg h, if_neg h1, if_neg h2]
theorem lexT_bs {r : List Nat} : lexT (92 :: r) = ((lexP r.tail (r.take 1)).1, (lexP r.tail (r.take 1)).2.1, (lexP r.tail (r.take 1)).2.2 + nlOf (r.take 1)) := by
  cases r with
  | nil => rfl
  | cons d r => rw [lexT.eq_def]; simp [isWs, nlOf_one]
theorem lexP_ws {c : Nat} {r acc : List Nat} (h : isWs c = true) : lexP (c :: r) acc = (acc, r, nl1 c) := by rw [lexP.eq_def]; dsimp only; rw [if_pos h]
theorem lexP_c {c : Nat} {r acc : List Nat} (h : ¬ isWs c = true) (h2 : c ≠ 92) : lexP (c :: r) acc = lexP r (acc ++ [c]) := by rw [lexP.eq_def]; dsimp only; rw [if_neg h, if_neg h2]
theorem lexP_bs {r acc : List Nat} : lexP (92 :: r) acc = ((lexP r.tail (acc ++ r.take 1)).1, (lexP r.tail (acc ++ r.take 1)).2.1, (lexP r.tail (acc ++ r.take 1)).2.2 + nlOf (r.take 1)) := by
  cases r with
  | nil => rw [lexP.eq_def]; simp [isWs, lexP, nlOf]
  | cons d r => rw [lexP.eq_def]; simp [isWs, nlOf_one]
theorem lexQ_q {r acc : List Nat} : lexQ (34 :: r) acc = (acc, r, 0) := by rw [lexQ.eq_def]; rfl
theorem lexQ_c {c : Nat} {r acc : List Nat} (h1 : c ≠ 34) (h2 : c ≠ 92) : lexQ (c :: r) acc = ((lexQ r (acc ++ [c])).1, (lexQ r (acc ++ [c])).2.1, (lexQ r (acc ++ [c])).2.2 + nl1 c) := by rw [lexQ.eq_def]; dsimp only; rw [if_neg h1, if_neg h2]
theorem lexQ_bs {r acc : List Nat} : lexQ (92 :: r) acc = ((lexQ r.tail (acc ++ r.take 1)).1, (lexQ r.tail (acc ++ r.take 1)).2.1, (lexQ r.tail (acc ++ r.take 1)).2.2 + nlOf (r.take 1)) := by
  cases r with
  | nil => rw [lexQ.eq_def]; simp [lexQ, nlOf]
  | cons d r => rw [lexQ.eq_def]; simp [nlOf_one]
theorem q_yes {c : Nat} (h : (txt [c] == PySem.Str.ofString "\"") = true) : c = 34 := by
  rw [show PySem.Str.ofString "\"" = txt [34] from rfl, txt_beq, decide_eq_true_eq] at h; simpa using h
theorem q_no {c : Nat} (h : (txt [c] == PySem.Str.ofString "\"") = false) : c ≠ 34 := by
  rw [show PySem.Str.ofString "\"" = txt [34] from rfl, txt_beq, decide_eq_false_iff_not] at h; simpa using h
theorem b_yes {c : Nat} (h : (txt [c] == PySem.Str.ofString "\\") = true) : c = 92 := by
  rw [show PySem.Str.ofString "\\" = txt [92] from rfl, txt_beq, decide_eq_true_eq] at h; simpa using h
theorem b_no {c : Nat} (h : (txt [c] == PySem.Str.ofString "\\") = false) : c ≠ 92 := by
  rw [show PySem.Str.ofString "\\" = txt [92] from rfl, txt_beq, decide_eq_false_iff_not] at h; simpa using h
theorem nl1_ws {c : Nat} (h : ¬ isWs c = true) : nl1 c = 0 := by
  unfold nl1; rw [if_neg]; intro e; apply h; rw [e]; rfl
theorem nlOf_le (l : List Nat) : nlOf l ≤ l.length := by
  unfold nlOf; split
  · rename_i h; rw [h]; simp
  · omega
theorem end_fr {h₀ h h' : Heap} {L it : Addr} {m : Str → Option Value} {o : Obj} {rest : List (Addr × Obj)} (F : Fr h₀ L h m) (N : News h₀ L h ((it, o) :: rest)) (kp : ∀ b o, b ≠ it → h.get? b = some o → h'.get? b = some o) : Fr h₀ L h' m :=
  ⟨F.ns.at' fun o e => kp _ o (N _ (.head _)).2.1.symm e, fun b o e => kp b o (fun q => by rw [q, (N _ (.head _)).2.2] at e; cases e) (F.keep b o e), F.above⟩
theorem end_news {h₀ h h' : Heap} {L it : Addr} {o o' : Obj} {rest : List (Addr × Obj)} (N : News h₀ L h ((it, o) :: rest)) (e : h'.get? it = some o') (kp : ∀ b o, b ≠ it → h.get? b = some o → h'.get? b = some o) (off : ∀ r ∈ rest, r.1 ≠ it) : News h₀ L h' ((it, o') :: rest) := fun q hq => by
  rcases List.mem_cons.mp hq with rfl | hq
  · exact ⟨e, (N _ (.head _)).2⟩
  · exact ⟨kp _ _ (off q hq) (N q (.tail _ hq)).1, (N q (.tail _ hq)).2⟩
theorem off2 {a : LexA} {q i : Addr} {o1 o2 : Obj} (h : ∀ b ∈ a.adr, @LT.lt Nat _ b q) (hi : @LT.lt Nat _ q i) : ∀ r ∈ [(i, o1), (q, o2)], r.1 ∉ a.adr :=
  List.forall_mem_cons.mpr ⟨fun hb => Nat.lt_irrefl _ (Nat.lt_trans (h _ hb) hi), List.forall_mem_cons.mpr ⟨fun hb => Nat.lt_irrefl _ (h _ hb), fun _ h => nomatch h⟩⟩
theorem adr_lt {a : LexA} {q : Addr} (h : @LT.lt Nat _ a.pb q ∧ @LT.lt Nat _ a.x q ∧ @LT.lt Nat _ a.d q ∧ @LT.lt Nat _ a.x2 q ∧ @LT.lt Nat _ a.d2 q ∧ @LT.lt Nat _ a.f q ∧ @LT.lt Nat _ a.cc q ∧ @LT.lt Nat _ a.lp q ∧ @LT.lt Nat _ a.c2 q ∧ @LT.lt Nat _ a.c1 q) : ∀ b ∈ a.adr, @LT.lt Nat _ b q := by
  obtain ⟨h0, h1, h2, h3, h4, h5, h6, h7, h8, h9⟩ := h
  exact List.forall_mem_cons.mpr ⟨h0, List.forall_mem_cons.mpr ⟨h1, List.forall_mem_cons.mpr ⟨h2, List.forall_mem_cons.mpr ⟨h3, List.forall_mem_cons.mpr ⟨h4, List.forall_mem_cons.mpr ⟨h5, List.forall_mem_cons.mpr ⟨h6, List.forall_mem_cons.mpr ⟨h7, List.forall_mem_cons.mpr ⟨h8, List.forall_mem_cons.mpr ⟨h9, fun _ h => nomatch h⟩⟩⟩⟩⟩⟩⟩⟩⟩⟩
theorem led_in {a : LexA} {w : World} {npb : Nat} {pbs : List Value} {p n : Int} {tp tn : Tok} {q : Addr × Obj} (h : q ∈ a.led w npb pbs p n tp tn) : q.1 ∈ a.adr := List.mem_map_of_mem (f := Prod.fst) h
theorem off1 {a : LexA} {w : World} {npb : Nat} {pbs : List Value} {p n : Int} {tp tn : Tok} {q i : Addr} {o : Obj} (h : ∀ b ∈ a.adr, @LT.lt Nat _ b q) (hi : @LT.lt Nat _ q i) : ∀ r ∈ (q, o) :: a.led w npb pbs p n tp tn, r.1 ≠ i :=
  List.forall_mem_cons.mpr ⟨Nat.ne_of_lt hi, fun _ hr => Nat.ne_of_lt (Nat.lt_trans (h _ (led_in hr)) hi)⟩
theorem bp {p p2 : Nat} (hp : p < 2 ^ 20) (h : p2 ≤ p + 1002) : p2 < 2 ^ 30 := by omega
theorem bn {n n2 a b : Nat} (hn : n < 2 ^ 20) (hb : b ≤ 1000) (e : n2 + a = n + b) : n2 < 2 ^ 30 := by omega
theorem bnz {n n2 a b z : Nat} (hz : z = 0) (hn : n < 2 ^ 20) (hb : b ≤ 1000) (e : n2 + a = n + b) : n2 + z < 2 ^ 30 := by omega
theorem rle {xs : List Nat} {p c : Nat} {r : List Nat} (h : xs.drop p = c :: r) (hl : xs.length ≤ 1000) : r.length ≤ 1000 := by
  have := congrArg List.length h
  rw [List.length_drop, List.length_cons] at this; omega
theorem dlt {xs : List Nat} {p c : Nat} {r : List Nat} (h : xs.drop p = c :: r) (hl : xs.length ≤ 1000) : p + 1 ≤ 1000 := by
  have := congrArg List.length h
  rw [List.length_drop, List.length_cons] at this; omega
theorem st1 {p p2 : Nat} (h : p2 + 1 ≤ 1000) : p2 + 1 ≤ p + 1002 := by omega
theorem st2 {p p2 : Nat} (h : p2 + 1 ≤ 1000) : p2 + 1 + 1 ≤ p + 1002 := by omega
theorem st3 {p p2 : Nat} (h : p2 ≤ p + 1002) : p2 + 1 ≤ p + 1005 := by omega
theorem hai {acc r : List Nat} (h : acc.length ≤ 1) (h2 : r.length ≤ 1000) : acc.length + r.length ≤ 2000 := by omega
theorem hai2 {r : List Nat} (h2 : r.length ≤ 1000) : (List.take 1 r).length + r.tail.length ≤ 2000 := by rw [List.length_take, List.length_tail]; omega
theorem ac {acc r : List Nat} {c : Nat} (h : acc.length + (c :: r).length ≤ 2000) : (acc ++ [c]).length + r.length ≤ 2000 := by
  rw [List.length_append, List.length_singleton]; rw [List.length_cons] at h; omega
theorem ab {acc r : List Nat} {c : Nat} (h : acc.length + (c :: r).length ≤ 2000) : (acc ++ List.take 1 r).length + r.tail.length ≤ 2000 := by
  rw [List.length_append, List.length_take, List.length_tail]; rw [List.length_cons] at h; omega
theorem e_c {n a t z y : Nat} (hz : z = y) (e : n + (a + y) = t) : n + z + a = t := by omega
theorem e_z {n a t z : Nat} (hz : z = 0) (e : n + a = t) : n + z + a = t := by omega
theorem e_bs {n a t z y : Nat} (hz : z = 0) (e : n + (a + y) = t) : n + z + y + a = t := by omega
theorem tl_lt {c : Nat} {r : List Nat} : r.tail.length < (c :: r).length := by rw [List.length_tail, List.length_cons]; omega
abbrev JIn (lex : List Nat → List Nat → List Nat × List Nat × Nat) (a : LexA) (xt : Str) (w : World) (npb p n : Nat) (l : List Nat) (x it' q9 : Addr) (tkc : Tok) (k : Nat) (m' : Str → Option Value) (news' : List (Addr × Obj)) : Prop :=
  ∃ (l2 acc2 : List Nat) (p2 n2 : Nat) (tp2 tn2 ttk2 : Tok) (u2 : Str → Option Value), xt.cps.toList.drop p2 = l2 ∧ k = l2.length ∧ p2 ≤ p + 1002 ∧ acc2.length + l2.length ≤ 2000 ∧ (lex l2 acc2).1 = (lexT l).1 ∧ (lex l2 acc2).2.1 = (lexT l).2.1 ∧ n2 + (lex l2 acc2).2.2 = n + (lexT l).2.2 ∧ m' = (fun z : Str => if z = "self" then some (Value.ref x) else if z = "token" then some (Value.str (txt acc2) ttk2) else if z = "fiter" then some (Value.ref it') else u2 z) ∧ news' = (it', ciO #[.ref q9, .str (PySem.Str.ofString "") tkc, .bool false]) :: (q9, methodObj (.ref 56) (.ref x)) :: (a.led w npb [] p2 n2 tp2 tn2)
abbrev JOut (a : LexA) (xt : Str) (w : World) (npb p n : Nat) (l : List Nat) (x it' q9 : Addr) (tkc : Tok) (k : Nat) (m' : Str → Option Value) (news' : List (Addr × Obj)) : Prop :=
  ∃ (l' : List Nat) (p' n' : Nat) (tp' tn' ttk : Tok) (u : Str → Option Value), xt.cps.toList.drop p' = l' ∧ ((k = l'.length + 1 ∧ p' ≤ p + 1002 ∧ (lexT l').1 = (lexT l).1 ∧ (lexT l').2.1 = (lexT l).2.1 ∧ n' + (lexT l').2.2 = n + (lexT l).2.2 ∧ m' = (fun z : Str => if z = "self" then some (Value.ref x) else if z = "token" then some (Value.str (txt []) ttk) else if z = "fiter" then some (Value.ref it') else u z) ∧ news' = (it', ciO #[.ref q9, .str (PySem.Str.ofString "") tkc, .bool false]) :: (q9, methodObj (.ref 56) (.ref x)) :: (a.led w npb [] p' n' tp' tn')) ∨ (k = 0 ∧ l' = (lexT l).2.1 ∧ p' ≤ p + 1005 ∧ n' = n + (lexT l).2.2 ∧ m' = (fun z : Str => if z = "self" then some (Value.ref x) else if z = "token" then some (Value.str (txt (lexT l).1) ttk) else if z = "fiter" then some (Value.ref it') else u z) ∧ news' = (it', ciO #[.none, .none, .bool true]) :: (q9, methodObj (.ref 56) (.ref x)) :: (a.led w npb [] p' n' tp' tn')))
theorem c_get (w : World) (a : LexA) (hok : a.Ok w) (p n : Nat) (tp tn : Tok) (npb : Nat) (l : List Nat) (hl : a.xt.cps.toList.drop p = l) (hp : p < 2 ^ 20) (hn : n < 2 ^ 20)
    (loose : List Str) (mean : ExcName → Option Value) (mg mb : Str → Option Value)
    (dp un : Nat) (gd : Option (List Code)) (cn : Str) (cs : Scope) (a' : Addr) (ccd : Value) (cl : List (Str × Addr)) (outer : List Env) (A₀ : Around) (base h₀ : Heap) (L : Addr) (m : Str → Option Value) (s : Shared) (Q E : Value → Shared → Prop)
    (B : Below A₀ base outer h₀) (F : Fr h₀ L s.heap m) (X : (hd.heap_39 w.params).In h₀) (N : News h₀ L s.heap (a.led w npb [] p n tp tn)) (T : Top topProg loose mean mg mb h₀) (hk : cs.kind = .function)
    (hdp : dp + 8 < recursionLimit) (hun : un + 80 < cLine)
    (hret : ∀ (t tp' tn' : Tok) (p' : Nat) (h' : Heap) (tk' : Nat), Fr h₀ L h' m → a.xt.cps.toList.drop p' = (lexT l).2.1 → p' ≤ p + 1005 → News h₀ L h' (a.led w npb [] p' ((n + (lexT l).2.2 : Nat) : Int) tp' tn') → KeepBut s.heap h' a.adr →
      Q (.str (txt (lexT l).1) t) { s with heap := h', toks := tk' }) :
      wpAny (model PySem.Challenge.rw_wn0021_01.row.prog w) (ktrTop dp un gd cn cs L a' ccd cl outer) (call (.ref 63) [.ref a.x]) Q E s := by
  k_with_none
  w_top off
  k_with "hk exec For Name Name cons nil" => refine Hold.out ?_
  k_with "hk pyIter ref" => refine Hold.out ?_
  revert X; k_fill; intro X
  obtain ⟨pb, x, d, x2, d2, pb2, f, cc, lp, c2, c1, fd, co, o2, o1, a1, a2, a3, a4, a5, b1, b2, b3, b4, b5, b6, b7, nl, xt⟩ := a
  have hord := hok.1
  have hxt := hok.2.2
  dsimp only [LexA.led, LexA.adr] at N hret hord hxt hl ⊢
  refine wpAny_call ?_
  k_dflt (refine' call_keep ?k1 ?k2 ?k3 ?k4 ?k5 ?kA ?kF ?kK ?k6 ?kd ?k7 ?k8 ?k9 ?kB ?_ ?c5 ?c2 ?c3 ?c4; (case kA => exact rfl); (case kF => exact rfl); (case kK => exact hk); (case k1 => exact B); (case k2 => exact F); (case k3 => exact X); (case k4 => exact N); (case k5 => exact T); (case k6 => exact (X.keeps F.keep) _ _ (by k_is)); (case kd => exact rfl); (case k7 => exact codeRec_of (X.keeps F.keep) (by k_is)); (case k8 => ktr_room); (case k9 => exact BindsTo.of_eq rfl); (case kB => exact locs rfl); (case c2 => exact rfl); (case c3 => exact rfl); (case c4 => exact rfl); (case c5 => decide); k_whole; intro g' L' h' FG' F' N' B' X' T' l1; (try k_lt l1); (try dsimp only); (try k_lift B'); (try k_fold))
  k_with "mine iter" => (
    (with_reducible rename News _ _ _ _ => N9)
    k_dflt (refine call_iter2 (by assumption) N9 (N9.get (.head _)) ?_)
    intro it' h' F' N' l1
    (try k_lt l1))
  k_steps
  refine Hold.in ?_
  refine For_O ?_
  k_steps
  refine Hold.in ?_
  (with_reducible rename Fr _ _ _ _ => F9)
  (with_reducible rename News _ _ _ _ => N9)
  refine ci_iter (N9.get (.head _)) ?_
  rename_i tk8 h9 q9 h8 l8 h7
  have hAq : ∀ b ∈ LexA.adr ⟨pb, x, d, x2, d2, pb2, f, cc, lp, c2, c1, fd, co, o2, o1, a1, a2, a3, a4, a5, b1, b2, b3, b4, b5, b6, b7, nl, xt⟩, @LT.lt Nat _ b q9 := adr_lt l8
  have hqi : @LT.lt Nat _ q9 it' := l1.1
  clear l8 l1 hord
  (with_reducible rename (@LT.lt Nat _ pb L') ∧ _ => z1)
  clear z1
  refine loop_M (k₀ := l.length + 1) (JOut ⟨pb, x, d, x2, d2, pb2, f, cc, lp, c2, c1, fd, co, o2, o1, a1, a2, a3, a4, a5, b1, b2, b3, b4, b5, b6, b7, nl, xt⟩ xt w npb p n l x it' q9 (tk8 + 1 + 1 + 1)) (fr_at3 (x := "self") (v := .ref x) (x2 := "token") (v2 := .str (txt []) _) (x3 := "fiter") (v3 := .ref it') F9 rfl rfl rfl) N9
    ⟨l, p, n, _, _, _, _, hl, .inl ⟨rfl, Nat.le_add_right _ _, rfl, rfl, rfl, rfl, rfl⟩⟩ ?_
  have hxl : xt.cps.toList.length ≤ 1000 := by simpa using hxt
  have hLT : (lexT l).2.2 ≤ 1000 := by
    have h1 := lexT_count _ l (Nat.le_refl _)
    have h2 : l.count 10 ≤ l.length := List.count_le_length
    have h3 : l.length ≤ 1000 := by rw [← hl, List.length_drop]; omega
    omega
  clear F9 N9
  rintro k _ _ h tk ⟨l', p', n', tp', tn', ttk, u, hd', ⟨rfl, hC, e1, e2, e3, rfl, rfl⟩ | ⟨rfl, hR, hC, hN, rfl, rfl⟩⟩ F1 N1
  · dsimp only [LexA.led] at N1
    refine ci_next rfl (N1.get (.head _)) (N1.get (.tail _ (.head _))) ((X'.keeps F1.keep) _ _ (by k_is)) rfl ?_
    refine wpAny_call (method_call (N1.get (.tail _ (.head _))) ?_)
    refine c_rcC w ⟨pb, x, d, x2, d2, pb2, f, cc, lp, c2, c1, fd, co, o2, o1, a1, a2, a3, a4, a5, b1, b2, b3, b4, b5, b6, b7, nl, xt⟩ hok p' n' tp' tn' npb [] (bp hp hC) (bn hn hLT e3) _ _ _ _ _ _ _ _ _ _ _ _ _ _ _ _ _ _ _ _ _ B' F1 X' (fun r hr => N1 r (.tail _ (.tail _ hr))) T' rfl (by ktr_room) (by ktr_units) ?_
    intro t2 tp2 tn2 h2 tk2 F2 N2 kp2
    have hit2 := KeepBut.news (L := L') (rest := [(it', ciO #[.ref q9, .str (PySem.Str.ofString "") (tk8 + 1 + 1 + 1), .bool false]), (q9, methodObj (.ref 56) (.ref x))]) kp2 (fun r hr => N1 r (by rcases List.mem_cons.mp hr with rfl | hr; exact .head _; rw [List.mem_singleton.mp hr]; exact .tail _ (.head _))) (off2 hAq hqi)
    rw [hd'] at N2 ⊢
    refine ⟨_, _, rfl, hit2.get (.head _), hit2.get (.tail _ (.head _)), (X'.keeps F2.keep) _ _ (by k_is), ?_, ?_⟩
    · intro hne
      cases l' with
      | nil => exact absurd rfl hne
      | cons c r =>
        clear kp2 hne F1 N1
        have N' : News _ _ _ ((it', ciO #[.ref q9, .str (PySem.Str.ofString "") (tk8 + 1 + 1 + 1), .bool false]) :: (q9, methodObj (.ref 56) (.ref x)) :: (LexA.led ⟨pb, x, d, x2, d2, pb2, f, cc, lp, c2, c1, fd, co, o2, o1, a1, a2, a3, a4, a5, b1, b2, b3, b4, b5, b6, b7, nl, xt⟩ w npb [] ((p' + 1 : Nat) : Int) ((n' + nlOf [c] : Nat) : Int) tp2 tn2)) := fun q hq => by
          rcases List.mem_cons.mp hq with rfl | hq
          · exact hit2 _ (.head _)
          · rcases List.mem_cons.mp hq with rfl | hq
            · exact hit2 _ (.tail _ (.head _))
            · exact N2 _ hq
        clear N2 hit2
        dsimp only [LexA.led] at N'
        rw [show List.take 1 (c :: r) = [c] from rfl]
        k_with "mine call" => refine Hold.out ?_
        k_with "inplaceOp Add str str" => k_dflt (refine iadd_str ?_ (by rw [sizeLine_eq]; simp only [txt_length, List.length_singleton, List.length_nil, List.length_append, List.length_take]; omega))
        k_with "mine if" => (
          (with_reducible show wpAny _ _ (exec (Stmt.If (Expr.Compare _ _ [Expr.Constant (Const.str (PySem.Str.ofString "\\")) _ _] _) _ [] _) _) _ _ _)
          refine Hold.out ?_)
        k_steps
        · -- a quote
          have hw : ¬ isWs c = true := ws_no (by assumption)
          have hc : c = 34 := q_yes (by assumption)
          subst hc
          have hdI := drop_next hd'
          rw [lexT_q] at e1 e2 e3
          have hB1 := dlt hd' hxl
          have hBI : p' + 1 ≤ p + 1002 := st1 hB1
          have hlr := rle hd' hxl
          have haI : ([] : List Nat).length + r.length ≤ 2000 := hai (Nat.zero_le _) hlr
          have E1 := e1
          have E2 := e2
          have E3 : n' + nlOf [34] + (lexQ r []).2.2 = n + (lexT l).2.2 := e_z rfl e3
          clear e1 e2 e3
          k_with_none
          k_with "hk exec For Name Name cons nil" => refine Hold.out ?_
          k_with "hk pyIter ref" => refine Hold.out ?_
          refine Hold.in ?_
          refine For_O ?_
          k_steps
          refine Hold.in ?_
          (with_reducible rename Fr _ _ _ _ => F9)
          (with_reducible rename News _ _ _ _ => N9)
          refine ci_iter (N9.get (.head _)) ?_
          refine loop_M (k₀ := (r).length) (JIn lexQ ⟨pb, x, d, x2, d2, pb2, f, cc, lp, c2, c1, fd, co, o2, o1, a1, a2, a3, a4, a5, b1, b2, b3, b4, b5, b6, b7, nl, xt⟩ xt w npb p n l x it' q9 (tk8 + 1 + 1 + 1)) (fr_at3 (x := "self") (v := .ref x) (x2 := "token") (v2 := .str (txt []) _) (x3 := "fiter") (v3 := .ref it') F9 rfl rfl rfl) N9
            ⟨r, [], (p' + 1), (n' + nlOf [34]), _, _, _, _, hdI, rfl, hBI, haI, E1, E2, E3, rfl, rfl⟩ ?_
          clear F9 N9 hdI hBI haI E1 E2 E3
          rintro k _ _ h tk ⟨l2, acc2, p2, n2, tp2, tn2, ttk2, u2, hd2, rfl, hB, haI, E1, E2, E3, rfl, rfl⟩ F1 N1
          dsimp only [LexA.led] at N1
          refine ci_next rfl (N1.get (.head _)) (N1.get (.tail _ (.head _))) ((X'.keeps F1.keep) _ _ (by k_is)) rfl ?_
          refine wpAny_call (method_call (N1.get (.tail _ (.head _))) ?_)
          refine c_rcC w ⟨pb, x, d, x2, d2, pb2, f, cc, lp, c2, c1, fd, co, o2, o1, a1, a2, a3, a4, a5, b1, b2, b3, b4, b5, b6, b7, nl, xt⟩ hok p2 n2 tp2 tn2 npb [] (bp hp hB) (bn hn hLT E3) _ _ _ _ _ _ _ _ _ _ _ _ _ _ _ _ _ _ _ _ _ B' F1 X' (fun r hr => N1 r (.tail _ (.tail _ hr))) T' rfl (by ktr_room) (by ktr_units) ?_
          intro t2 tp2 tn2 h2 tk2 F2 N2 kp2
          have hit2 := KeepBut.news (L := L') (rest := [(it', ciO #[.ref q9, .str (PySem.Str.ofString "") (tk8 + 1 + 1 + 1), .bool false]), (q9, methodObj (.ref 56) (.ref x))]) kp2 (fun r hr => N1 r (by rcases List.mem_cons.mp hr with rfl | hr; exact .head _; rw [List.mem_singleton.mp hr]; exact .tail _ (.head _))) (off2 hAq hqi)
          rw [hd2] at N2 ⊢
          refine ⟨_, _, rfl, hit2.get (.head _), hit2.get (.tail _ (.head _)), (X'.keeps F2.keep) _ _ (by k_is), ?_, ?_⟩
          · intro hne
            cases l2 with
            | nil => exact absurd rfl hne
            | cons c r =>
              clear kp2 hne F1 N1
              have N' : News _ _ _ ((it', ciO #[.ref q9, .str (PySem.Str.ofString "") (tk8 + 1 + 1 + 1), .bool false]) :: (q9, methodObj (.ref 56) (.ref x)) :: (LexA.led ⟨pb, x, d, x2, d2, pb2, f, cc, lp, c2, c1, fd, co, o2, o1, a1, a2, a3, a4, a5, b1, b2, b3, b4, b5, b6, b7, nl, xt⟩ w npb [] ((p2 + 1 : Nat) : Int) ((n2 + nlOf [c] : Nat) : Int) tp2 tn2)) := fun q hq => by
                rcases List.mem_cons.mp hq with rfl | hq
                · exact hit2 _ (.head _)
                · rcases List.mem_cons.mp hq with rfl | hq
                  · exact hit2 _ (.tail _ (.head _))
                  · exact N2 _ hq
              clear N2 hit2
              dsimp only [LexA.led] at N'
              rw [show List.take 1 (c :: r) = [c] from rfl]
              have hB1 := dlt hd2 hxl
              have hd3 := drop_next hd2
              have hn0 : nlOf [c] = nl1 c := nlOf_one c
              k_with "mine call" => refine Hold.out ?_
              k_with "inplaceOp Add str str" => k_dflt (refine iadd_str ?_ (by rw [sizeLine_eq]; simp only [txt_length, List.length_singleton, List.length_nil, List.length_append, List.length_take]; omega))
              k_steps
              · refine WEnd.ret ?_
                have hc : c = 34 := q_yes (by assumption)
                subst hc
                rw [lexQ_q] at E1 E2 E3
                dsimp only at E1 E2 E3
                have hz : nl1 34 = 0 := rfl
                have hdF : xt.cps.toList.drop (p2 + 1) = (lexT l).2.1 := by rw [← E2]; exact hd3
                (try dsimp only)
                refine WEnd.ret ?_
                (try dsimp only)
                k_steps
                rw [E1]
                (with_reducible rename KeepBut _ _ _ => kpF)
                (with_reducible rename News h₀ _ _ _ => NF)
                (with_reducible rename Fr h₀ _ _ _ => FF)
                have hNF : (n2 + nlOf [34]) = n + (lexT l).2.2 := E3
                rw [hNF] at NF
                exact hret ttk2 _ _ (p2 + 1) _ _ FF hdF (st3 hB) (fun r hr => NF r (.tail _ (.tail _ hr))) kpF
              · have hb : c = 92 := b_yes (by assumption)
                subst hb
                have hz : nl1 92 = 0 := rfl
                refine Hold.in ?_
                (with_reducible rename Fr _ _ _ _ => F9)
                (with_reducible rename News _ _ _ _ => N9)
                refine wpAny_call ?_
                refine c_rcC w ⟨pb, x, d, x2, d2, pb2, f, cc, lp, c2, c1, fd, co, o2, o1, a1, a2, a3, a4, a5, b1, b2, b3, b4, b5, b6, b7, nl, xt⟩ hok (p2 + 1) (n2 + nlOf [92]) tp2 tn2 npb [] (bp hp (st1 hB1)) (bnz rfl hn hLT E3) _ _ _ _ _ _ _ _ _ _ _ _ _ _ _ _ _ _ _ _ _ B' F9 X' (fun r hr => N9 r (.tail _ (.tail _ hr))) T' rfl (by ktr_room) (by ktr_units) ?_
                intro t2 tp2 tn2 h2 tk2 F2 N2 kp2
                have hit2 := KeepBut.news (L := L') (rest := [(it', ciO #[.ref q9, .str (PySem.Str.ofString "") (tk8 + 1 + 1 + 1), .bool false]), (q9, methodObj (.ref 56) (.ref x))]) kp2 (fun r hr => N9 r (by rcases List.mem_cons.mp hr with rfl | hr; exact .head _; rw [List.mem_singleton.mp hr]; exact .tail _ (.head _))) (off2 hAq hqi)
                rw [hd3] at N2 ⊢
                clear kp2 F9 N9
                have N' : News _ _ _ ((it', ciO #[.ref q9, .str (PySem.Str.ofString "") (tk8 + 1 + 1 + 1), .bool false]) :: (q9, methodObj (.ref 56) (.ref x)) :: (LexA.led ⟨pb, x, d, x2, d2, pb2, f, cc, lp, c2, c1, fd, co, o2, o1, a1, a2, a3, a4, a5, b1, b2, b3, b4, b5, b6, b7, nl, xt⟩ w npb [] (((p2 + 1) + 1 : Nat) : Int) (((n2 + nlOf [92]) + nlOf (List.take 1 r) : Nat) : Int) tp2 tn2)) := fun q hq => by
                  rcases List.mem_cons.mp hq with rfl | hq
                  · exact hit2 _ (.head _)
                  · rcases List.mem_cons.mp hq with rfl | hq
                    · exact hit2 _ (.tail _ (.head _))
                    · exact N2 _ hq
                clear N2 hit2
                dsimp only [LexA.led] at N'
                rw [lexQ_bs] at E1 E2 E3
                dsimp only at E1 E2 E3
                k_with "mine call" => refine Hold.out ?_
                k_with "inplaceOp Add str str" => k_dflt (refine iadd_str ?_ (by rw [sizeLine_eq]; simp only [txt_length, List.length_singleton, List.length_nil, List.length_append, List.length_take]; omega))
                k_steps
                (with_reducible rename Fr _ _ _ _ => F9)
                (with_reducible rename News _ _ _ _ => N9)
                dsimp only at F9 ⊢
                rw [txt_append] at F9
                exact WEnd.next (k' := r.tail.length) tl_lt (fr_at3 (x := "self") (v := .ref x) (x2 := "token") (v2 := .str (txt (acc2 ++ List.take 1 r)) _) (x3 := "fiter") (v3 := .ref it') F9 rfl rfl rfl) N9 ⟨r.tail, acc2 ++ List.take 1 r, p2 + 1 + 1, n2 + nlOf [92] + nlOf (List.take 1 r), _, _, _, _, drop_next2 hd3, rfl, st2 hB1, ab haI, E1, E2, e_bs rfl E3, rfl, rfl⟩
              · have hb : c ≠ 92 := b_no (by assumption)
                have hq : c ≠ 34 := q_no (by assumption)
                rw [lexQ_c hq hb] at E1 E2 E3
                (try dsimp only at E1 E2 E3)
                (with_reducible rename Fr _ _ _ _ => F9)
                (with_reducible rename News _ _ _ _ => N9)
                dsimp only at F9 ⊢
                rw [txt_append] at F9
                exact WEnd.next (k' := r.length) (Nat.lt_succ_self _) (fr_at3 (x := "self") (v := .ref x) (x2 := "token") (v2 := .str (txt (acc2 ++ [c])) _) (x3 := "fiter") (v3 := .ref it') F9 rfl rfl rfl) N9 ⟨r, acc2 ++ [c], p2 + 1, n2 + nlOf [c], _, _, _, _, hd3, rfl, st1 hB1, ac haI, E1, E2, e_c hn0 E3, rfl, rfl⟩
          · intro hy h' hit3 kp3
            have hl0 : l2 = [] := by
              cases l2 with
              | nil => rfl
              | cons c r => exact absurd hy (by rw [show List.take 1 (c :: r) = [c] from rfl]; intro e; have := congrArg (fun z : PySem.Str => z.cps.size) e; exact absurd this (show ¬ ((1 : Nat) = 0) by decide))
            subst hl0
            rw [show nlOf (List.take 1 ([] : List Nat)) = 0 from rfl, Nat.add_zero] at N2
            have N' : News _ _ _ ((it', ciO #[.ref q9, .str (PySem.Str.ofString "") (tk8 + 1 + 1 + 1), .bool false]) :: (q9, methodObj (.ref 56) (.ref x)) :: (LexA.led ⟨pb, x, d, x2, d2, pb2, f, cc, lp, c2, c1, fd, co, o2, o1, a1, a2, a3, a4, a5, b1, b2, b3, b4, b5, b6, b7, nl, xt⟩ w npb [] ((p2 + 1 : Nat) : Int) ((n2 : Nat) : Int) tp2 tn2)) := fun q hq => by
              rcases List.mem_cons.mp hq with rfl | hq
              · exact hit2 _ (.head _)
              · rcases List.mem_cons.mp hq with rfl | hq
                · exact hit2 _ (.tail _ (.head _))
                · exact N2 _ hq
            have F' := end_fr F2 N' kp3
            have N'' := end_news N' hit3 kp3 (off1 hAq hqi)
            have hE1 : acc2 = (lexT l).1 := E1
            have hE2 : [] = (lexT l).2.1 := E2
            have hE3 : n2 = n + (lexT l).2.2 := E3
            clear N' N2 hit2 F2 F1 N1 kp2 E1 E2 E3
            dsimp only [LexA.led] at N''
            dsimp only
            k_steps
            (with_reducible rename Fr _ _ _ _ => F9)
            (with_reducible rename News _ _ _ _ => N9)
            (try dsimp only)
            rw [hE1] at F9
            rw [hE3] at N9
            exact WEnd.next (k' := 0) (Nat.succ_pos _) (fr_at3 (x := "self") (v := .ref x) (x2 := "token") (v2 := .str (txt (lexT l).1) _) (x3 := "fiter") (v3 := .ref it') F9 rfl rfl rfl) N9 ⟨[], p2 + 1, n + (lexT l).2.2, _, _, _, _, drop_next2 hd2, .inr ⟨rfl, hE2, st3 hB, rfl, rfl, rfl⟩⟩
        · -- another sign
          refine Hold.in ?_
          k_with_none
          k_with "hk exec For Name Name cons nil" => refine Hold.out ?_
          k_with "hk pyIter ref" => refine Hold.out ?_
          have hw : ¬ isWs c = true := ws_no (by assumption)
          have hq : c ≠ 34 := q_no (by assumption)
          have hB1 := dlt hd' hxl
          have hlr := rle hd' hxl
          refine wpAny_mono (show wpAny _ _ _ (fun fw s' => Hold (fw = Flow.next ∧ ∃ (dd r2 : List Nat) (p2 n2 : Nat) (tp2 tn2 tch ttk2 : Tok) (u2 : Str → Option Value) (hh : Heap) (kk : Nat), s' = { s with heap := hh, toks := kk } ∧ Fr g' L' hh (fun z : Str => if z = "ch" then some (Value.str (txt dd) tch) else if z = "self" then some (Value.ref x) else if z = "token" then some (Value.str (txt []) ttk2) else if z = "fiter" then some (Value.ref it') else u2 z) ∧ News g' L' hh ((it', ciO #[.ref q9, .str (PySem.Str.ofString "") (tk8 + 1 + 1 + 1), .bool false]) :: (q9, methodObj (.ref 56) (.ref x)) :: (LexA.led ⟨pb, x, d, x2, d2, pb2, f, cc, lp, c2, c1, fd, co, o2, o1, a1, a2, a3, a4, a5, b1, b2, b3, b4, b5, b6, b7, nl, xt⟩ w npb [] p2 n2 tp2 tn2)) ∧ xt.cps.toList.drop p2 = r2 ∧ p2 ≤ p + 1002 ∧ dd.length + r2.length ≤ 2000 ∧ (lexP r2 dd).1 = (lexT l).1 ∧ (lexP r2 dd).2.1 = (lexT l).2.1 ∧ n2 + (lexP r2 dd).2.2 = n + (lexT l).2.2)) _ _ from ?cut) (fun fw s' hm => ?rest) (fun _ _ e => e)
          case cut =>
            k_with "mine call" => refine Hold.out ?_
            k_with "inplaceOp Add str str" => k_dflt (refine iadd_str ?_ (by rw [sizeLine_eq]; simp only [txt_length, List.length_singleton, List.length_nil, List.length_append, List.length_take]; omega))
            k_steps
            · have hb : c = 92 := b_yes (by assumption)
              subst hb
              have hz : nlOf [92] = 0 := rfl
              have hd3 := drop_next hd'
              refine Hold.in ?_
              (with_reducible rename Fr _ _ _ _ => F9)
              (with_reducible rename News _ _ _ _ => N9)
              refine wpAny_call ?_
              refine c_rcC w ⟨pb, x, d, x2, d2, pb2, f, cc, lp, c2, c1, fd, co, o2, o1, a1, a2, a3, a4, a5, b1, b2, b3, b4, b5, b6, b7, nl, xt⟩ hok (p' + 1) (n' + nlOf [92]) tp2 tn2 npb [] (bp hp (st1 hB1)) (bnz rfl hn hLT e3) _ _ _ _ _ _ _ _ _ _ _ _ _ _ _ _ _ _ _ _ _ B' F9 X' (fun r hr => N9 r (.tail _ (.tail _ hr))) T' rfl (by ktr_room) (by ktr_units) ?_
              intro t2 tp2 tn2 h2 tk2 F2 N2 kp2
              have hit2 := KeepBut.news (L := L') (rest := [(it', ciO #[.ref q9, .str (PySem.Str.ofString "") (tk8 + 1 + 1 + 1), .bool false]), (q9, methodObj (.ref 56) (.ref x))]) kp2 (fun r hr => N9 r (by rcases List.mem_cons.mp hr with rfl | hr; exact .head _; rw [List.mem_singleton.mp hr]; exact .tail _ (.head _))) (off2 hAq hqi)
              rw [hd3] at N2 ⊢
              clear kp2 F9 N9
              have N' : News _ _ _ ((it', ciO #[.ref q9, .str (PySem.Str.ofString "") (tk8 + 1 + 1 + 1), .bool false]) :: (q9, methodObj (.ref 56) (.ref x)) :: (LexA.led ⟨pb, x, d, x2, d2, pb2, f, cc, lp, c2, c1, fd, co, o2, o1, a1, a2, a3, a4, a5, b1, b2, b3, b4, b5, b6, b7, nl, xt⟩ w npb [] (((p' + 1) + 1 : Nat) : Int) (((n' + nlOf [92]) + nlOf (List.take 1 r) : Nat) : Int) tp2 tn2)) := fun q hq => by
                rcases List.mem_cons.mp hq with rfl | hq
                · exact hit2 _ (.head _)
                · rcases List.mem_cons.mp hq with rfl | hq
                  · exact hit2 _ (.tail _ (.head _))
                  · exact N2 _ hq
              clear N2 hit2
              dsimp only [LexA.led] at N'
              rw [lexT_bs] at e1 e2 e3
              dsimp only at e1 e2 e3
              have hdI := drop_next2 hd3
              have hBI : p' + 1 + 1 ≤ p + 1002 := st2 hB1
              have haI : (List.take 1 r).length + r.tail.length ≤ 2000 := hai2 hlr
              have E1 := e1
              have E2 := e2
              have E3 : n' + nlOf [92] + nlOf (List.take 1 r) + (lexP r.tail (List.take 1 r)).2.2 = n + (lexT l).2.2 := e_bs rfl e3
              clear e1 e2 e3
              k_steps
              (with_reducible rename Fr _ _ _ _ => F9)
              (with_reducible rename News _ _ _ _ => N9)
              refine Hold.in ?_
              exact ⟨rfl, List.take 1 r, r.tail, p' + 1 + 1, n' + nlOf [92] + nlOf (List.take 1 r), _, _, _, _, _, _, _, rfl, fr_at (x := "ch") (v := .str (txt (List.take 1 r)) _) (fr_at3 (x := "self") (v := .ref x) (x2 := "token") (v2 := .str (txt []) _) (x3 := "fiter") (v3 := .ref it') F9 rfl rfl rfl) rfl, N9, hdI, hBI, haI, E1, E2, E3⟩
            · have hb : c ≠ 92 := b_no (by assumption)
              have hz : nlOf [c] = 0 := (nlOf_one c).trans (nl1_ws hw)
              have hdI := drop_next hd'
              rw [lexT_c hw hq hb] at e1 e2 e3
              have hBI : p' + 1 ≤ p + 1002 := st1 hB1
              have haI : ([c] : List Nat).length + r.length ≤ 2000 := hai (Nat.le_refl _) hlr
              have E1 := e1
              have E2 := e2
              have E3 : n' + nlOf [c] + (lexP r [c]).2.2 = n + (lexT l).2.2 := e_z hz e3
              clear e1 e2 e3
              (with_reducible rename Fr _ _ _ _ => F9)
              (with_reducible rename News _ _ _ _ => N9)
              refine Hold.in ?_
              exact ⟨rfl, [c], r, p' + 1, n' + nlOf [c], _, _, _, _, _, _, _, rfl, fr_at (x := "ch") (v := .str (txt ([c])) _) (fr_at3 (x := "self") (v := .ref x) (x2 := "token") (v2 := .str (txt []) _) (x3 := "fiter") (v3 := .ref it') F9 rfl rfl rfl) rfl, N9, hdI, hBI, haI, E1, E2, E3⟩
          case rest =>
            obtain ⟨rfl, d0, r2, p3, n3, tp3, tn3, tch, ttk3, u3, hh, kk, rfl, F3, N3, hdI, hBI, haI, E1, E2, E3⟩ := Hold.out hm
            (with_reducible rename Fr _ _ _ _ => F3')
            dsimp only [LexA.led] at N3
            dsimp only
            clear e1 e2 e3
            k_with "mine call" => refine Hold.out ?_
            k_with "inplaceOp Add str str" => k_dflt (refine iadd_str ?_ (by rw [sizeLine_eq]; simp only [txt_length, List.length_singleton, List.length_nil, List.length_append, List.length_take]; omega))
            k_steps
            k_with_none
            k_with "hk exec For Name Name cons nil" => refine Hold.out ?_
            k_with "hk pyIter ref" => refine Hold.out ?_
            refine Hold.in ?_
            refine For_O ?_
            k_steps
            refine Hold.in ?_
            (with_reducible rename Fr _ _ _ _ => F9)
            (with_reducible rename News _ _ _ _ => N9)
            (try dsimp only at F9)
            rw [txt_append, List.nil_append] at F9
            refine ci_iter (N9.get (.head _)) ?_
            refine loop_M (k₀ := (r2).length) (JIn lexP ⟨pb, x, d, x2, d2, pb2, f, cc, lp, c2, c1, fd, co, o2, o1, a1, a2, a3, a4, a5, b1, b2, b3, b4, b5, b6, b7, nl, xt⟩ xt w npb p n l x it' q9 (tk8 + 1 + 1 + 1)) (fr_at3 (x := "self") (v := .ref x) (x2 := "token") (v2 := .str (txt d0) _) (x3 := "fiter") (v3 := .ref it') F9 rfl rfl rfl) N9
              ⟨r2, d0, p3, n3, _, _, _, _, hdI, rfl, hBI, haI, E1, E2, E3, rfl, rfl⟩ ?_
            clear F9 N9 hdI hBI haI E1 E2 E3
            rintro k _ _ h tk ⟨l2, acc2, p2, n2, tp2, tn2, ttk2, u2, hd2, rfl, hB, haI, E1, E2, E3, rfl, rfl⟩ F1 N1
            dsimp only [LexA.led] at N1
            refine ci_next rfl (N1.get (.head _)) (N1.get (.tail _ (.head _))) ((X'.keeps F1.keep) _ _ (by k_is)) rfl ?_
            refine wpAny_call (method_call (N1.get (.tail _ (.head _))) ?_)
            refine c_rcC w ⟨pb, x, d, x2, d2, pb2, f, cc, lp, c2, c1, fd, co, o2, o1, a1, a2, a3, a4, a5, b1, b2, b3, b4, b5, b6, b7, nl, xt⟩ hok p2 n2 tp2 tn2 npb [] (bp hp hB) (bn hn hLT E3) _ _ _ _ _ _ _ _ _ _ _ _ _ _ _ _ _ _ _ _ _ B' F1 X' (fun r hr => N1 r (.tail _ (.tail _ hr))) T' rfl (by ktr_room) (by ktr_units) ?_
            intro t2 tp2 tn2 h2 tk2 F2 N2 kp2
            have hit2 := KeepBut.news (L := L') (rest := [(it', ciO #[.ref q9, .str (PySem.Str.ofString "") (tk8 + 1 + 1 + 1), .bool false]), (q9, methodObj (.ref 56) (.ref x))]) kp2 (fun r hr => N1 r (by rcases List.mem_cons.mp hr with rfl | hr; exact .head _; rw [List.mem_singleton.mp hr]; exact .tail _ (.head _))) (off2 hAq hqi)
            rw [hd2] at N2 ⊢
            refine ⟨_, _, rfl, hit2.get (.head _), hit2.get (.tail _ (.head _)), (X'.keeps F2.keep) _ _ (by k_is), ?_, ?_⟩
            · intro hne
              cases l2 with
              | nil => exact absurd rfl hne
              | cons c r =>
                clear kp2 hne F1 N1
                have N' : News _ _ _ ((it', ciO #[.ref q9, .str (PySem.Str.ofString "") (tk8 + 1 + 1 + 1), .bool false]) :: (q9, methodObj (.ref 56) (.ref x)) :: (LexA.led ⟨pb, x, d, x2, d2, pb2, f, cc, lp, c2, c1, fd, co, o2, o1, a1, a2, a3, a4, a5, b1, b2, b3, b4, b5, b6, b7, nl, xt⟩ w npb [] ((p2 + 1 : Nat) : Int) ((n2 + nlOf [c] : Nat) : Int) tp2 tn2)) := fun q hq => by
                  rcases List.mem_cons.mp hq with rfl | hq
                  · exact hit2 _ (.head _)
                  · rcases List.mem_cons.mp hq with rfl | hq
                    · exact hit2 _ (.tail _ (.head _))
                    · exact N2 _ hq
                clear N2 hit2
                dsimp only [LexA.led] at N'
                rw [show List.take 1 (c :: r) = [c] from rfl]
                have hB1 := dlt hd2 hxl
                have hd3 := drop_next hd2
                have hn0 : nlOf [c] = nl1 c := nlOf_one c
                k_with "mine call" => refine Hold.out ?_
                k_with "inplaceOp Add str str" => k_dflt (refine iadd_str ?_ (by rw [sizeLine_eq]; simp only [txt_length, List.length_singleton, List.length_nil, List.length_append, List.length_take]; omega))
                k_steps
                · have hb : c = 92 := b_yes (by assumption)
                  subst hb
                  have hz : nl1 92 = 0 := rfl
                  refine Hold.in ?_
                  (with_reducible rename Fr _ _ _ _ => F9)
                  (with_reducible rename News _ _ _ _ => N9)
                  refine wpAny_call ?_
                  refine c_rcC w ⟨pb, x, d, x2, d2, pb2, f, cc, lp, c2, c1, fd, co, o2, o1, a1, a2, a3, a4, a5, b1, b2, b3, b4, b5, b6, b7, nl, xt⟩ hok (p2 + 1) (n2 + nlOf [92]) tp2 tn2 npb [] (bp hp (st1 hB1)) (bnz rfl hn hLT E3) _ _ _ _ _ _ _ _ _ _ _ _ _ _ _ _ _ _ _ _ _ B' F9 X' (fun r hr => N9 r (.tail _ (.tail _ hr))) T' rfl (by ktr_room) (by ktr_units) ?_
                  intro t2 tp2 tn2 h2 tk2 F2 N2 kp2
                  have hit2 := KeepBut.news (L := L') (rest := [(it', ciO #[.ref q9, .str (PySem.Str.ofString "") (tk8 + 1 + 1 + 1), .bool false]), (q9, methodObj (.ref 56) (.ref x))]) kp2 (fun r hr => N9 r (by rcases List.mem_cons.mp hr with rfl | hr; exact .head _; rw [List.mem_singleton.mp hr]; exact .tail _ (.head _))) (off2 hAq hqi)
                  rw [hd3] at N2 ⊢
                  clear kp2 F9 N9
                  have N' : News _ _ _ ((it', ciO #[.ref q9, .str (PySem.Str.ofString "") (tk8 + 1 + 1 + 1), .bool false]) :: (q9, methodObj (.ref 56) (.ref x)) :: (LexA.led ⟨pb, x, d, x2, d2, pb2, f, cc, lp, c2, c1, fd, co, o2, o1, a1, a2, a3, a4, a5, b1, b2, b3, b4, b5, b6, b7, nl, xt⟩ w npb [] (((p2 + 1) + 1 : Nat) : Int) (((n2 + nlOf [92]) + nlOf (List.take 1 r) : Nat) : Int) tp2 tn2)) := fun q hq => by
                    rcases List.mem_cons.mp hq with rfl | hq
                    · exact hit2 _ (.head _)
                    · rcases List.mem_cons.mp hq with rfl | hq
                      · exact hit2 _ (.tail _ (.head _))
                      · exact N2 _ hq
                  clear N2 hit2
                  dsimp only [LexA.led] at N'
                  rw [lexP_bs] at E1 E2 E3
                  dsimp only at E1 E2 E3
                  k_with "mine call" => refine Hold.out ?_
                  k_with "inplaceOp Add str str" => k_dflt (refine iadd_str ?_ (by rw [sizeLine_eq]; simp only [txt_length, List.length_singleton, List.length_nil, List.length_append, List.length_take]; omega))
                  k_steps
                  (with_reducible rename Fr _ _ _ _ => F9)
                  (with_reducible rename News _ _ _ _ => N9)
                  dsimp only at F9 ⊢
                  rw [txt_append] at F9
                  exact WEnd.next (k' := r.tail.length) tl_lt (fr_at3 (x := "self") (v := .ref x) (x2 := "token") (v2 := .str (txt (acc2 ++ List.take 1 r)) _) (x3 := "fiter") (v3 := .ref it') F9 rfl rfl rfl) N9 ⟨r.tail, acc2 ++ List.take 1 r, p2 + 1 + 1, n2 + nlOf [92] + nlOf (List.take 1 r), _, _, _, _, drop_next2 hd3, rfl, st2 hB1, ab haI, E1, E2, e_bs rfl E3, rfl, rfl⟩
                · have hb : c ≠ 92 := b_no (by assumption)
                  have hw : ¬ isWs c = true := ws_no (by assumption)
                  have hz := nl1_ws hw
                  rw [lexP_c hw hb] at E1 E2 E3
                  (try dsimp only at E1 E2 E3)
                  (with_reducible rename Fr _ _ _ _ => F9)
                  (with_reducible rename News _ _ _ _ => N9)
                  dsimp only at F9 ⊢
                  rw [txt_append] at F9
                  exact WEnd.next (k' := r.length) (Nat.lt_succ_self _) (fr_at3 (x := "self") (v := .ref x) (x2 := "token") (v2 := .str (txt (acc2 ++ [c])) _) (x3 := "fiter") (v3 := .ref it') F9 rfl rfl rfl) N9 ⟨r, acc2 ++ [c], p2 + 1, n2 + nlOf [c], _, _, _, _, hd3, rfl, st1 hB1, ac haI, E1, E2, e_z (hn0.trans hz) E3, rfl, rfl⟩
                · refine WEnd.ret ?_
                  have hw : isWs c = true := ws_yes (by assumption)
                  rw [lexP_ws hw] at E1 E2 E3
                  dsimp only at E1 E2 E3
                  have hdF : xt.cps.toList.drop (p2 + 1) = (lexT l).2.1 := by rw [← E2]; exact hd3
                  (try dsimp only)
                  refine WEnd.ret ?_
                  (try dsimp only)
                  k_steps
                  rw [E1]
                  (with_reducible rename KeepBut _ _ _ => kpF)
                  (with_reducible rename News h₀ _ _ _ => NF)
                  (with_reducible rename Fr h₀ _ _ _ => FF)
                  have hNF : (n2 + nlOf [c]) = n + (lexT l).2.2 := (by rw [hn0]; exact E3)
                  rw [hNF] at NF
                  exact hret ttk2 _ _ (p2 + 1) _ _ FF hdF (st3 hB) (fun r hr => NF r (.tail _ (.tail _ hr))) kpF
            · intro hy h' hit3 kp3
              have hl0 : l2 = [] := by
                cases l2 with
                | nil => rfl
                | cons c r => exact absurd hy (by rw [show List.take 1 (c :: r) = [c] from rfl]; intro e; have := congrArg (fun z : PySem.Str => z.cps.size) e; exact absurd this (show ¬ ((1 : Nat) = 0) by decide))
              subst hl0
              rw [show nlOf (List.take 1 ([] : List Nat)) = 0 from rfl, Nat.add_zero] at N2
              have N' : News _ _ _ ((it', ciO #[.ref q9, .str (PySem.Str.ofString "") (tk8 + 1 + 1 + 1), .bool false]) :: (q9, methodObj (.ref 56) (.ref x)) :: (LexA.led ⟨pb, x, d, x2, d2, pb2, f, cc, lp, c2, c1, fd, co, o2, o1, a1, a2, a3, a4, a5, b1, b2, b3, b4, b5, b6, b7, nl, xt⟩ w npb [] ((p2 + 1 : Nat) : Int) ((n2 : Nat) : Int) tp2 tn2)) := fun q hq => by
                rcases List.mem_cons.mp hq with rfl | hq
                · exact hit2 _ (.head _)
                · rcases List.mem_cons.mp hq with rfl | hq
                  · exact hit2 _ (.tail _ (.head _))
                  · exact N2 _ hq
              have F' := end_fr F2 N' kp3
              have N'' := end_news N' hit3 kp3 (off1 hAq hqi)
              have hE1 : acc2 = (lexT l).1 := E1
              have hE2 : [] = (lexT l).2.1 := E2
              have hE3 : n2 = n + (lexT l).2.2 := E3
              clear N' N2 hit2 F2 F1 N1 kp2 E1 E2 E3
              dsimp only [LexA.led] at N''
              dsimp only
              k_steps
              (with_reducible rename Fr _ _ _ _ => F9)
              (with_reducible rename News _ _ _ _ => N9)
              (try dsimp only)
              rw [hE1] at F9
              rw [hE3] at N9
              exact WEnd.next (k' := 0) (Nat.succ_pos _) (fr_at3 (x := "self") (v := .ref x) (x2 := "token") (v2 := .str (txt (lexT l).1) _) (x3 := "fiter") (v3 := .ref it') F9 rfl rfl rfl) N9 ⟨[], p2 + 1, n + (lexT l).2.2, _, _, _, _, drop_next2 hd2, .inr ⟨rfl, hE2, st3 hB, rfl, rfl, rfl⟩⟩
        · have hw : isWs c = true := ws_yes (by assumption)
          dsimp only
          (with_reducible rename Fr _ _ _ _ => F9)
          (with_reducible rename News _ _ _ _ => N9)
          rw [lexT_ws hw] at e1 e2 e3
          dsimp only at e1 e2 e3
          have hn1 : nlOf [c] = nl1 c := nlOf_one c
          exact WEnd.cont (k' := r.length + 1) (Nat.lt_succ_self _) (fr_at3 (x := "self") (v := .ref x) (x2 := "token") (v2 := .str (txt []) _) (x3 := "fiter") (v3 := .ref it') F9 rfl rfl rfl) N9 ⟨r, p' + 1, n' + nlOf [c], _, _, _, _, drop_next hd', .inl ⟨rfl, st1 (dlt hd' hxl), e1, e2, e_c hn1 e3, rfl, rfl⟩⟩
    · intro hy h' hit3 kp3
      have hl0 : l' = [] := by
        cases l' with
        | nil => rfl
        | cons c r => exact absurd hy (by rw [show List.take 1 (c :: r) = [c] from rfl]; intro e; have := congrArg (fun z : PySem.Str => z.cps.size) e; exact absurd this (show ¬ ((1 : Nat) = 0) by decide))
      subst hl0
      rw [show nlOf (List.take 1 ([] : List Nat)) = 0 from rfl, Nat.add_zero] at N2
      have N' : News _ _ _ ((it', ciO #[.ref q9, .str (PySem.Str.ofString "") (tk8 + 1 + 1 + 1), .bool false]) :: (q9, methodObj (.ref 56) (.ref x)) :: (LexA.led ⟨pb, x, d, x2, d2, pb2, f, cc, lp, c2, c1, fd, co, o2, o1, a1, a2, a3, a4, a5, b1, b2, b3, b4, b5, b6, b7, nl, xt⟩ w npb [] ((p' + 1 : Nat) : Int) ((n' : Nat) : Int) tp2 tn2)) := fun q hq => by
        rcases List.mem_cons.mp hq with rfl | hq
        · exact hit2 _ (.head _)
        · rcases List.mem_cons.mp hq with rfl | hq
          · exact hit2 _ (.tail _ (.head _))
          · exact N2 _ hq
      have F' := end_fr F2 N' kp3
      have N'' := end_news N' hit3 kp3 (off1 hAq hqi)
      have hE1 : [] = (lexT l).1 := e1
      have hE2 : [] = (lexT l).2.1 := e2
      have hE3 : n' = n + (lexT l).2.2 := e3
      have hdF : xt.cps.toList.drop (p' + 1) = (lexT l).2.1 := by rw [← hE2]; exact drop_next2 hd'
      clear N' N2 hit2 F2 F1 N1 kp2 e1 e2 e3
      dsimp only [LexA.led] at N''
      dsimp only
      k_steps
      rw [hE1]
      (with_reducible rename KeepBut _ _ _ => kpF)
      (with_reducible rename News h₀ _ _ _ => NF)
      (with_reducible rename Fr h₀ _ _ _ => FF)
      have hNF : n' = n + (lexT l).2.2 := hE3
      rw [hNF] at NF
      exact hret ttk _ _ (p' + 1) _ _ FF hdF (st3 hC) (fun r hr => NF r (.tail _ (.tail _ hr))) kpF
  · dsimp only [LexA.led] at N1
    refine ci_done rfl (N1.get (.head _)) fun h' kp3 => ?_
    have F' := F1.keeps kp3
    have N' : News _ _ _ _ := fun r hr => ⟨kp3 _ _ (N1 r hr).1, (N1 r hr).2⟩
    have hdF : xt.cps.toList.drop p' = (lexT l).2.1 := by rw [← hR]; exact hd'
    clear F1 N1
    dsimp only
    k_steps
    (with_reducible rename KeepBut _ _ _ => kpF)
    (with_reducible rename News h₀ _ _ _ => NF)
    (with_reducible rename Fr h₀ _ _ _ => FF)
    have hNF : n' = n + (lexT l).2.2 := hN
    rw [hNF] at NF
    exact hret ttk _ _ p' _ _ FF hdF hC (fun r hr => NF r (.tail _ (.tail _ hr))) kpF
end
section
theorem c_pop (w : World) (a : LexA) (hok : a.Ok w) (p n : Int) (tp tn : Tok) (npb : Nat) (l : List Nat) (tl : Tok) (rest : List Value) (hrs : rest.length ≤ 20)
    (loose : List Str) (mean : ExcName → Option Value) (mg mb : Str → Option Value)
    (dp un : Nat) (gd : Option (List Code)) (cn : Str) (cs : Scope) (a' : Addr) (ccd : Value) (cl : List (Str × Addr)) (outer : List Env) (A₀ : Around) (base h₀ : Heap) (L : Addr) (m : Str → Option Value) (s : Shared) (Q E : Value → Shared → Prop)
    (B : Below A₀ base outer h₀) (F : Fr h₀ L s.heap m) (X : (hd.heap_39 w.params).In h₀) (N : News h₀ L s.heap (a.led w npb (.str (txt l) tl :: rest) p n tp tn)) (T : Top topProg loose mean mg mb h₀) (hk : cs.kind = .function)
    (hdp : dp + 8 < recursionLimit) (hun : un + 80 < cLine)
    (hret : ∀ (h' : Heap) (tk' : Nat), Fr h₀ L h' m → News h₀ L h' (a.led w (npb + 1) rest p n tp tn) → KeepBut s.heap h' a.adr →
      Q (.str (txt l) tl) { s with heap := h', toks := tk' }) :
      wpAny (model PySem.Challenge.rw_wn0021_01.row.prog w) (ktrTop dp un gd cn cs L a' ccd cl outer) (call (.ref 63) [.ref a.x]) Q E s := by
  k_with_none
  w_top off
  revert X; k_fill; intro X
  obtain ⟨pb, x, d, x2, d2, pb2, f, cc, lp, c2, c1, fd, co, o2, o1, a1, a2, a3, a4, a5, b1, b2, b3, b4, b5, b6, b7, nl, xt⟩ := a
  have hord := hok.1
  dsimp only [LexA.led, LexA.adr] at N hret hord ⊢
  refine wpAny_call ?_
  k_dflt (refine' call_keep ?k1 ?k2 ?k3 ?k4 ?k5 ?kA ?kF ?kK ?k6 ?kd ?k7 ?k8 ?k9 ?kB ?_ ?c5 ?c2 ?c3 ?c4; (case kA => exact rfl); (case kF => exact rfl); (case kK => exact hk); (case k1 => exact B); (case k2 => exact F); (case k3 => exact X); (case k4 => exact N); (case k5 => exact T); (case k6 => exact (X.keeps F.keep) _ _ (by k_is)); (case kd => exact rfl); (case k7 => exact codeRec_of (X.keeps F.keep) (by k_is)); (case k8 => ktr_room); (case k9 => exact BindsTo.of_eq rfl); (case kB => exact locs rfl); (case c2 => exact rfl); (case c3 => exact rfl); (case c4 => exact rfl); (case c5 => decide); k_whole; intro g' L' h' FG' F' N' B' X' T' l1; (try k_lt l1); (try dsimp only); (try k_lift B'); (try k_fold))
  k_steps
  (with_reducible rename News _ _ _ _ => N9)
  (with_reducible rename Fr _ _ _ _ => F9)
  refine' kl_popAt (its := (.str (txt l) tl :: rest).toArray) (n := npb) (y := .str (txt l) tl) (p := []) (q := rest) (k := 0) F9 N9 rfl ?_ (by rw [List.toList_toArray]; rfl) ?U ?_ ?_
  case U => k_upd
  · exact seqIndex?_zero (by simp)
  · rw [sizeLine_eq]; simp; omega
  intro h' F' N'
  clear N9 F9
  dsimp only [List.nil_append, List.cons_append] at N'
  k_steps
  (with_reducible rename KeepBut _ _ _ => kpF)
  (with_reducible rename News h₀ _ _ _ => NF)
  (with_reducible rename Fr h₀ _ _ _ => FF)
  exact hret _ _ FF NF kpF
theorem c_push (w : World) (a : LexA) (hok : a.Ok w) (p n : Int) (tp tn : Tok) (npb : Nat) (l : List Nat) (tl : Tok) (rest : List Value) (hrs : rest.length ≤ 20)
    (loose : List Str) (mean : ExcName → Option Value) (mg mb : Str → Option Value)
    (dp un : Nat) (gd : Option (List Code)) (cn : Str) (cs : Scope) (a' : Addr) (ccd : Value) (cl : List (Str × Addr)) (outer : List Env) (A₀ : Around) (base h₀ : Heap) (L : Addr) (m : Str → Option Value) (s : Shared) (Q E : Value → Shared → Prop)
    (B : Below A₀ base outer h₀) (F : Fr h₀ L s.heap m) (X : (hd.heap_39 w.params).In h₀) (N : News h₀ L s.heap (a.led w npb rest p n tp tn)) (T : Top topProg loose mean mg mb h₀) (hk : cs.kind = .function)
    (hdp : dp + 8 < recursionLimit) (hun : un + 80 < cLine)
    (hret : ∀ (h' : Heap) (tk' : Nat), Fr h₀ L h' m → News h₀ L h' (a.led w (npb + 1) (rest ++ [.str (txt l) tl]) p n tp tn) → KeepBut s.heap h' a.adr →
      Q .none { s with heap := h', toks := tk' }) :
      wpAny (model PySem.Challenge.rw_wn0021_01.row.prog w) (ktrTop dp un gd cn cs L a' ccd cl outer) (call (.ref 70) [.ref a.x, .str (txt l) tl]) Q E s := by
  k_with_none
  w_top off
  revert X; k_fill; intro X
  obtain ⟨pb, x, d, x2, d2, pb2, f, cc, lp, c2, c1, fd, co, o2, o1, a1, a2, a3, a4, a5, b1, b2, b3, b4, b5, b6, b7, nl, xt⟩ := a
  have hord := hok.1
  dsimp only [LexA.led, LexA.adr] at N hret hord ⊢
  refine wpAny_call ?_
  k_dflt (refine' call_keep ?k1 ?k2 ?k3 ?k4 ?k5 ?kA ?kF ?kK ?k6 ?kd ?k7 ?k8 ?k9 ?kB ?_ ?c5 ?c2 ?c3 ?c4; (case kA => exact rfl); (case kF => exact rfl); (case kK => exact hk); (case k1 => exact B); (case k2 => exact F); (case k3 => exact X); (case k4 => exact N); (case k5 => exact T); (case k6 => exact (X.keeps F.keep) _ _ (by k_is)); (case kd => exact rfl); (case k7 => exact codeRec_of (X.keeps F.keep) (by k_is)); (case k8 => ktr_room); (case k9 => exact BindsTo.of_eq rfl); (case kB => exact locs rfl); (case c2 => exact rfl); (case c3 => exact rfl); (case c4 => exact rfl); (case c5 => decide); k_whole; intro g' L' h' FG' F' N' B' X' T' l1; (try k_lt l1); (try dsimp only); (try k_lift B'); (try k_fold))
  k_steps
  (with_reducible rename KeepBut _ _ _ => kpF)
  (with_reducible rename News h₀ _ _ _ => NF)
  (with_reducible rename Fr h₀ _ _ _ => FF)
  rw [List.push_toArray] at NF
  exact hret _ _ FF NF kpF
end
section
theorem c_xor (w : World) (x y : Int) (tx ty : Tok) : Pure w 28 1 8 [.int x tx, .int y ty] (fun t => .int (Builtin.bitXor x y) t) := by
  k_with_none
  w_top off
  unfold Pure
  k_fill
  intro loose mean mg mb news dp un gd cn cs a' ccd cl outer A₀ base h₀ L m s Q E B F X N T hk hdp hun hret
  refine wpAny_call ?_
  k_dflt cell_enter
  refine noE ?_
  k_steps
  exact hret _ _ _ (by assumption) (by assumption)
theorem c_shl (w : World) (x k : Int) (tx ty : Tok) (hk0 : 0 ≤ k) (hk2 : k ≤ 8) (hx0 : 0 ≤ x) (hx : x < 2 ^ 64) : Pure w 21 1 8 [.int x tx, .int k ty] (fun t => .int (x * 2 ^ k.toNat) t) := by
  k_with_none
  w_top off
  unfold Pure
  k_fill
  intro loose mean mg mb news dp un gd cn cs a' ccd cl outer A₀ base h₀ L m s Q E B F X N T hk hdp hun hret
  refine wpAny_call ?_
  k_with "mine shl" => k_dflt (refine lshift_int_small (by omega) (by omega) (by omega) ?_)
  k_dflt cell_enter
  refine noE ?_
  k_steps
  exact hret _ _ _ (by assumption) (by assumption)
end
section
theorem led_adr (a : LexA) (w : World) (npb : Nat) (pbs : List Value) (p n : Int) (tp tn : Tok) : ∀ q ∈ a.led w npb pbs p n tp tn, q.1 ∈ a.adr := fun _ hq => led_in hq
theorem rotg {α : Type} {pre l : List α} {q : α} (h : q ∈ pre ++ l) : q ∈ l ++ pre := List.mem_append.mpr (List.mem_append.mp h).symm
theorem rotg2 {α : Type} {pre l o : List α} {q : α} (h : q ∈ pre ++ (l ++ o)) : q ∈ l ++ (pre ++ o) := by
  rcases List.mem_append.mp h with h | h
  · exact List.mem_append_right _ (List.mem_append_left _ h)
  · rcases List.mem_append.mp h with h | h
    · exact List.mem_append_left _ h
    · exact List.mem_append_right _ (List.mem_append_right _ h)
theorem c_popR (w : World) (a : LexA) (hok : a.Ok w) (p n : Int) (tp tn : Tok) (npb : Nat) (l : List Nat) (tl : Tok) (pbs : List Value) (hrs : pbs.length ≤ 20) (news rest : List (Addr × Obj))
    (loose : List Str) (mean : ExcName → Option Value) (mg mb : Str → Option Value)
    (dp un : Nat) (gd : Option (List Code)) (cn : Str) (cs : Scope) (a' : Addr) (ccd : Value) (cl : List (Str × Addr)) (outer : List Env) (A₀ : Around) (base h₀ : Heap) (L : Addr) (m : Str → Option Value) (s : Shared) (Q E : Value → Shared → Prop)
    (B : Below A₀ base outer h₀) (F : Fr h₀ L s.heap m) (X : (hd.heap_39 w.params).In h₀) (N : News h₀ L s.heap news) (hled : ∀ q ∈ a.led w npb (.str (txt l) tl :: pbs) p n tp tn, q ∈ news) (hrest : ∀ q ∈ rest, q ∈ news) (off : ∀ q ∈ rest, q.1 ∉ a.adr)
    (T : Top topProg loose mean mg mb h₀) (hk : cs.kind = .function)
    (hdp : dp + 8 < recursionLimit) (hun : un + 80 < cLine)
    (hret : ∀ (h' : Heap) (tk' : Nat), Fr h₀ L h' m → News h₀ L h' (a.led w (npb + 1) pbs p n tp tn ++ rest) → KeepBut s.heap h' a.adr →
      Q (.str (txt l) tl) { s with heap := h', toks := tk' }) :
      wpAny (model PySem.Challenge.rw_wn0021_01.row.prog w) (ktrTop dp un gd cn cs L a' ccd cl outer) (call (.ref 63) [.ref a.x]) Q E s :=
  c_pop w a hok p n tp tn npb l tl pbs hrs _ _ _ _ _ _ _ _ _ _ _ _ _ _ _ _ _ _ _ _ _ B F X (fun q hq => N q (hled q hq)) T hk hdp hun
    (fun h' tk' F' N' kp => hret h' tk' F' (News.app N' (kp.news (fun q hq => N q (hrest q hq)) off)) kp)
theorem c_pushR (w : World) (a : LexA) (hok : a.Ok w) (p n : Int) (tp tn : Tok) (npb : Nat) (l : List Nat) (tl : Tok) (pbs : List Value) (hrs : pbs.length ≤ 20) (news rest : List (Addr × Obj))
    (loose : List Str) (mean : ExcName → Option Value) (mg mb : Str → Option Value)
    (dp un : Nat) (gd : Option (List Code)) (cn : Str) (cs : Scope) (a' : Addr) (ccd : Value) (cl : List (Str × Addr)) (outer : List Env) (A₀ : Around) (base h₀ : Heap) (L : Addr) (m : Str → Option Value) (s : Shared) (Q E : Value → Shared → Prop)
    (B : Below A₀ base outer h₀) (F : Fr h₀ L s.heap m) (X : (hd.heap_39 w.params).In h₀) (N : News h₀ L s.heap news) (hled : ∀ q ∈ a.led w npb pbs p n tp tn, q ∈ news) (hrest : ∀ q ∈ rest, q ∈ news) (off : ∀ q ∈ rest, q.1 ∉ a.adr)
    (T : Top topProg loose mean mg mb h₀) (hk : cs.kind = .function)
    (hdp : dp + 8 < recursionLimit) (hun : un + 80 < cLine)
    (hret : ∀ (h' : Heap) (tk' : Nat), Fr h₀ L h' m → News h₀ L h' (a.led w (npb + 1) (pbs ++ [.str (txt l) tl]) p n tp tn ++ rest) → KeepBut s.heap h' a.adr →
      Q .none { s with heap := h', toks := tk' }) :
      wpAny (model PySem.Challenge.rw_wn0021_01.row.prog w) (ktrTop dp un gd cn cs L a' ccd cl outer) (call (.ref 70) [.ref a.x, .str (txt l) tl]) Q E s :=
  c_push w a hok p n tp tn npb l tl pbs hrs _ _ _ _ _ _ _ _ _ _ _ _ _ _ _ _ _ _ _ _ _ B F X (fun q hq => N q (hled q hq)) T hk hdp hun
    (fun h' tk' F' N' kp => hret h' tk' F' (News.app N' (kp.news (fun q hq => N q (hrest q hq)) off)) kp)
theorem c_getR (w : World) (a : LexA) (hok : a.Ok w) (p n : Nat) (tp tn : Tok) (npb : Nat) (l : List Nat) (hl : a.xt.cps.toList.drop p = l) (hp : p < 2 ^ 20) (hn : n < 2 ^ 20) (news rest : List (Addr × Obj))
    (loose : List Str) (mean : ExcName → Option Value) (mg mb : Str → Option Value)
    (dp un : Nat) (gd : Option (List Code)) (cn : Str) (cs : Scope) (a' : Addr) (ccd : Value) (cl : List (Str × Addr)) (outer : List Env) (A₀ : Around) (base h₀ : Heap) (L : Addr) (m : Str → Option Value) (s : Shared) (Q E : Value → Shared → Prop)
    (B : Below A₀ base outer h₀) (F : Fr h₀ L s.heap m) (X : (hd.heap_39 w.params).In h₀) (N : News h₀ L s.heap news) (hled : ∀ q ∈ a.led w npb [] p n tp tn, q ∈ news) (hrest : ∀ q ∈ rest, q ∈ news) (off : ∀ q ∈ rest, q.1 ∉ a.adr)
    (T : Top topProg loose mean mg mb h₀) (hk : cs.kind = .function)
    (hdp : dp + 8 < recursionLimit) (hun : un + 80 < cLine)
    (hret : ∀ (t tp' tn' : Tok) (p' : Nat) (h' : Heap) (tk' : Nat), Fr h₀ L h' m → a.xt.cps.toList.drop p' = (lexT l).2.1 → p' ≤ p + 1005 → News h₀ L h' (a.led w npb [] p' ((n + (lexT l).2.2 : Nat) : Int) tp' tn' ++ rest) → KeepBut s.heap h' a.adr →
      Q (.str (txt (lexT l).1) t) { s with heap := h', toks := tk' }) :
      wpAny (model PySem.Challenge.rw_wn0021_01.row.prog w) (ktrTop dp un gd cn cs L a' ccd cl outer) (call (.ref 63) [.ref a.x]) Q E s :=
  c_get w a hok p n tp tn npb l hl hp hn _ _ _ _ _ _ _ _ _ _ _ _ _ _ _ _ _ _ _ _ _ B F X (fun q hq => N q (hled q hq)) T hk hdp hun
    (fun t tp' tn' p' h' tk' F' hd hq N' kp => hret t tp' tn' p' h' tk' F' hd hq (News.app N' (kp.news (fun q hq => N q (hrest q hq)) off)) kp)
section
variable {prog : Program} {w : World} {A : Around} {E : Value → Shared → Prop} {s : Shared} {h₀ : Heap} {L D : Addr} {m : Str → Option Value} {news rest : List (Addr × Obj)}
theorem append_R {its : Array Value} {n : Nat} {x : Value} {Q : Value → Shared → Prop} (F : Fr h₀ L s.heap m) (N : News h₀ L s.heap news) (hD : (D, listOf its n) ∈ news) (hrest : ∀ q ∈ rest, q ∈ news) (off : ∀ q ∈ rest, q.1 ≠ D)
    (h : ∀ h', Fr h₀ L h' m → News h₀ L h' ((D, listOf (its.push x) (n + 1)) :: rest) → Q .none { s with heap := h' }) (hsz : its.size ≤ sizeLine) : wpAny (model prog w) A (call (.builtin "list.append") [.ref D, x]) Q E s := by
  have z := N _ hD
  exact append_at (hsz := hsz) z.1 fun h' hs ho' => h h' (F.change hs z.2.1 z.2.2) (news_set (pre := []) (fun q hq => by
    rcases List.mem_cons.mp hq with rfl | hq
    · exact z
    · exact N q (hrest q hq)) (fun _ h => nomatch h) off hs ho')
end
end
section
theorem lt_news {h₀ h : Heap} {L : Addr} {news : List (Addr × Obj)} (N : News h₀ L h news) : ∀ p ∈ news, p.1 < h.objs.size := fun p hp => Heap.lt_size (N p hp).1
theorem strsAre_app : ∀ {vs : List Value} {zs : List Str} {vs' : List Value} {zs' : List Str}, StrsAre vs zs → StrsAre vs' zs' → StrsAre (vs ++ vs') (zs ++ zs')
  | _, _, _, _, .nil, h => h
  | _, _, _, _, .cons _ _ r, h => .cons _ _ (strsAre_app r h)
theorem rot6 {α : Type} {i c d a b e : α} {l : List α} {q : α} (h : q ∈ i :: c :: d :: a :: b :: e :: l) : q ∈ l ++ [i, c, d, a, b, e] := rotg (pre := [i, c, d, a, b, e]) h
theorem rot4 {α : Type} {a b c : α} {l o : List α} {q : α} (h : q ∈ (a :: b :: c :: l) ++ o) : q ∈ l ++ (a :: b :: c :: (o ++ [])) := by
  simp only [List.mem_append, List.mem_cons] at h ⊢
  rcases h with (h | h | h | h) | h <;> simp [h]
theorem News.from {h₀ h : Heap} {L : Addr} {l l' : List (Addr × Obj)} (N : News h₀ L h l') (s : ∀ q ∈ l, q ∈ l') : News h₀ L h l := fun q hq => N q (s q hq)
theorem rot3 {α : Type} {a b c : α} {l o o2 : List α} {q : α} (h : q ∈ (a :: b :: c :: (l ++ o)) ++ o2) : q ∈ l ++ (a :: b :: c :: (o ++ o2)) := by
  simp only [List.mem_append, List.mem_cons] at h ⊢
  rcases h with (h | h | h | h | h) | h <;> simp [h]
theorem rot2 {α : Type} {a b c : α} {l o : List α} {q : α} (h : q ∈ b :: c :: (l ++ o)) : q ∈ l ++ (a :: b :: c :: o) := by
  simp only [List.mem_append, List.mem_cons] at h ⊢
  rcases h with h | h | h | h <;> simp [h]
theorem small22 {n : Nat} (h : n ≤ 40) : Builtin.Range.small 0 (n : Int) 1 = true ∧ Builtin.Range.rangeSize 0 (n : Int) 1 = (n : Int) := by
  have key : ∀ k : Fin 41, Builtin.Range.small 0 (k.val : Int) 1 = true ∧ Builtin.Range.rangeSize 0 (k.val : Int) 1 = (k.val : Int) := by decide +kernel
  exact key ⟨n, by omega⟩
theorem strsAre_snoc2 {z : Str} {t : Tok} {vs : List Value} {zs : List Str} (h : StrsAre vs zs) : StrsAre (vs ++ [.str z t]) (zs ++ [z]) := strsAre_snoc h
def wordsOf (x : Nat → Nat) (i : Nat) : List Str := (List.range i).map fun k => txt (apW (x k))
theorem wordsOf_succ (x : Nat → Nat) (i : Nat) : wordsOf x (i + 1) = wordsOf x i ++ [txt (apW (x i))] := by
  unfold wordsOf; rw [List.range_succ, List.map_append]; rfl
theorem num_word (w : World) (X : Nat) (hX : X < 2 ^ 63) (t : Tok) : Pure w 98 1 8 [.str (txt (apW X)) t] (fun t => .int (X : Int) t) := by
  have hal := apW_len (k := 16) (n := X) (by omega)
  have := c_number w (txt (apW X)) t (by rw [show (txt (apW X)).cps.size = (apW X).length from txt_length _]; omega) (by rw [txt_cps]; exact apW_small _)
  rwa [txt_cps, numF_apW] at this
theorem shl_word (w : World) (X s : Nat) (t t' : Tok) (h : 0 < s) (hs : s ≤ 3) (hX : X < 2 ^ 63) : Pure w 21 1 8 [.int (X : Int) t, .int ((s : Int) - 1) t'] (fun t => .int ((X : Int) * 2 ^ ((s : Int) - 1).toNat) t) :=
  c_shl w _ _ _ _ (by omega) (by omega) (by omega) (by exact_mod_cast (by omega : X < 2 ^ 64))
theorem xor_word (w : World) (S : Nat → Nat) (X0 X1 X2 i K : Nat) (t t' : Tok) (h : 0 < S K) : Pure w 28 1 8 [.int ((totF S X0 X1 X2 i K : Nat) : Int) t, .int (((seqX S X0 X1 X2 (i + K) : Nat) : Int) * 2 ^ ((S K : Int) - 1).toNat) t'] (fun t => .int ((totF S X0 X1 X2 i (K + 1) : Nat) : Int) t) := by
  have := c_xor w ((totF S X0 X1 X2 i K : Nat) : Int) (((seqX S X0 X1 X2 (i + K) : Nat) : Int) * 2 ^ ((S K : Int) - 1).toNat) t t'
  have e : ((S K : Int) - 1).toNat = S K - 1 := by omega
  rw [e] at this ⊢
  have e2 : Builtin.bitXor ((totF S X0 X1 X2 i K : Nat) : Int) (((seqX S X0 X1 X2 (i + K) : Nat) : Int) * 2 ^ (S K - 1)) = ((totF S X0 X1 X2 i (K + 1) : Nat) : Int) := totF_pos h
  rwa [e2] at this
abbrev JR1 (a : LexA) (w : World) (S : Nat → Nat) (X0 X1 X2 : Nat) (p n : Int) (tp tn : Tok) (lr La sa : Addr) (oc : Obj) (sv : List Value) (sn : Nat) (i : Nat) (m' : Str → Option Value) (news' : List (Addr × Obj)) : Prop :=
  ∃ (t1 : Tok) (npb' nr : Nat) (ta' tb' tc' : Tok) (vs : List Value) (u : Str → Option Value), StrsAre vs (wordsOf (seqX S X0 X1 X2) i) ∧
      m' = (fun z : Str => if z = "shares" then some (Value.ref sa) else if z = "row" then some (Value.ref lr) else u z) ∧
      news' = (lr, listOf vs.toArray nr) :: (La, oc) :: (sa, listOf sv.toArray sn) :: a.led w npb' [.str (txt (apW (seqX S X0 X1 X2 i))) ta', .str (txt (apW (seqX S X0 X1 X2 (i + 1)))) tb', .str (txt (apW (seqX S X0 X1 X2 (i + 2)))) tc'] p n tp tn
abbrev JR2 (a : LexA) (w : World) (S : Nat → Nat) (X0 X1 X2 : Nat) (p n : Int) (tp tn : Tok) (lr La sa : Addr) (oc : Obj) (sv : List Value) (sn : Nat) (own : List (Addr × Obj)) (i : Nat) (k : Nat) (m' : Str → Option Value) (news' : List (Addr × Obj)) : Prop :=
  ∃ (t1 : Tok) (npb' nr : Nat) (vs : List Value) (pbs : List Value) (u : Str → Option Value), StrsAre vs (wordsOf (seqX S X0 X1 X2) (if k = 0 then i else i + 1)) ∧
      (∃ tA tB tC, pbs = (if k = 0 then [.str (txt (apW (seqX S X0 X1 X2 i))) tA, .str (txt (apW (seqX S X0 X1 X2 (i + 1)))) tB, .str (txt (apW (seqX S X0 X1 X2 (i + 2)))) tC] else if k = 2 then [.str (txt (apW (seqX S X0 X1 X2 (i + 2)))) tC, .str (txt (apW (seqX S X0 X1 X2 (i + 1)))) tB] else [.str (txt (apW (seqX S X0 X1 X2 (i + 1)))) tB, .str (txt (apW (seqX S X0 X1 X2 (i + 2)))) tC])) ∧
      m' = (fun z : Str => if z = "shares" then some (Value.ref sa) else if z = "row" then some (Value.ref lr) else if z = "total" then some (Value.int (totF S X0 X1 X2 i k) t1) else u z) ∧
      news' = (lr, listOf vs.toArray nr) :: (La, oc) :: (sa, listOf sv.toArray sn) :: (a.led w npb' pbs p n tp tn ++ own)
theorem c_row (w : World) (a : LexA) (hok : a.Ok w) (p n : Int) (tp tn : Tok) (npb : Nat) (ta tb tc tu : Tok) (X0 X1 X2 : Nat) (S : Nat → Nat) (hS : ∀ k, S k ≤ 3) (hX0 : X0 < 2 ^ 17) (hX1 : X1 < 2 ^ 17) (hX2 : X2 < 2 ^ 17)
    (sa : Addr) (sv : List Value) (sn turns : Nat) (hturns : turns ≤ 22) (hsv : IntsAre sv [(S 0 : Int), (S 1 : Int), (S 2 : Int)]) (hoff : sa ∉ a.adr)
    (loose : List Str) (mean : ExcName → Option Value) (mg mb : Str → Option Value)
    (dp un : Nat) (gd : Option (List Code)) (cn : Str) (cs : Scope) (a' : Addr) (ccd : Value) (cl : List (Str × Addr)) (outer : List Env) (A₀ : Around) (base h₀ : Heap) (L : Addr) (m : Str → Option Value) (s : Shared) (Q E : Value → Shared → Prop)
    (B : Below A₀ base outer h₀) (F : Fr h₀ L s.heap m) (X : (hd.heap_39 w.params).In h₀) (N : News h₀ L s.heap ((sa, listOf sv.toArray sn) :: a.led w npb [.str (txt (apW X0)) ta, .str (txt (apW X1)) tb, .str (txt (apW X2)) tc] p n tp tn)) (T : Top topProg loose mean mg mb h₀) (hk : cs.kind = .function)
    (hdp : dp + 20 < recursionLimit) (hun : un + 100 < cLine)
    (hret : ∀ (lr : Addr) (nr npb' : Nat) (vs : List Value) (h' : Heap) (tk' : Nat), Fr h₀ L h' m → News h₀ L h' ((lr, listOf vs.toArray nr) :: (sa, listOf sv.toArray sn) :: a.led w npb' [] p n tp tn) → StrsAre vs (wordsOf (seqX S X0 X1 X2) (turns + 3)) →
      KeepBut s.heap h' (sa :: a.adr) → (∀ b ∈ a.adr, @LT.lt Nat _ b lr) → @LT.lt Nat _ sa lr → Q (.ref lr) { s with heap := h', toks := tk' }) :
      wpAny (model PySem.Challenge.rw_wn0021_01.row.prog w) (ktrTop dp un gd cn cs L a' ccd cl outer) (call (.ref 122) [.ref a.x, .ref sa, .int turns tu]) Q E s := by
  k_with_none
  w_top off
  k_with "hk exec For Name Call cons nil" => refine Hold.out ?_
  k_with "hk CompSrc" => refine Hold.out ?_
  k_with "hk pyIter ref" => refine Hold.out ?_
  have hXlt := seqX_lt S X0 X1 X2 hS hX0 hX1 hX2
  revert X; k_fill; intro X
  obtain ⟨pb, x, d, x2, d2, pb2, f, cc, lp, c2, c1, fd, co, o2, o1, a1, a2, a3, a4, a5, b1, b2, b3, b4, b5, b6, b7, nl, xt⟩ := a
  have hord := hok.1
  dsimp only [LexA.led, LexA.adr] at N hret hord hoff ⊢
  refine wpAny_call ?_
  k_dflt (refine' call_keepC2 ?k1 ?k2 ?k3 ?k4 ?k5 ?kA ?kF ?kK ?k6 ?k7 ?k8 ?k9 ?kB ?kD ?_ ?c2 ?c3 ?c4; (case kA => exact rfl); (case kF => exact rfl); (case kK => assumption); (case k1 => k_asm); (case k2 => k_asm); (case k3 => k_asm); (case k4 => k_asm); (case k5 => k_asm); (case k6 => k_is); (case k7 => k_is); (case k8 => ktr_room); (case k9 => first | exact BindsTo.of_eq rfl); (case kB => exact rfl); (case kD => decide +kernel); (case c2 => exact rfl); (case c3 => exact rfl); (case c4 => exact rfl); k_whole; intro g' L' h' tk' cells' FG' F' N' Y' B' X' T' l1 hLs; clear hLs; (try k_lt l1); k_cells Y'; (try simp only [List.cons_append, List.nil_append] at N'); (try dsimp only); (try k_lift B'); (try k_fold))
  k_steps
  refine Hold.in ?_
  refine For_O ?_
  k_steps
  refine Hold.in ?_
  (with_reducible rename Fr _ _ _ _ => F9)
  (with_reducible rename News _ _ _ _ => N9)
  rename_i o' d1' lr _ l2 _ _ _ _ _ _ _ _ _ _
  have hLr : @LT.lt Nat _ (L' + 1) lr := l2.1
  have hx1 : @LT.lt Nat _ pb L' ∧ @LT.lt Nat _ sa L' := ⟨l1.2.1, l1.1⟩
  have hbig : ∀ b : Addr, @LT.lt Nat _ L' b → b ∉ [pb, x, d, x2, d2, f, cc, lp, c2, c1] := by
    intro b hb
    simp only [List.mem_cons, List.not_mem_nil, or_false, not_or]
    obtain ⟨q0, q1, q2, q3, q4, q5, q6, q7, q8, q9, q10⟩ := l1
    refine ⟨?_, ?_, ?_, ?_, ?_, ?_, ?_, ?_, ?_, ?_⟩ <;> exact fun e => Nat.lt_irrefl _ (Nat.lt_trans (e ▸ hb) (by assumption))
  have hR0 := lt_news N9 _ (.head _)
  refine' it_range (n := turns) (JR1 ⟨pb, x, d, x2, d2, pb2, f, cc, lp, c2, c1, fd, co, o2, o1, a1, a2, a3, a4, a5, b1, b2, b3, b4, b5, b6, b7, nl, xt⟩ w S X0 X1 X2 p n tp tn lr (L' + 1) sa o' sv sn)
     ?h1 ?h2 ?h3 ?h4 ?h5 ?h6 ?h7 ?h8 ?h9 ?h10 ?h11 ?h12 ?h13
  case h1 => rfl
  case h2 => assumption
  case h3 => exact (small22 (by omega)).1
  case h4 => exact (small22 (by omega)).2
  case h6 => exact fr_at2 (x := "shares") (v := .ref sa) (x2 := "row") (v2 := .ref lr) F9 rfl rfl
  case h7 => exact N9
  case h8 => rfl
  case h9 => exact ⟨tu, npb, 0, ta, tb, tc, [], _, .nil, rfl, rfl⟩
  case h12 => rfl
  case h13 => rfl
  · rintro _ _ _ ⟨_, _, _, _, _, _, _, _, _, _, rfl⟩
    have := lt_news N9
    simp only [LexA.led, List.forall_mem_cons] at this ⊢
    exact this
  · rintro i u m₁ nw h tk own hi ⟨t1, npb', nr, ta', tb', tc', vs, u1, hvs, rfl, rfl⟩ ho F' N'
    dsimp only at F'
    dsimp only [LexA.led, List.cons_append, List.nil_append] at N'
    have hL1 := F9.ns.lt
    have hR1 := hR0
    clear F9 N9
    k_steps
    refine Hold.in ?_
    refine For_O ?_
    k_steps
    refine Hold.in ?_
    (with_reducible rename Fr _ _ _ _ => F9)
    (with_reducible rename News _ _ _ _ => N9)
    refine' it_range (n := 3) (JR2 ⟨pb, x, d, x2, d2, pb2, f, cc, lp, c2, c1, fd, co, o2, o1, a1, a2, a3, a4, a5, b1, b2, b3, b4, b5, b6, b7, nl, xt⟩ w S X0 X1 X2 p n tp tn lr (L' + 1) sa o' sv sn own i)
     ?g1 ?g2 ?g3 ?g4 ?g5 ?g6 ?g7 ?g8 ?g9 ?g10 ?g11 ?g12 ?g13
    case g1 => rfl
    case g2 => assumption
    case g3 => decide
    case g4 => decide
    case g6 => exact fr_at3 (x := "shares") (v := .ref sa) (x2 := "row") (v2 := .ref lr) (x3 := "total") (v3 := .int 0 _) F9 rfl rfl rfl
    case g7 => exact N9
    case g8 => rfl
    case g9 => exact ⟨_, _, _, _, _, _, hvs, ⟨_, _, _, rfl⟩, rfl, rfl⟩
    case g12 => rfl
    case g13 => rfl
    · rintro _ _ _ ⟨_, _, _, _, _, _, _, _, _, rfl⟩
      have := lt_news N9
      simp only [LexA.led, List.cons_append, List.nil_append, List.forall_mem_cons] at this ⊢
      exact this
    · rintro k u2 m₁ nw h tk2 own2 hk3 ⟨t2, npb2, nr2, vs2, pbs2, u3, hvs2, ⟨tA, tB, tC, rfl⟩, rfl, rfl⟩ ho2 F2 N2
      dsimp only at F2
      rw [Int.zero_add] at F2
      dsimp only [LexA.led, List.cons_append, List.nil_append] at N2
      have hL2 := F9.ns.lt
      have hR2 := lt_news N9 _ (.head _)
      clear F9 N9
      have hOff : ∀ q ∈ (lr, listOf vs2.toArray nr2) :: (L' + 1, o') :: (sa, listOf sv.toArray sn) :: (own ++ own2), q.1 ∉ [pb, x, d, x2, d2, f, cc, lp, c2, c1] := by
        refine List.forall_mem_cons.mpr ⟨hbig _ (Nat.lt_of_succ_lt hLr), List.forall_mem_cons.mpr ⟨hbig _ (Nat.lt_succ_self _), List.forall_mem_cons.mpr ⟨hoff, fun q hq => ?_⟩⟩⟩
        rcases List.mem_append.mp hq with hq | hq
        · rw [ho q hq]; exact hbig _ hL1
        · rw [ho2 q hq]; exact hbig _ hL2
      have hOffR : ∀ (npb' : Nat) (pbs : List Value), ∀ q ∈ (L' + 1, o') :: (sa, listOf sv.toArray sn) :: ((LexA.led ⟨pb, x, d, x2, d2, pb2, f, cc, lp, c2, c1, fd, co, o2, o1, a1, a2, a3, a4, a5, b1, b2, b3, b4, b5, b6, b7, nl, xt⟩ w npb' pbs p n tp tn) ++ (own ++ own2)), q.1 ≠ lr := by
        intro npb' pbs
        refine List.forall_mem_cons.mpr ⟨Nat.ne_of_lt hLr, List.forall_mem_cons.mpr ⟨Nat.ne_of_lt (Nat.lt_trans hx1.2 (Nat.lt_of_succ_lt hLr)), fun q hq => ?_⟩⟩
        rcases List.mem_append.mp hq with hq | hq
        · intro e; exact hbig lr (Nat.lt_of_succ_lt hLr) (e ▸ led_adr _ _ _ _ _ _ _ _ q hq)
        · rcases List.mem_append.mp hq with hq | hq
          · rw [ho q hq]; exact Nat.ne_of_gt hR1
          · rw [ho2 q hq]; exact Nat.ne_of_gt hR2
      have hd3 : k = 0 ∨ k = 1 ∨ k = 2 := by omega
      rcases hd3 with rfl | rfl | rfl
      · simp (decide := true) only [if_true, if_false] at N2 hvs2
        have hXk : ((seqX S X0 X1 X2 i) : Nat) < 2 ^ 63 := Nat.lt_of_lt_of_le (hXlt _) (Nat.pow_le_pow_right (by decide) (by omega))
        have hnum := num_word w (seqX S X0 X1 X2 i) hXk
        have hS' := hS 0
        have hshl : ∀ t t', 0 < S 0 → Pure w 21 1 8 [.int (((seqX S X0 X1 X2 i) : Nat) : Int) t, .int ((S 0 : Int) - 1) t'] (fun t => .int ((((seqX S X0 X1 X2 i) : Nat) : Int) * 2 ^ ((S 0 : Int) - 1).toNat) t) := fun t t' h => shl_word w _ _ t t' h hS' hXk
        have hxor : ∀ t t', 0 < S 0 → Pure w 28 1 8 [.int ((totF S X0 X1 X2 i 0 : Nat) : Int) t, .int ((((seqX S X0 X1 X2 i) : Nat) : Int) * 2 ^ ((S 0 : Int) - 1).toNat) t'] (fun t => .int ((totF S X0 X1 X2 i (0 + 1) : Nat) : Int) t) := fun t t' h => xor_word w S X0 X1 X2 i 0 t t' h
        obtain ⟨tkS, hxS⟩ := hsv.get 0 (S 0 : Int) rfl
        have hxS' : sv[((0 : Nat) : Int).toNat]? = some (.int (S 0 : Int) tkS) := hxS
        k_with "mine sub" => (
          (with_reducible rename News _ _ _ _ => N9)
          k_dflt (refine item_litK (l := sa) (vs := sv) ⟨_, N9.get (show (sa, listOf sv.toArray sn) ∈ _ by simp only [List.mem_cons, eq_self, true_or, or_true]), rfl, _, rfl⟩ (by omega) (by omega) hxS' ?_))
        k_with "mine app" => refine Hold.out ?_
        k_with "mine call" => first
          | (k_dflt ((first | refine' (hnum _).use ?k1 ?k2 ?k3 ?k4 ?k5 ?kK ?kd ?ku ?_ | refine' (hshl _ _ (by omega)).use ?k1 ?k2 ?k3 ?k4 ?k5 ?kK ?kd ?ku ?_ | refine' (hxor _ _ (by omega)).use ?k1 ?k2 ?k3 ?k4 ?k5 ?kK ?kd ?ku ?_); (case k1 => k_asm); (case k2 => k_asm); (case k3 => k_asm); (case k4 => k_asm); (case k5 => k_asm); (case kK => exact rfl); (case kd => ktr_room); (case ku => ktr_units))
             intro t9 h9 tk9 F9 N9)
          | refine Hold.out ?_
        k_steps
        refine Hold.in ?_
        (with_reducible rename Fr _ _ _ _ => F9)
        (with_reducible rename News _ _ _ _ => N9)
        refine c_popR w ⟨pb, x, d, x2, d2, pb2, f, cc, lp, c2, c1, fd, co, o2, o1, a1, a2, a3, a4, a5, b1, b2, b3, b4, b5, b6, b7, nl, xt⟩ hok p n tp tn npb2 (apW (seqX S X0 X1 X2 i)) tA [Value.str (txt (apW (seqX S X0 X1 X2 (i + 1)))) tB, Value.str (txt (apW (seqX S X0 X1 X2 (i + 2)))) tC] (by simp) _ ((lr, listOf vs2.toArray nr2) :: ((L' + 1, o') :: (sa, listOf sv.toArray sn) :: (own ++ own2))) _ _ _ _ _ _ _ _ _ _ _ _ _ _ _ _ _ _ _ _ _ B' F9 X' N9 (fun q hq => .tail _ (.tail _ (.tail _ (List.mem_append_left _ hq)))) (List.forall_mem_cons.mpr ⟨.head _, List.forall_mem_cons.mpr ⟨.tail _ (.head _), List.forall_mem_cons.mpr ⟨.tail _ (.tail _ (.head _)), fun q hq => .tail _ (.tail _ (.tail _ (.tail _ (.tail _ (.tail _ (.tail _ (.tail _ (.tail _ (.tail _ (.tail _ (.tail _ (.tail _ (hq)))))))))))))⟩⟩⟩) hOff T' rfl (by ktr_room) (by ktr_units) ?_
        intro h9 tk9 F8 N8 kp8
        clear F9 N9 kp8
        dsimp only [LexA.led, List.cons_append, List.nil_append] at N8
        k_steps
        · refine Hold.in ?_
          (with_reducible rename Fr _ _ _ _ => F9)
          (with_reducible rename News _ _ _ _ => N9)
          refine append_R (D := lr) (its := vs2.toArray) (n := nr2) (rest := ((L' + 1, o') :: (sa, listOf sv.toArray sn) :: ((LexA.led ⟨pb, x, d, x2, d2, pb2, f, cc, lp, c2, c1, fd, co, o2, o1, a1, a2, a3, a4, a5, b1, b2, b3, b4, b5, b6, b7, nl, xt⟩ w (npb2 + 1) [Value.str (txt (apW (seqX S X0 X1 X2 (i + 1)))) tB, Value.str (txt (apW (seqX S X0 X1 X2 (i + 2)))) tC] p n tp tn) ++ (own ++ own2)))) F9 N9 (.tail _ (.tail _ (.tail _ (.tail _ (.tail _ (.tail _ (.tail _ (.tail _ (.tail _ (.tail _ (.head _))))))))))) (fun q hq => rot2 hq) (hOffR _ _) ?_ (by rw [sizeLine_eq, List.size_toArray, strsAre_len hvs2, show (wordsOf (seqX S X0 X1 X2) i).length = i by unfold wordsOf; simp]; omega)
          intro h' F8 N8
          clear F9 N9
          rw [List.push_toArray] at N8
          dsimp only [LexA.led, List.cons_append, List.nil_append] at N8
          k_steps
          (with_reducible rename Fr _ _ _ _ => F9)
          (with_reducible rename News _ _ _ _ => N9)
          have N10 : News _ _ _ (((lr, listOf (vs2 ++ [Value.str (txt (apW (seqX S X0 X1 X2 i))) tA]).toArray (nr2 + 1)) :: (L' + 1, o') :: (sa, listOf sv.toArray sn) :: ((LexA.led ⟨pb, x, d, x2, d2, pb2, f, cc, lp, c2, c1, fd, co, o2, o1, a1, a2, a3, a4, a5, b1, b2, b3, b4, b5, b6, b7, nl, xt⟩ w (npb2 + 1) [Value.str (txt (apW (seqX S X0 X1 X2 (i + 1)))) tB, Value.str (txt (apW (seqX S X0 X1 X2 (i + 2)))) tC] p n tp tn) ++ own)) ++ own2) := N9
          have hvs3 : StrsAre (vs2 ++ [Value.str (txt (apW (seqX S X0 X1 X2 i))) tA]) (wordsOf (seqX S X0 X1 X2) (i + 1)) := by rw [wordsOf_succ]; exact strsAre_snoc hvs2
          exact ForEnd.next (fr_at3 (x := "shares") (v := .ref sa) (x2 := "row") (v2 := .ref lr) (x3 := "total") (v3 := .int ((totF S X0 X1 X2 i (0 + 1) : Nat) : Int) _) F9 rfl rfl rfl) N10 (fun p hp => List.mem_append_left _ hp) (fun p hp => List.mem_append_right _ hp) ⟨_, _, _, _, _, _, hvs3, ⟨tA, tB, tC, rfl⟩, rfl, rfl⟩
        · refine Hold.in ?_
          (with_reducible rename Fr _ _ _ _ => F9)
          (with_reducible rename News _ _ _ _ => N9)
          have hz : S 0 = 0 := by omega
          have e0 := totF_zero (x0 := X0) (x1 := X1) (x2 := X2) (i := i) hz
          try rw [← e0] at F9
          refine append_R (D := lr) (its := vs2.toArray) (n := nr2) (rest := ((L' + 1, o') :: (sa, listOf sv.toArray sn) :: ((LexA.led ⟨pb, x, d, x2, d2, pb2, f, cc, lp, c2, c1, fd, co, o2, o1, a1, a2, a3, a4, a5, b1, b2, b3, b4, b5, b6, b7, nl, xt⟩ w (npb2 + 1) [Value.str (txt (apW (seqX S X0 X1 X2 (i + 1)))) tB, Value.str (txt (apW (seqX S X0 X1 X2 (i + 2)))) tC] p n tp tn) ++ (own ++ own2)))) F9 N9 (.tail _ (.tail _ (.tail _ (.tail _ (.tail _ (.tail _ (.tail _ (.tail _ (.tail _ (.tail _ (.head _))))))))))) (fun q hq => rot2 hq) (hOffR _ _) ?_ (by rw [sizeLine_eq, List.size_toArray, strsAre_len hvs2, show (wordsOf (seqX S X0 X1 X2) i).length = i by unfold wordsOf; simp]; omega)
          intro h' F8 N8
          clear F9 N9
          rw [List.push_toArray] at N8
          dsimp only [LexA.led, List.cons_append, List.nil_append] at N8
          k_steps
          (with_reducible rename Fr _ _ _ _ => F9)
          (with_reducible rename News _ _ _ _ => N9)
          have N10 : News _ _ _ (((lr, listOf (vs2 ++ [Value.str (txt (apW (seqX S X0 X1 X2 i))) tA]).toArray (nr2 + 1)) :: (L' + 1, o') :: (sa, listOf sv.toArray sn) :: ((LexA.led ⟨pb, x, d, x2, d2, pb2, f, cc, lp, c2, c1, fd, co, o2, o1, a1, a2, a3, a4, a5, b1, b2, b3, b4, b5, b6, b7, nl, xt⟩ w (npb2 + 1) [Value.str (txt (apW (seqX S X0 X1 X2 (i + 1)))) tB, Value.str (txt (apW (seqX S X0 X1 X2 (i + 2)))) tC] p n tp tn) ++ own)) ++ own2) := N9
          have hvs3 : StrsAre (vs2 ++ [Value.str (txt (apW (seqX S X0 X1 X2 i))) tA]) (wordsOf (seqX S X0 X1 X2) (i + 1)) := by rw [wordsOf_succ]; exact strsAre_snoc hvs2
          exact ForEnd.next (fr_at3 (x := "shares") (v := .ref sa) (x2 := "row") (v2 := .ref lr) (x3 := "total") (v3 := .int ((totF S X0 X1 X2 i (0 + 1) : Nat) : Int) _) F9 rfl rfl rfl) N10 (fun p hp => List.mem_append_left _ hp) (fun p hp => List.mem_append_right _ hp) ⟨_, _, _, _, _, _, hvs3, ⟨tA, tB, tC, rfl⟩, rfl, rfl⟩
      · simp (decide := true) only [if_true, if_false] at N2 hvs2
        have hXk : ((seqX S X0 X1 X2 (i + 1)) : Nat) < 2 ^ 63 := Nat.lt_of_lt_of_le (hXlt _) (Nat.pow_le_pow_right (by decide) (by omega))
        have hnum := num_word w (seqX S X0 X1 X2 (i + 1)) hXk
        have hS' := hS 1
        have hshl : ∀ t t', 0 < S 1 → Pure w 21 1 8 [.int (((seqX S X0 X1 X2 (i + 1)) : Nat) : Int) t, .int ((S 1 : Int) - 1) t'] (fun t => .int ((((seqX S X0 X1 X2 (i + 1)) : Nat) : Int) * 2 ^ ((S 1 : Int) - 1).toNat) t) := fun t t' h => shl_word w _ _ t t' h hS' hXk
        have hxor : ∀ t t', 0 < S 1 → Pure w 28 1 8 [.int ((totF S X0 X1 X2 i 1 : Nat) : Int) t, .int ((((seqX S X0 X1 X2 (i + 1)) : Nat) : Int) * 2 ^ ((S 1 : Int) - 1).toNat) t'] (fun t => .int ((totF S X0 X1 X2 i (1 + 1) : Nat) : Int) t) := fun t t' h => xor_word w S X0 X1 X2 i 1 t t' h
        obtain ⟨tkS, hxS⟩ := hsv.get 1 (S 1 : Int) rfl
        have hxS' : sv[((1 : Nat) : Int).toNat]? = some (.int (S 1 : Int) tkS) := hxS
        k_with "mine sub" => (
          (with_reducible rename News _ _ _ _ => N9)
          k_dflt (refine item_litK (l := sa) (vs := sv) ⟨_, N9.get (show (sa, listOf sv.toArray sn) ∈ _ by simp only [List.mem_cons, eq_self, true_or, or_true]), rfl, _, rfl⟩ (by omega) (by omega) hxS' ?_))
        k_with "mine app" => refine Hold.out ?_
        k_with "mine call" => first
          | (k_dflt ((first | refine' (hnum _).use ?k1 ?k2 ?k3 ?k4 ?k5 ?kK ?kd ?ku ?_ | refine' (hshl _ _ (by omega)).use ?k1 ?k2 ?k3 ?k4 ?k5 ?kK ?kd ?ku ?_ | refine' (hxor _ _ (by omega)).use ?k1 ?k2 ?k3 ?k4 ?k5 ?kK ?kd ?ku ?_); (case k1 => k_asm); (case k2 => k_asm); (case k3 => k_asm); (case k4 => k_asm); (case k5 => k_asm); (case kK => exact rfl); (case kd => ktr_room); (case ku => ktr_units))
             intro t9 h9 tk9 F9 N9)
          | refine Hold.out ?_
        k_steps
        refine Hold.in ?_
        (with_reducible rename Fr _ _ _ _ => F9)
        (with_reducible rename News _ _ _ _ => N9)
        refine c_popR w ⟨pb, x, d, x2, d2, pb2, f, cc, lp, c2, c1, fd, co, o2, o1, a1, a2, a3, a4, a5, b1, b2, b3, b4, b5, b6, b7, nl, xt⟩ hok p n tp tn npb2 (apW (seqX S X0 X1 X2 (i + 1))) tB [Value.str (txt (apW (seqX S X0 X1 X2 (i + 2)))) tC] (by simp) _ ((lr, listOf vs2.toArray nr2) :: ((L' + 1, o') :: (sa, listOf sv.toArray sn) :: (own ++ own2))) _ _ _ _ _ _ _ _ _ _ _ _ _ _ _ _ _ _ _ _ _ B' F9 X' N9 (fun q hq => .tail _ (.tail _ (.tail _ (List.mem_append_left _ hq)))) (List.forall_mem_cons.mpr ⟨.head _, List.forall_mem_cons.mpr ⟨.tail _ (.head _), List.forall_mem_cons.mpr ⟨.tail _ (.tail _ (.head _)), fun q hq => .tail _ (.tail _ (.tail _ (.tail _ (.tail _ (.tail _ (.tail _ (.tail _ (.tail _ (.tail _ (.tail _ (.tail _ (.tail _ (hq)))))))))))))⟩⟩⟩) hOff T' rfl (by ktr_room) (by ktr_units) ?_
        intro h9 tk9 F8 N8 kp8
        clear F9 N9 kp8
        dsimp only [LexA.led, List.cons_append, List.nil_append] at N8
        k_steps
        · refine Hold.in ?_
          (with_reducible rename Fr _ _ _ _ => F9)
          (with_reducible rename News _ _ _ _ => N9)
          refine c_pushR w ⟨pb, x, d, x2, d2, pb2, f, cc, lp, c2, c1, fd, co, o2, o1, a1, a2, a3, a4, a5, b1, b2, b3, b4, b5, b6, b7, nl, xt⟩ hok p n tp tn (npb2 + 1) (apW (seqX S X0 X1 X2 (i + 1))) tB [Value.str (txt (apW (seqX S X0 X1 X2 (i + 2)))) tC] (by simp) _ ((lr, listOf vs2.toArray nr2) :: ((L' + 1, o') :: (sa, listOf sv.toArray sn) :: (own ++ own2))) _ _ _ _ _ _ _ _ _ _ _ _ _ _ _ _ _ _ _ _ _ B' F9 X' N9 (fun q hq => List.mem_append_left _ hq) (List.forall_mem_cons.mpr ⟨.tail _ (.tail _ (.tail _ (.tail _ (.tail _ (.tail _ (.tail _ (.tail _ (.tail _ (.tail _ (.head _)))))))))), List.forall_mem_cons.mpr ⟨.tail _ (.tail _ (.tail _ (.tail _ (.tail _ (.tail _ (.tail _ (.tail _ (.tail _ (.tail _ (.tail _ (.head _))))))))))), List.forall_mem_cons.mpr ⟨.tail _ (.tail _ (.tail _ (.tail _ (.tail _ (.tail _ (.tail _ (.tail _ (.tail _ (.tail _ (.tail _ (.tail _ (.head _)))))))))))), fun q hq => .tail _ (.tail _ (.tail _ (.tail _ (.tail _ (.tail _ (.tail _ (.tail _ (.tail _ (.tail _ (.tail _ (.tail _ (.tail _ (hq)))))))))))))⟩⟩⟩) hOff T' rfl (by ktr_room) (by ktr_units) ?_
          intro h' tk9 F8 N8 kp8
          clear F9 N9 kp8
          have N10 : News _ _ _ (((lr, listOf vs2.toArray nr2) :: (L' + 1, o') :: (sa, listOf sv.toArray sn) :: ((LexA.led ⟨pb, x, d, x2, d2, pb2, f, cc, lp, c2, c1, fd, co, o2, o1, a1, a2, a3, a4, a5, b1, b2, b3, b4, b5, b6, b7, nl, xt⟩ w (npb2 + 1 + 1) ([Value.str (txt (apW (seqX S X0 X1 X2 (i + 2)))) tC] ++ [Value.str (txt (apW (seqX S X0 X1 X2 (i + 1)))) tB]) p n tp tn) ++ own)) ++ own2) := fun q hq => N8 q (rot3 hq)
          clear N8
          k_steps
          (with_reducible rename Fr _ _ _ _ => F9)
          exact ForEnd.next (fr_at3 (x := "shares") (v := .ref sa) (x2 := "row") (v2 := .ref lr) (x3 := "total") (v3 := .int ((totF S X0 X1 X2 i (1 + 1) : Nat) : Int) _) F9 rfl rfl rfl) N10 (fun p hp => List.mem_append_left _ hp) (fun p hp => List.mem_append_right _ hp) ⟨_, _, _, _, _, _, hvs2, ⟨tA, tB, tC, rfl⟩, rfl, rfl⟩
        · refine Hold.in ?_
          (with_reducible rename Fr _ _ _ _ => F9)
          (with_reducible rename News _ _ _ _ => N9)
          have hz : S 1 = 0 := by omega
          have e0 := totF_zero (x0 := X0) (x1 := X1) (x2 := X2) (i := i) hz
          try rw [← e0] at F9
          refine c_pushR w ⟨pb, x, d, x2, d2, pb2, f, cc, lp, c2, c1, fd, co, o2, o1, a1, a2, a3, a4, a5, b1, b2, b3, b4, b5, b6, b7, nl, xt⟩ hok p n tp tn (npb2 + 1) (apW (seqX S X0 X1 X2 (i + 1))) tB [Value.str (txt (apW (seqX S X0 X1 X2 (i + 2)))) tC] (by simp) _ ((lr, listOf vs2.toArray nr2) :: ((L' + 1, o') :: (sa, listOf sv.toArray sn) :: (own ++ own2))) _ _ _ _ _ _ _ _ _ _ _ _ _ _ _ _ _ _ _ _ _ B' F9 X' N9 (fun q hq => List.mem_append_left _ hq) (List.forall_mem_cons.mpr ⟨.tail _ (.tail _ (.tail _ (.tail _ (.tail _ (.tail _ (.tail _ (.tail _ (.tail _ (.tail _ (.head _)))))))))), List.forall_mem_cons.mpr ⟨.tail _ (.tail _ (.tail _ (.tail _ (.tail _ (.tail _ (.tail _ (.tail _ (.tail _ (.tail _ (.tail _ (.head _))))))))))), List.forall_mem_cons.mpr ⟨.tail _ (.tail _ (.tail _ (.tail _ (.tail _ (.tail _ (.tail _ (.tail _ (.tail _ (.tail _ (.tail _ (.tail _ (.head _)))))))))))), fun q hq => .tail _ (.tail _ (.tail _ (.tail _ (.tail _ (.tail _ (.tail _ (.tail _ (.tail _ (.tail _ (.tail _ (.tail _ (.tail _ (hq)))))))))))))⟩⟩⟩) hOff T' rfl (by ktr_room) (by ktr_units) ?_
          intro h' tk9 F8 N8 kp8
          clear F9 N9 kp8
          have N10 : News _ _ _ (((lr, listOf vs2.toArray nr2) :: (L' + 1, o') :: (sa, listOf sv.toArray sn) :: ((LexA.led ⟨pb, x, d, x2, d2, pb2, f, cc, lp, c2, c1, fd, co, o2, o1, a1, a2, a3, a4, a5, b1, b2, b3, b4, b5, b6, b7, nl, xt⟩ w (npb2 + 1 + 1) ([Value.str (txt (apW (seqX S X0 X1 X2 (i + 2)))) tC] ++ [Value.str (txt (apW (seqX S X0 X1 X2 (i + 1)))) tB]) p n tp tn) ++ own)) ++ own2) := fun q hq => N8 q (rot3 hq)
          clear N8
          k_steps
          (with_reducible rename Fr _ _ _ _ => F9)
          exact ForEnd.next (fr_at3 (x := "shares") (v := .ref sa) (x2 := "row") (v2 := .ref lr) (x3 := "total") (v3 := .int ((totF S X0 X1 X2 i (1 + 1) : Nat) : Int) _) F9 rfl rfl rfl) N10 (fun p hp => List.mem_append_left _ hp) (fun p hp => List.mem_append_right _ hp) ⟨_, _, _, _, _, _, hvs2, ⟨tA, tB, tC, rfl⟩, rfl, rfl⟩
      · simp (decide := true) only [if_true, if_false] at N2 hvs2
        have hXk : ((seqX S X0 X1 X2 (i + 2)) : Nat) < 2 ^ 63 := Nat.lt_of_lt_of_le (hXlt _) (Nat.pow_le_pow_right (by decide) (by omega))
        have hnum := num_word w (seqX S X0 X1 X2 (i + 2)) hXk
        have hS' := hS 2
        have hshl : ∀ t t', 0 < S 2 → Pure w 21 1 8 [.int (((seqX S X0 X1 X2 (i + 2)) : Nat) : Int) t, .int ((S 2 : Int) - 1) t'] (fun t => .int ((((seqX S X0 X1 X2 (i + 2)) : Nat) : Int) * 2 ^ ((S 2 : Int) - 1).toNat) t) := fun t t' h => shl_word w _ _ t t' h hS' hXk
        have hxor : ∀ t t', 0 < S 2 → Pure w 28 1 8 [.int ((totF S X0 X1 X2 i 2 : Nat) : Int) t, .int ((((seqX S X0 X1 X2 (i + 2)) : Nat) : Int) * 2 ^ ((S 2 : Int) - 1).toNat) t'] (fun t => .int ((totF S X0 X1 X2 i (2 + 1) : Nat) : Int) t) := fun t t' h => xor_word w S X0 X1 X2 i 2 t t' h
        obtain ⟨tkS, hxS⟩ := hsv.get 2 (S 2 : Int) rfl
        have hxS' : sv[((2 : Nat) : Int).toNat]? = some (.int (S 2 : Int) tkS) := hxS
        k_with "mine sub" => (
          (with_reducible rename News _ _ _ _ => N9)
          k_dflt (refine item_litK (l := sa) (vs := sv) ⟨_, N9.get (show (sa, listOf sv.toArray sn) ∈ _ by simp only [List.mem_cons, eq_self, true_or, or_true]), rfl, _, rfl⟩ (by omega) (by omega) hxS' ?_))
        k_with "mine app" => refine Hold.out ?_
        k_with "mine call" => first
          | (k_dflt ((first | refine' (hnum _).use ?k1 ?k2 ?k3 ?k4 ?k5 ?kK ?kd ?ku ?_ | refine' (hshl _ _ (by omega)).use ?k1 ?k2 ?k3 ?k4 ?k5 ?kK ?kd ?ku ?_ | refine' (hxor _ _ (by omega)).use ?k1 ?k2 ?k3 ?k4 ?k5 ?kK ?kd ?ku ?_); (case k1 => k_asm); (case k2 => k_asm); (case k3 => k_asm); (case k4 => k_asm); (case k5 => k_asm); (case kK => exact rfl); (case kd => ktr_room); (case ku => ktr_units))
             intro t9 h9 tk9 F9 N9)
          | refine Hold.out ?_
        k_steps
        refine Hold.in ?_
        (with_reducible rename Fr _ _ _ _ => F9)
        (with_reducible rename News _ _ _ _ => N9)
        refine c_popR w ⟨pb, x, d, x2, d2, pb2, f, cc, lp, c2, c1, fd, co, o2, o1, a1, a2, a3, a4, a5, b1, b2, b3, b4, b5, b6, b7, nl, xt⟩ hok p n tp tn npb2 (apW (seqX S X0 X1 X2 (i + 2))) tC [Value.str (txt (apW (seqX S X0 X1 X2 (i + 1)))) tB] (by simp) _ ((lr, listOf vs2.toArray nr2) :: ((L' + 1, o') :: (sa, listOf sv.toArray sn) :: (own ++ own2))) _ _ _ _ _ _ _ _ _ _ _ _ _ _ _ _ _ _ _ _ _ B' F9 X' N9 (fun q hq => .tail _ (.tail _ (.tail _ (List.mem_append_left _ hq)))) (List.forall_mem_cons.mpr ⟨.head _, List.forall_mem_cons.mpr ⟨.tail _ (.head _), List.forall_mem_cons.mpr ⟨.tail _ (.tail _ (.head _)), fun q hq => .tail _ (.tail _ (.tail _ (.tail _ (.tail _ (.tail _ (.tail _ (.tail _ (.tail _ (.tail _ (.tail _ (.tail _ (.tail _ (hq)))))))))))))⟩⟩⟩) hOff T' rfl (by ktr_room) (by ktr_units) ?_
        intro h9 tk9 F8 N8 kp8
        clear F9 N9 kp8
        dsimp only [LexA.led, List.cons_append, List.nil_append] at N8
        k_steps
        · refine Hold.in ?_
          (with_reducible rename Fr _ _ _ _ => F9)
          (with_reducible rename News _ _ _ _ => N9)
          refine c_pushR w ⟨pb, x, d, x2, d2, pb2, f, cc, lp, c2, c1, fd, co, o2, o1, a1, a2, a3, a4, a5, b1, b2, b3, b4, b5, b6, b7, nl, xt⟩ hok p n tp tn (npb2 + 1) (apW (seqX S X0 X1 X2 (i + 2))) tC [Value.str (txt (apW (seqX S X0 X1 X2 (i + 1)))) tB] (by simp) _ ((lr, listOf vs2.toArray nr2) :: ((L' + 1, o') :: (sa, listOf sv.toArray sn) :: (own ++ own2))) _ _ _ _ _ _ _ _ _ _ _ _ _ _ _ _ _ _ _ _ _ B' F9 X' N9 (fun q hq => List.mem_append_left _ hq) (List.forall_mem_cons.mpr ⟨.tail _ (.tail _ (.tail _ (.tail _ (.tail _ (.tail _ (.tail _ (.tail _ (.tail _ (.tail _ (.head _)))))))))), List.forall_mem_cons.mpr ⟨.tail _ (.tail _ (.tail _ (.tail _ (.tail _ (.tail _ (.tail _ (.tail _ (.tail _ (.tail _ (.tail _ (.head _))))))))))), List.forall_mem_cons.mpr ⟨.tail _ (.tail _ (.tail _ (.tail _ (.tail _ (.tail _ (.tail _ (.tail _ (.tail _ (.tail _ (.tail _ (.tail _ (.head _)))))))))))), fun q hq => .tail _ (.tail _ (.tail _ (.tail _ (.tail _ (.tail _ (.tail _ (.tail _ (.tail _ (.tail _ (.tail _ (.tail _ (.tail _ (hq)))))))))))))⟩⟩⟩) hOff T' rfl (by ktr_room) (by ktr_units) ?_
          intro h' tk9 F8 N8 kp8
          clear F9 N9 kp8
          have N10 : News _ _ _ (((lr, listOf vs2.toArray nr2) :: (L' + 1, o') :: (sa, listOf sv.toArray sn) :: ((LexA.led ⟨pb, x, d, x2, d2, pb2, f, cc, lp, c2, c1, fd, co, o2, o1, a1, a2, a3, a4, a5, b1, b2, b3, b4, b5, b6, b7, nl, xt⟩ w (npb2 + 1 + 1) ([Value.str (txt (apW (seqX S X0 X1 X2 (i + 1)))) tB] ++ [Value.str (txt (apW (seqX S X0 X1 X2 (i + 2)))) tC]) p n tp tn) ++ own)) ++ own2) := fun q hq => N8 q (rot3 hq)
          clear N8
          k_steps
          (with_reducible rename Fr _ _ _ _ => F9)
          exact ForEnd.next (fr_at3 (x := "shares") (v := .ref sa) (x2 := "row") (v2 := .ref lr) (x3 := "total") (v3 := .int ((totF S X0 X1 X2 i (2 + 1) : Nat) : Int) _) F9 rfl rfl rfl) N10 (fun p hp => List.mem_append_left _ hp) (fun p hp => List.mem_append_right _ hp) ⟨_, _, _, _, _, _, hvs2, ⟨tA, tB, tC, rfl⟩, rfl, rfl⟩
        · refine Hold.in ?_
          (with_reducible rename Fr _ _ _ _ => F9)
          (with_reducible rename News _ _ _ _ => N9)
          have hz : S 2 = 0 := by omega
          have e0 := totF_zero (x0 := X0) (x1 := X1) (x2 := X2) (i := i) hz
          try rw [← e0] at F9
          refine c_pushR w ⟨pb, x, d, x2, d2, pb2, f, cc, lp, c2, c1, fd, co, o2, o1, a1, a2, a3, a4, a5, b1, b2, b3, b4, b5, b6, b7, nl, xt⟩ hok p n tp tn (npb2 + 1) (apW (seqX S X0 X1 X2 (i + 2))) tC [Value.str (txt (apW (seqX S X0 X1 X2 (i + 1)))) tB] (by simp) _ ((lr, listOf vs2.toArray nr2) :: ((L' + 1, o') :: (sa, listOf sv.toArray sn) :: (own ++ own2))) _ _ _ _ _ _ _ _ _ _ _ _ _ _ _ _ _ _ _ _ _ B' F9 X' N9 (fun q hq => List.mem_append_left _ hq) (List.forall_mem_cons.mpr ⟨.tail _ (.tail _ (.tail _ (.tail _ (.tail _ (.tail _ (.tail _ (.tail _ (.tail _ (.tail _ (.head _)))))))))), List.forall_mem_cons.mpr ⟨.tail _ (.tail _ (.tail _ (.tail _ (.tail _ (.tail _ (.tail _ (.tail _ (.tail _ (.tail _ (.tail _ (.head _))))))))))), List.forall_mem_cons.mpr ⟨.tail _ (.tail _ (.tail _ (.tail _ (.tail _ (.tail _ (.tail _ (.tail _ (.tail _ (.tail _ (.tail _ (.tail _ (.head _)))))))))))), fun q hq => .tail _ (.tail _ (.tail _ (.tail _ (.tail _ (.tail _ (.tail _ (.tail _ (.tail _ (.tail _ (.tail _ (.tail _ (.tail _ (hq)))))))))))))⟩⟩⟩) hOff T' rfl (by ktr_room) (by ktr_units) ?_
          intro h' tk9 F8 N8 kp8
          clear F9 N9 kp8
          have N10 : News _ _ _ (((lr, listOf vs2.toArray nr2) :: (L' + 1, o') :: (sa, listOf sv.toArray sn) :: ((LexA.led ⟨pb, x, d, x2, d2, pb2, f, cc, lp, c2, c1, fd, co, o2, o1, a1, a2, a3, a4, a5, b1, b2, b3, b4, b5, b6, b7, nl, xt⟩ w (npb2 + 1 + 1) ([Value.str (txt (apW (seqX S X0 X1 X2 (i + 1)))) tB] ++ [Value.str (txt (apW (seqX S X0 X1 X2 (i + 2)))) tC]) p n tp tn) ++ own)) ++ own2) := fun q hq => N8 q (rot3 hq)
          clear N8
          k_steps
          (with_reducible rename Fr _ _ _ _ => F9)
          exact ForEnd.next (fr_at3 (x := "shares") (v := .ref sa) (x2 := "row") (v2 := .ref lr) (x3 := "total") (v3 := .int ((totF S X0 X1 X2 i (2 + 1) : Nat) : Int) _) F9 rfl rfl rfl) N10 (fun p hp => List.mem_append_left _ hp) (fun p hp => List.mem_append_right _ hp) ⟨_, _, _, _, _, _, hvs2, ⟨tA, tB, tC, rfl⟩, rfl, rfl⟩
    · rintro m₁ _ h tk2 ⟨t2, npb2, nr2, vs2, pbs2, u3, hvs2, ⟨tA, tB, tC, rfl⟩, rfl, rfl⟩ F2 N2
      have hL2 := hL1
      have hOff : ∀ q ∈ (lr, listOf vs2.toArray nr2) :: (L' + 1, o') :: (sa, listOf sv.toArray sn) :: (own ++ []), q.1 ∉ [pb, x, d, x2, d2, f, cc, lp, c2, c1] := by
        refine List.forall_mem_cons.mpr ⟨hbig _ (Nat.lt_of_succ_lt hLr), List.forall_mem_cons.mpr ⟨hbig _ (Nat.lt_succ_self _), List.forall_mem_cons.mpr ⟨hoff, fun q hq => ?_⟩⟩⟩
        rw [List.append_nil] at hq
        rw [ho q hq]; exact hbig _ hL1
      simp (decide := true) only [if_true, if_false] at N2 hvs2
      rw [totF_three] at F2
      have hXk : (seqX S X0 X1 X2 (i + 3)) < 2 ^ 80 := Nat.lt_of_lt_of_le (hXlt _) (Nat.pow_le_pow_right (by decide) (by omega))
      have hword : ∀ t, Pure w 91 2 16 [.int ((seqX S X0 X1 X2 (i + 3) : Nat) : Int) t] (fun t => .str (txt (apW (seqX S X0 X1 X2 (i + 3)))) t) := fun t => by
        have := c_word w ((seqX S X0 X1 X2 (i + 3) : Nat) : Int) t (by omega) (by omega)
        rwa [Int.toNat_natCast] at this
      dsimp only [LexA.led, List.cons_append, List.nil_append] at N2
      clear F9 N9
      k_with "mine call" => first
        | (k_dflt ((first | refine' (hword _).use ?k1 ?k2 ?k3 ?k4 ?k5 ?kK ?kd ?ku ?_); (case k1 => k_asm); (case k2 => k_asm); (case k3 => k_asm); (case k4 => k_asm); (case k5 => k_asm); (case kK => exact rfl); (case kd => ktr_room); (case ku => ktr_units))
           intro t9 h9 tk9 F9 N9)
        | refine Hold.out ?_
      k_steps
      refine Hold.in ?_
      (with_reducible rename Fr _ _ _ _ => F9)
      (with_reducible rename News _ _ _ _ => N9)
      refine c_pushR w ⟨pb, x, d, x2, d2, pb2, f, cc, lp, c2, c1, fd, co, o2, o1, a1, a2, a3, a4, a5, b1, b2, b3, b4, b5, b6, b7, nl, xt⟩ hok p n tp tn npb2 (apW (seqX S X0 X1 X2 (i + 3))) _ [Value.str (txt (apW (seqX S X0 X1 X2 (i + 1)))) tB, Value.str (txt (apW (seqX S X0 X1 X2 (i + 2)))) tC] (by simp) _ ((lr, listOf vs2.toArray nr2) :: (L' + 1, o') :: (sa, listOf sv.toArray sn) :: (own ++ [])) _ _ _ _ _ _ _ _ _ _ _ _ _ _ _ _ _ _ _ _ _ B' F9 X' N9 (fun q hq => .tail _ (.tail _ (.tail _ (List.mem_append_left _ hq)))) (by rw [List.append_nil]; exact (List.forall_mem_cons.mpr ⟨.head _, List.forall_mem_cons.mpr ⟨.tail _ (.head _), List.forall_mem_cons.mpr ⟨.tail _ (.tail _ (.head _)), fun q hq => .tail _ (.tail _ (.tail _ (.tail _ (.tail _ (.tail _ (.tail _ (.tail _ (.tail _ (.tail _ (.tail _ (.tail _ (.tail _ (hq)))))))))))))⟩⟩⟩)) hOff T' rfl (by ktr_room) (by ktr_units) ?_
      intro h' tk9 F8 N8 kp8
      clear F9 N9 kp8
      have N10 := News.from N8 (l := ((lr, listOf vs2.toArray nr2) :: (L' + 1, o') :: (sa, listOf sv.toArray sn) :: (LexA.led ⟨pb, x, d, x2, d2, pb2, f, cc, lp, c2, c1, fd, co, o2, o1, a1, a2, a3, a4, a5, b1, b2, b3, b4, b5, b6, b7, nl, xt⟩ w (npb2 + 1) ([Value.str (txt (apW (seqX S X0 X1 X2 (i + 1)))) tB, Value.str (txt (apW (seqX S X0 X1 X2 (i + 2)))) tC] ++ [Value.str (txt (apW (seqX S X0 X1 X2 (i + 3)))) _]) p n tp tn)) ++ own) (fun q hq => rot4 hq)
      clear N8
      k_steps
      (with_reducible rename Fr _ _ _ _ => F9)
      exact ForEnd.next (fr_at2 (x := "shares") (v := .ref sa) (x2 := "row") (v2 := .ref lr) F9 rfl rfl) N10 (fun p hp => List.mem_append_left _ hp) (fun p hp => List.mem_append_right _ hp) ⟨tu, _, _, _, _, _, _, _, hvs2, rfl, rfl⟩
  · rintro m₁ _ h tk2 ⟨t2, npb2, nr2, tA, tB, tC, vs2, u3, hvs2, rfl, rfl⟩ F2 N2
    dsimp only [LexA.led, List.cons_append, List.nil_append] at N2
    clear F9 N9
    k_with "mine comp" => refine Hold.out ?_
    k_steps
    refine Hold.in ?_
    (with_reducible rename Fr _ _ _ _ => F9)
    (with_reducible rename News _ _ _ _ => N9)
    refine LCg.ListComp_U (cl := [(PySem.Str.ofString "lexer", L' + 1)]) F9 (by rfl) (by decide) (by rfl) (by decide) (by rfl) ?_
    k_steps
    refine Hold.in ?_
    (with_reducible rename Fr _ _ _ _ => F9)
    (with_reducible rename News _ _ _ _ => N9)
    refine LCg.CompSrc.range (n := 3) rfl F9 N9 (by assumption) (by decide) (by decide) (by rw [sizeLine_eq]; decide) fun g9 => ?_
    refine compRest_inv (fun k ys news' => ∃ (npb' : Nat) (pbs : List Value), (∃ tA tB tC, pbs = [Value.str (txt (apW (seqX S X0 X1 X2 turns))) tA, Value.str (txt (apW (seqX S X0 X1 X2 (turns + 1)))) tB, Value.str (txt (apW (seqX S X0 X1 X2 (turns + 2)))) tC].drop k) ∧ StrsAre ys ([txt (apW (seqX S X0 X1 X2 turns)), txt (apW (seqX S X0 X1 X2 (turns + 1))), txt (apW (seqX S X0 X1 X2 (turns + 2)))].take k) ∧ news' = (lr, listOf vs2.toArray nr2) :: (L' + 1, o') :: (sa, listOf sv.toArray sn) :: (LexA.led ⟨pb, x, d, x2, d2, pb2, f, cc, lp, c2, c1, fd, co, o2, o1, a1, a2, a3, a4, a5, b1, b2, b3, b4, b5, b6, b7, nl, xt⟩ w npb' pbs p n tp tn)) ?fin ?step _ 0 [] _ (Nat.zero_add _) ⟨_, _, ⟨tA, tB, tC, rfl⟩, .nil, rfl⟩
    case fin =>
      rintro ys _ ⟨npb3, pbs3, ⟨tA', tB', tC', rfl⟩, hys, rfl⟩
      unfold LCg.FinE
      intro D h' tk' F' N' o1
      dsimp only [LexA.led, List.cons_append, List.nil_append] at N'
      k_steps
      (with_reducible rename Fr _ _ _ _ => F9)
      refine add_lists (l := lr) (b := D) (vs := vs2) (ws := ys) F9 N' ⟨_, N'.get (show (lr, listOf vs2.toArray nr2) ∈ _ by simp only [List.mem_cons, eq_self, true_or, or_true]), rfl, _, rfl⟩ ⟨_, N'.get (show (D, LCg.lst ys) ∈ _ by simp only [List.mem_cons, eq_self, true_or, or_true]), rfl, _, rfl⟩ ?_ ?hsz9
      case hsz9 => (rw [sizeLine_eq, strsAre_len hvs2, strsAre_len hys, show (wordsOf (seqX S X0 X1 X2) turns).length = turns by unfold wordsOf; simp]; simp only [List.length_take, List.length_cons, List.length_nil]; omega)
      intro h3 F3 N3
      have hlt := lt_news N'
      clear F9 N'
      dsimp only [List.drop] at F3 N3 hlt ⊢
      generalize h'.objs.size = lq at N3 hlt ⊢
      k_steps
      (with_reducible rename KeepBut _ _ _ => kpF)
      (with_reducible rename News h₀ _ _ _ => NF)
      (with_reducible rename Fr h₀ _ _ _ => FF)
      have hvs9 : StrsAre (vs2 ++ ys) (wordsOf (seqX S X0 X1 X2) (turns + 3)) := by
        rw [wordsOf_succ, wordsOf_succ, wordsOf_succ, List.append_assoc, List.append_assoc]
        exact strsAre_app hvs2 hys
      simp only [List.forall_mem_cons] at hlt
      obtain ⟨-, -, -, qs, q0, q1, q2, q3, q4, q5, q6, q7, q8, q9, -⟩ := hlt
      refine hret lq 0 npb3 (vs2 ++ ys) _ _ FF (News.from NF (fun q hq => ?_)) hvs9 kpF ?_ qs
      · rcases List.mem_cons.mp hq with rfl | hq
        · exact .head _
        · exact .tail _ (.tail _ (.tail _ (.tail _ hq)))
      · intro b hb
        simp only [List.mem_cons, List.not_mem_nil, or_false] at hb
        rcases hb with rfl | rfl | rfl | rfl | rfl | rfl | rfl | rfl | rfl | rfl <;> assumption
    case step =>
      rintro k ys _ hk3 ⟨npb3, pbs3, ⟨tA', tB', tC', rfl⟩, hys, rfl⟩ v I oI C oC D m₂ h' tk' ⟨tv, rfl⟩ hC hx F' N' off ne
      have hIn : ∀ b ∈ [pb, x, d, x2, d2, f, cc, lp, c2, c1], b ≠ I ∧ b ≠ C ∧ b ≠ D := by
        intro b hb
        obtain ⟨q, hq, rfl⟩ := List.mem_map.mp (show b ∈ ((LexA.led ⟨pb, x, d, x2, d2, pb2, f, cc, lp, c2, c1, fd, co, o2, o1, a1, a2, a3, a4, a5, b1, b2, b3, b4, b5, b6, b7, nl, xt⟩ w npb3 ([Value.str (txt (apW (seqX S X0 X1 X2 turns))) tA', Value.str (txt (apW (seqX S X0 X1 X2 (turns + 1)))) tB', Value.str (txt (apW (seqX S X0 X1 X2 (turns + 2)))) tC'].drop k) p n tp tn)).map (·.1) from hb)
        exact off.mem q (.tail _ (.tail _ (.tail _ hq)))
      have hOff : ∀ q ∈ (I, oI) :: (C, oC) :: (D, LCg.lst ys) :: (lr, listOf vs2.toArray nr2) :: (L' + 1, o') :: [(sa, listOf sv.toArray sn)], q.1 ∉ [pb, x, d, x2, d2, f, cc, lp, c2, c1] :=
        List.forall_mem_cons.mpr ⟨fun h => (hIn _ h).1 rfl, List.forall_mem_cons.mpr ⟨fun h => (hIn _ h).2.1 rfl, List.forall_mem_cons.mpr ⟨fun h => (hIn _ h).2.2 rfl, List.forall_mem_cons.mpr ⟨hbig _ (Nat.lt_of_succ_lt hLr), List.forall_mem_cons.mpr ⟨hbig _ (Nat.lt_succ_self _), List.forall_mem_cons.mpr ⟨hoff, fun q hq => nomatch hq⟩⟩⟩⟩⟩⟩
      dsimp only [LexA.led, List.cons_append, List.nil_append] at N'
      k_with "mine call" => refine Hold.out ?_
      have hd3 : k = 0 ∨ k = 1 ∨ k = 2 := by omega
      rcases hd3 with rfl | rfl | rfl
      · dsimp only [List.drop] at N'
        k_steps
        refine Hold.in ?_
        (with_reducible rename Fr _ _ _ _ => F9)
        (with_reducible rename News _ _ _ _ => N9)
        refine c_popR w ⟨pb, x, d, x2, d2, pb2, f, cc, lp, c2, c1, fd, co, o2, o1, a1, a2, a3, a4, a5, b1, b2, b3, b4, b5, b6, b7, nl, xt⟩ hok p n tp tn npb3 (apW (seqX S X0 X1 X2 turns)) tA' [Value.str (txt (apW (seqX S X0 X1 X2 (turns + 1)))) tB', Value.str (txt (apW (seqX S X0 X1 X2 (turns + 2)))) tC'] (by simp) _ ((I, oI) :: (C, oC) :: (D, LCg.lst ys) :: (lr, listOf vs2.toArray nr2) :: (L' + 1, o') :: [(sa, listOf sv.toArray sn)]) _ _ _ _ _ _ _ _ _ _ _ _ _ _ _ _ _ _ _ _ _ B' F9 X' N9 (fun q hq => .tail _ (.tail _ (.tail _ (.tail _ (.tail _ (.tail _ (hq))))))) (List.forall_mem_cons.mpr ⟨.head _, List.forall_mem_cons.mpr ⟨.tail _ (.head _), List.forall_mem_cons.mpr ⟨.tail _ (.tail _ (.head _)), List.forall_mem_cons.mpr ⟨.tail _ (.tail _ (.tail _ (.head _))), List.forall_mem_cons.mpr ⟨.tail _ (.tail _ (.tail _ (.tail _ (.head _)))), List.forall_mem_cons.mpr ⟨.tail _ (.tail _ (.tail _ (.tail _ (.tail _ (.head _))))), fun q hq => nomatch hq⟩⟩⟩⟩⟩⟩) hOff T' rfl (by ktr_room) (by ktr_units) ?_
        intro h9 tk9 F8 N8 kp8
        clear F9 N9 kp8
        have N10 := News.from N8 (l := (I, oI) :: (C, oC) :: (D, LCg.lst ys) :: ((lr, listOf vs2.toArray nr2) :: (L' + 1, o') :: (sa, listOf sv.toArray sn) :: (LexA.led ⟨pb, x, d, x2, d2, pb2, f, cc, lp, c2, c1, fd, co, o2, o1, a1, a2, a3, a4, a5, b1, b2, b3, b4, b5, b6, b7, nl, xt⟩ w (npb3 + 1) [Value.str (txt (apW (seqX S X0 X1 X2 (turns + 1)))) tB', Value.str (txt (apW (seqX S X0 X1 X2 (turns + 2)))) tC'] p n tp tn))) (fun q hq => rot6 hq)
        clear N8
        k_steps
        (with_reducible rename Fr _ _ _ _ => F9)
        refine LCg.CompEnd.intro F9 N10 ((lr, listOf vs2.toArray nr2) :: (L' + 1, o') :: (sa, listOf sv.toArray sn) :: (LexA.led ⟨pb, x, d, x2, d2, pb2, f, cc, lp, c2, c1, fd, co, o2, o1, a1, a2, a3, a4, a5, b1, b2, b3, b4, b5, b6, b7, nl, xt⟩ w (npb3 + 1) [Value.str (txt (apW (seqX S X0 X1 X2 (turns + 1)))) tB', Value.str (txt (apW (seqX S X0 X1 X2 (turns + 2)))) tC'] p n tp tn)) (fun q hq => hq) off trivial ⟨_, _, ⟨tA', tB', tC', rfl⟩, ?_, rfl⟩
        exact strsAre_snoc hys
      · dsimp only [List.drop] at N'
        k_steps
        refine Hold.in ?_
        (with_reducible rename Fr _ _ _ _ => F9)
        (with_reducible rename News _ _ _ _ => N9)
        refine c_popR w ⟨pb, x, d, x2, d2, pb2, f, cc, lp, c2, c1, fd, co, o2, o1, a1, a2, a3, a4, a5, b1, b2, b3, b4, b5, b6, b7, nl, xt⟩ hok p n tp tn npb3 (apW (seqX S X0 X1 X2 (turns + 1))) tB' [Value.str (txt (apW (seqX S X0 X1 X2 (turns + 2)))) tC'] (by simp) _ ((I, oI) :: (C, oC) :: (D, LCg.lst ys) :: (lr, listOf vs2.toArray nr2) :: (L' + 1, o') :: [(sa, listOf sv.toArray sn)]) _ _ _ _ _ _ _ _ _ _ _ _ _ _ _ _ _ _ _ _ _ B' F9 X' N9 (fun q hq => .tail _ (.tail _ (.tail _ (.tail _ (.tail _ (.tail _ (hq))))))) (List.forall_mem_cons.mpr ⟨.head _, List.forall_mem_cons.mpr ⟨.tail _ (.head _), List.forall_mem_cons.mpr ⟨.tail _ (.tail _ (.head _)), List.forall_mem_cons.mpr ⟨.tail _ (.tail _ (.tail _ (.head _))), List.forall_mem_cons.mpr ⟨.tail _ (.tail _ (.tail _ (.tail _ (.head _)))), List.forall_mem_cons.mpr ⟨.tail _ (.tail _ (.tail _ (.tail _ (.tail _ (.head _))))), fun q hq => nomatch hq⟩⟩⟩⟩⟩⟩) hOff T' rfl (by ktr_room) (by ktr_units) ?_
        intro h9 tk9 F8 N8 kp8
        clear F9 N9 kp8
        have N10 := News.from N8 (l := (I, oI) :: (C, oC) :: (D, LCg.lst ys) :: ((lr, listOf vs2.toArray nr2) :: (L' + 1, o') :: (sa, listOf sv.toArray sn) :: (LexA.led ⟨pb, x, d, x2, d2, pb2, f, cc, lp, c2, c1, fd, co, o2, o1, a1, a2, a3, a4, a5, b1, b2, b3, b4, b5, b6, b7, nl, xt⟩ w (npb3 + 1) [Value.str (txt (apW (seqX S X0 X1 X2 (turns + 2)))) tC'] p n tp tn))) (fun q hq => rot6 hq)
        clear N8
        k_steps
        (with_reducible rename Fr _ _ _ _ => F9)
        refine LCg.CompEnd.intro F9 N10 ((lr, listOf vs2.toArray nr2) :: (L' + 1, o') :: (sa, listOf sv.toArray sn) :: (LexA.led ⟨pb, x, d, x2, d2, pb2, f, cc, lp, c2, c1, fd, co, o2, o1, a1, a2, a3, a4, a5, b1, b2, b3, b4, b5, b6, b7, nl, xt⟩ w (npb3 + 1) [Value.str (txt (apW (seqX S X0 X1 X2 (turns + 2)))) tC'] p n tp tn)) (fun q hq => hq) off trivial ⟨_, _, ⟨tA', tB', tC', rfl⟩, ?_, rfl⟩
        exact strsAre_snoc hys
      · dsimp only [List.drop] at N'
        k_steps
        refine Hold.in ?_
        (with_reducible rename Fr _ _ _ _ => F9)
        (with_reducible rename News _ _ _ _ => N9)
        refine c_popR w ⟨pb, x, d, x2, d2, pb2, f, cc, lp, c2, c1, fd, co, o2, o1, a1, a2, a3, a4, a5, b1, b2, b3, b4, b5, b6, b7, nl, xt⟩ hok p n tp tn npb3 (apW (seqX S X0 X1 X2 (turns + 2))) tC' [] (by simp) _ ((I, oI) :: (C, oC) :: (D, LCg.lst ys) :: (lr, listOf vs2.toArray nr2) :: (L' + 1, o') :: [(sa, listOf sv.toArray sn)]) _ _ _ _ _ _ _ _ _ _ _ _ _ _ _ _ _ _ _ _ _ B' F9 X' N9 (fun q hq => .tail _ (.tail _ (.tail _ (.tail _ (.tail _ (.tail _ (hq))))))) (List.forall_mem_cons.mpr ⟨.head _, List.forall_mem_cons.mpr ⟨.tail _ (.head _), List.forall_mem_cons.mpr ⟨.tail _ (.tail _ (.head _)), List.forall_mem_cons.mpr ⟨.tail _ (.tail _ (.tail _ (.head _))), List.forall_mem_cons.mpr ⟨.tail _ (.tail _ (.tail _ (.tail _ (.head _)))), List.forall_mem_cons.mpr ⟨.tail _ (.tail _ (.tail _ (.tail _ (.tail _ (.head _))))), fun q hq => nomatch hq⟩⟩⟩⟩⟩⟩) hOff T' rfl (by ktr_room) (by ktr_units) ?_
        intro h9 tk9 F8 N8 kp8
        clear F9 N9 kp8
        have N10 := News.from N8 (l := (I, oI) :: (C, oC) :: (D, LCg.lst ys) :: ((lr, listOf vs2.toArray nr2) :: (L' + 1, o') :: (sa, listOf sv.toArray sn) :: (LexA.led ⟨pb, x, d, x2, d2, pb2, f, cc, lp, c2, c1, fd, co, o2, o1, a1, a2, a3, a4, a5, b1, b2, b3, b4, b5, b6, b7, nl, xt⟩ w (npb3 + 1) [] p n tp tn))) (fun q hq => rot6 hq)
        clear N8
        k_steps
        (with_reducible rename Fr _ _ _ _ => F9)
        refine LCg.CompEnd.intro F9 N10 ((lr, listOf vs2.toArray nr2) :: (L' + 1, o') :: (sa, listOf sv.toArray sn) :: (LexA.led ⟨pb, x, d, x2, d2, pb2, f, cc, lp, c2, c1, fd, co, o2, o1, a1, a2, a3, a4, a5, b1, b2, b3, b4, b5, b6, b7, nl, xt⟩ w (npb3 + 1) [] p n tp tn)) (fun q hq => hq) off trivial ⟨_, _, ⟨tA', tB', tC', rfl⟩, ?_, rfl⟩
        exact strsAre_snoc hys
end
section
theorem odd_int (pl a : Nat) : ((8 : Int) ^ ((pl : Int) + 2 * (a : Int)).toNat - 1).fdiv 7 = ((oddN (pl + 2 * a) : Nat) : Int) := by
  rw [show ((pl : Int) + 2 * (a : Int)).toNat = pl + 2 * a by omega, Int.fdiv_eq_ediv_of_nonneg _ (by decide)]
  have h := oddN_eq (pl + 2 * a)
  have h2 : ((oddN (pl + 2 * a) * 7 + 1 : Nat) : Int) = (8 : Int) ^ (pl + 2 * a) := by rw [h, Int.natCast_pow]; rfl
  omega
theorem fr_at4 {h₀ h : Heap} {L : Addr} {m : Str → Option Value} {x x2 x3 x4 : Str} {v v2 v3 v4 : Value} (F : Fr h₀ L h m) (e : m x = some v) (e2 : m x2 = some v2) (e3 : m x3 = some v3) (e4 : m x4 = some v4) :
    Fr h₀ L h (fun y => if y = x then some v else if y = x2 then some v2 else if y = x3 then some v3 else if y = x4 then some v4 else m y) := by
  have em : (fun y => if y = x then some v else if y = x2 then some v2 else if y = x3 then some v3 else if y = x4 then some v4 else m y) = m := by
    funext y
    split
    · subst_vars; exact e.symm
    · split
      · subst_vars; exact e2.symm
      · split
        · subst_vars; exact e3.symm
        · split
          · subst_vars; exact e4.symm
          · rfl
  rw [em]; exact F
theorem fr_at6 {h₀ h : Heap} {L : Addr} {m : Str → Option Value} {x x2 x3 x4 x5 x6 : Str} {v v2 v3 v4 v5 v6 : Value} (F : Fr h₀ L h m) (e : m x = some v) (e2 : m x2 = some v2) (e3 : m x3 = some v3) (e4 : m x4 = some v4) (e5 : m x5 = some v5) (e6 : m x6 = some v6) :
    Fr h₀ L h (fun y => if y = x then some v else if y = x2 then some v2 else if y = x3 then some v3 else if y = x4 then some v4 else if y = x5 then some v5 else if y = x6 then some v6 else m y) := by
  have em : (fun y => if y = x then some v else if y = x2 then some v2 else if y = x3 then some v3 else if y = x4 then some v4 else if y = x5 then some v5 else if y = x6 then some v6 else m y) = m := by
    funext y
    split
    · subst_vars; exact e.symm
    · split
      · subst_vars; exact e2.symm
      · split
        · subst_vars; exact e3.symm
        · split
          · subst_vars; exact e4.symm
          · split
            · subst_vars; exact e5.symm
            · split
              · subst_vars; exact e6.symm
              · rfl
  rw [em]; exact F
theorem mul_ok {a b : Int} (h0 : 0 ≤ a) (h1 : a < 8 ^ 80) (h2 : 0 ≤ b) (h3 : b < 8 ^ 80) : IntMulOk a b :=
  .of_bits (Nat.le_trans (intBits_le (k := 240) (by omega)) (by decide)) (Nat.le_trans (intBits_le (k := 240) (by omega)) (by decide))
theorem mul_okN {p q : Nat} (hp : p < 8 ^ 80) (hq : q < 8 ^ 80) : IntMulOk (p : Int) (q : Int) := mul_ok (by omega) (by omega) (by omega) (by omega)
theorem mul_okS {s q : Nat} (h : 0 < s) (hs : s ≤ 3) (hq : q < 8 ^ 80) : IntMulOk ((s : Int) - 1) (q : Int) := mul_ok (by omega) (by omega) (by omega) (by omega)
theorem idx1 {k : Nat} (h : k < 3) : 0 ≤ (k : Int) ∧ (k : Int) < 2 ^ 63 := by omega
theorem idx2 {i j : Nat} (hi : i + j < 25) : 0 ≤ (i : Int) + (j : Int) ∧ (i : Int) + (j : Int) < 2 ^ 63 := by omega
theorem min_K {prog : Program} {w : World} {A : Around} {E : Value → Shared → Prop} {s : Shared} {h₀ : Heap} {L : Addr} {m : Str → Option Value} {news : List (Addr × Obj)} {a b : Int} {t u : Tok} {Q : Value → Shared → Prop} (F : Fr h₀ L s.heap m) (N : News h₀ L s.heap news) (hh : A.handled = none)
    (h : ∀ t' h' tk, Fr h₀ L h' m → News h₀ L h' news → Q (.int (if b < a then b else a) t') { s with heap := h', toks := tk }) :
    wpAny (model prog w) A (call (.builtin "min") [.int a t, .int b u]) Q E s := by
  refine min_two_ints hh fun h' tk kp => ?_
  have F' : Fr h₀ L h' m := F.keeps kp
  have N' : News h₀ L h' news := N.grown kp
  by_cases hb : b < a
  · have := h u h' tk F' N'
    rw [if_pos hb] at this ⊢
    exact this
  · have := h t h' tk F' N'
    rw [if_neg hb] at this ⊢
    exact this
theorem small71 {c : Int} (h0 : -40 ≤ c) (h1 : c ≤ 40) : Builtin.Range.small 0 c 1 = true ∧ Builtin.Range.rangeSize 0 c 1 = (c.toNat : Int) := by
  have key : ∀ k : Fin 81, Builtin.Range.small 0 ((k.val : Int) - 40) 1 = true ∧ Builtin.Range.rangeSize 0 ((k.val : Int) - 40) 1 = (((k.val : Int) - 40).toNat : Int) := by decide +kernel
  have := key ⟨(c + 40).toNat, by omega⟩
  rwa [show (((c + 40).toNat : Nat) : Int) - 40 = c by omega] at this
abbrev JO1 (spa sa : Addr) (spv sv : List Value) (n1 n2 : Nat) (news : List (Addr × Obj)) (S x : Nat → Nat) (a pl : Nat) (i : Nat) (m' : Str → Option Value) (news' : List (Addr × Obj)) : Prop :=
  (spa, listOf spv.toArray n1) :: (sa, listOf sv.toArray n2) :: news = news' ∧ ∃ (t1 t2 : Tok) (u : Str → Option Value), m' = fun z : Str => if z = "spreads" then some (Value.ref spa) else if z = "shares" then some (Value.ref sa) else if z = "apart" then some (.int a t1) else if z = "odd" then some (.int ((oddN (pl + 2 * a) : Nat) : Int) t2) else u z
abbrev JO2 (spa sa : Addr) (spv sv : List Value) (n1 n2 : Nat) (news : List (Addr × Obj)) (S x : Nat → Nat) (a pl : Nat) (own : List (Addr × Obj)) (i : Nat) (k : Nat) (m' : Str → Option Value) (news' : List (Addr × Obj)) : Prop :=
  (spa, listOf spv.toArray n1) :: (sa, listOf sv.toArray n2) :: (news ++ own) = news' ∧ ∃ (t1 t2 t3 t4 : Tok) (u : Str → Option Value), m' = fun z : Str => if z = "spreads" then some (Value.ref spa) else if z = "shares" then some (Value.ref sa) else if z = "apart" then some (.int a t1) else if z = "odd" then some (.int ((oddN (pl + 2 * a) : Nat) : Int) t2) else if z = "n" then some (.int i t3) else if z = "total" then some (.int ((spT S x a i k : Nat) : Int) t4) else u z
theorem c_obeys (w : World) (spa sa : Addr) (spv sv : List Value) (n1 n2 : Nat) (x S : Nat → Nat) (len a pl : Nat) (ta tp : Tok)
    (hsp : IntsAre spv ((List.range len).map fun k => ((spN (x k) : Nat) : Int))) (hsv : IntsAre sv [(S 0 : Int), (S 1 : Int), (S 2 : Int)]) (hS : ∀ k, S k ≤ 3) (hlen : len ≤ 25) (hx : ∀ k, k < len → x k < 2 ^ 70) (ha0 : 1 ≤ a) (ha : a ≤ 8) (hpl : pl ≤ 100) (hR : Rule S x a)
   (loose : List Str) (mean : ExcName → Option Value) (mg mb : Str → Option Value) (news : List (Addr × Obj))
    (dp un : Nat) (gd : Option (List Code)) (cn : Str) (cs : Scope) (a' : Addr) (ccd : Value) (cl : List (Str × Addr)) (outer : List Env) (A₀ : Around) (base h₀ : Heap) (L : Addr) (m : Str → Option Value) (s : Shared) (Q E : Value → Shared → Prop)
    (B : Below A₀ base outer h₀) (F : Fr h₀ L s.heap m) (X : (hd.heap_39 w.params).In h₀) (N : News h₀ L s.heap ((spa, listOf spv.toArray n1) :: (sa, listOf sv.toArray n2) :: news)) (T : Top topProg loose mean mg mb h₀) (hk : cs.kind = .function)
    (hdp : dp + 4 < recursionLimit) (hun : un + 40 < cLine)
    (hret : ∀ (h' : Heap) (tk' : Nat), Fr h₀ L h' m → News h₀ L h' ((spa, listOf spv.toArray n1) :: (sa, listOf sv.toArray n2) :: news) → Q (.bool true) { s with heap := h', toks := tk' }) :
      wpAny (model PySem.Challenge.rw_wn0021_01.row.prog w) (ktrTop dp un gd cn cs L a' ccd cl outer) (call (.ref 136) [.ref spa, .ref sa, .int a ta, .int pl tp]) Q E s := by
  k_with_none
  w_top off
  k_with "hk exec For Name Call cons nil" => refine Hold.out ?_
  k_with "hk pyIter ref" => refine Hold.out ?_
  revert X; k_fill; intro X
  refine wpAny_call ?_
  k_dflt cell_enter
  refine noE ?_
  have hlv : spv.length = len := by rw [hsp.length]; simp
  k_steps
  refine Hold.in ?_
  have hodd : ((8 : Int) ^ ((pl : Int) + 2 * (a : Int)).toNat - 1).fdiv 7 = ((oddN (pl + 2 * a) : Nat) : Int) := odd_int pl a
  rename Fr _ _ _ _ => F9
  rename News _ _ _ _ => N9
  rw [hodd] at F9
  have F8 := fr_at4 (x := "spreads") (v := .ref spa) (x2 := "shares") (v2 := .ref sa) (x3 := "apart") (v3 := .int a _) (x4 := "odd") (v4 := .int ((oddN (pl + 2 * a) : Nat) : Int) _) F9 rfl rfl rfl rfl
  clear F9
  obtain ⟨c, hc⟩ : ∃ c : Int, (if (len : Int) - 3 * (a : Int) < 3 * (a : Int) then (len : Int) - 3 * (a : Int) else 3 * (a : Int)) = c := ⟨_, rfl⟩
  have hcb : -40 ≤ c ∧ c ≤ 40 ∧ c + 3 * (a : Int) ≤ len := by
    rw [← hc]; split <;> omega
  k_with "call builtin:len" => (
    (with_reducible rename News _ _ _ _ => N9)
    k_dflt (refine len_list (l := spa) (items := spv.toArray) ⟨_, N9.get (.head _), rfl, _, rfl⟩ (by rw [List.size_toArray]; omega) ?_)
    rw [List.size_toArray, hlv])
  k_with "call builtin:min" => (
    (with_reducible rename News _ _ _ _ => N9)
    (with_reducible rename Fr _ _ _ _ => F9)
    k_dflt (refine min_K F9 N9 rfl ?_)
    clear F9 N9
    intro tM hM tkM F9 N9
    rw [hc])
  refine For_O ?_
  k_steps
  refine Hold.in ?_
  rename Fr _ _ _ _ => F9
  rename News _ _ _ _ => N9
  refine' it_range (n := c.toNat) (JO1 spa sa spv sv n1 n2 news S x a pl) ?h1 ?h2 ?h3 ?h4 ?h5 ?h6 ?h7 ?h8 ?h9 ?h10 ?h11 ?h12 ?h13
  case h1 => rfl
  case h2 => assumption
  case h3 => exact (small71 hcb.1 hcb.2.1).1
  case h4 => exact (small71 hcb.1 hcb.2.1).2
  case h6 => exact F9
  case h7 => exact N9
  case h8 => rfl
  case h9 => exact ⟨rfl, _, _, _, rfl⟩
  case h12 => rfl
  case h13 => rfl
  · rintro _ _ _ ⟨rfl, _⟩
    exact lt_size_news N9
  · rintro i u m₁ nw h tk own hi ⟨hnw, t1, t2, u1, rfl⟩ ho F' N'
    subst hnw
    dsimp only at F'
    rw [Int.zero_add] at F'
    dsimp only [List.cons_append] at N'
    clear F9 N9
    have hil : i + 3 * a < len := by omega
    have hget : ∀ j, j < len → ∃ tk, spv[j]? = some (.int ((spN (x j) : Nat) : Int) tk) := fun j hj => hsp.get j _ (by rw [List.getElem?_map, List.getElem?_range hj]; rfl)
    obtain ⟨tk3, hx3⟩ := hget (i + 3 * a) hil
    have hx3' : spv[((i : Int) + 3 * (a : Int)).toNat]? = some (.int ((spN (x (i + 3 * a)) : Nat) : Int) tk3) := by rw [show ((i : Int) + 3 * (a : Int)).toNat = i + 3 * a by omega]; exact hx3
    k_with "mine sub" => (
      (with_reducible rename News _ _ _ _ => N9)
      k_dflt (refine item_litK (l := spa) (vs := spv) ⟨_, N9.get (.head _), rfl, _, rfl⟩ (by omega) (by omega) hx3' ?_))
    k_steps
    refine Hold.in ?_
    refine For_O ?_
    k_steps
    refine Hold.in ?_
    (with_reducible rename Fr _ _ _ _ => F9)
    (with_reducible rename News _ _ _ _ => N9)
    refine' it_range (n := 3) (JO2 spa sa spv sv n1 n2 news S x a pl own i) ?g1 ?g2 ?g3 ?g4 ?g5 ?g6 ?g7 ?g8 ?g9 ?g10 ?g11 ?g12 ?g13
    case g1 => rfl
    case g2 => assumption
    case g3 => decide
    case g4 => decide
    case g6 => exact fr_at6 (x := "spreads") (v := .ref spa) (x2 := "shares") (v2 := .ref sa) (x3 := "apart") (v3 := .int a _) (x4 := "odd") (v4 := .int ((oddN (pl + 2 * a) : Nat) : Int) _) (x5 := "n") (v5 := .int i _) (x6 := "total") (v6 := .int ((spT S x a i 0 : Nat) : Int) _) F9 rfl rfl rfl rfl rfl rfl
    case g7 => exact N9
    case g8 => rfl
    case g9 => exact ⟨rfl, _, _, _, _, _, rfl⟩
    case g12 => rfl
    case g13 => rfl
    · rintro _ _ _ ⟨rfl, _⟩
      exact lt_size_news N9
    · rintro k u2 m₁ nw h tk2 own2 hk3 ⟨hnw, t3, t4, t5, t6, u3, rfl⟩ ho2 F2 N2
      subst hnw
      dsimp only at F2
      rw [Int.zero_add] at F2
      dsimp only [List.cons_append] at N2
      clear F9 N9
      have hSk := hS k
      have hk80 : k < 8 ^ 80 := Nat.lt_of_lt_of_le hk3 (by decide)
      have ha80 : a < 8 ^ 80 := Nat.lt_of_le_of_lt ha (by decide)
      obtain ⟨tkS, hxS⟩ : ∃ tk, sv[k]? = some (.int (S k : Int) tk) := by
        have hd : k = 0 ∨ k = 1 ∨ k = 2 := by omega
        rcases hd with rfl | rfl | rfl
        · exact hsv.get 0 _ rfl
        · exact hsv.get 1 _ rfl
        · exact hsv.get 2 _ rfl
      have hxS' : sv[((k : Nat) : Int).toNat]? = some (.int (S k : Int) tkS) := hxS
      have hka : k * a ≤ 2 * a := Nat.mul_le_mul_right a (by omega)
      have hkl : i + k * a < len := by omega
      have hk25 : i + k * a < 25 := Nat.lt_of_lt_of_le hkl hlen
      obtain ⟨tkk, hxk⟩ := hget (i + k * a) hkl
      have hkaI : (k : Int) * (a : Int) = ((k * a : Nat) : Int) := by rw [Int.natCast_mul]
      have hxk' : spv[((i : Int) + ((k * a : Nat) : Int)).toNat]? = some (.int ((spN (x (i + k * a)) : Nat) : Int) tkk) := by rw [show ((i : Int) + ((k * a : Nat) : Int)).toNat = i + k * a by omega]; exact hxk
      have hE : 0 < S k → ((S k : Int) - 1) * (a : Int) = (((S k - 1) * a : Nat) : Int) := fun h => by rw [Int.natCast_mul]; congr 1; omega
      have hEb : (S k - 1) * a ≤ 16 := Nat.le_trans (Nat.mul_le_mul (show S k - 1 ≤ 2 by omega) ha) (by decide)
      have hP : (8 : Int) ^ ((((S k - 1) * a : Nat) : Int)).toNat = ((8 ^ ((S k - 1) * a) : Nat) : Int) := by rw [Int.toNat_natCast, Int.natCast_pow]; rfl
      have hPb : 8 ^ ((S k - 1) * a) ≤ 8 ^ 16 := Nat.pow_le_pow_right (by decide) hEb
      have hXb : spN (x (i + k * a)) < 8 ^ 70 := spN_lt 70 _ (hx _ hkl)
      have hT : 0 < S k → ((spT S x a i k : Nat) : Int) + ((spN (x (i + k * a)) : Nat) : Int) * ((8 ^ ((S k - 1) * a) : Nat) : Int) = ((spT S x a i (k + 1) : Nat) : Int) := fun h => by rw [spT_pos h, Int.natCast_add, Int.natCast_mul]
      have hPb' : 8 ^ ((S k - 1) * a) < 8 ^ 80 := Nat.lt_of_le_of_lt hPb (by decide)
      have hXb' : spN (x (i + k * a)) < 8 ^ 80 := Nat.lt_of_lt_of_le hXb (by decide)
      generalize 8 ^ ((S k - 1) * a) = P8 at hP hT hPb'
      clear hPb hXb
      k_with "mine sub" => (
        (with_reducible rename News _ _ _ _ => N9)
        k_dflt (first
        | refine item_litK (l := sa) (vs := sv) ⟨_, N9.get (.tail _ (.head _)), rfl, _, rfl⟩ (idx1 hk3).1 (idx1 hk3).2 hxS' ?_
        | refine item_litK (l := spa) (vs := spv) ⟨_, N9.get (.head _), rfl, _, rfl⟩ (idx2 hk25).1 (idx2 hk25).2 hxk' ?_))
      k_with "mine mul" => (
        k_dflt (first | refine mul_int ?_ (mul_okN hk80 ha80) | refine mul_int ?_ (mul_okN hXb' hPb') | refine mul_int ?_ (mul_okS (by omega) hSk ha80))
        (try rw [hkaI])
        (try rw [hE (by omega)]))
      k_with "mine pow" => (
        k_dflt (refine pow_int_small (by omega) (by omega) (by decide) ?_)
        rw [hP])
      k_steps
      · (with_reducible rename Fr _ _ _ _ => F9)
        (with_reducible rename News _ _ _ _ => N9)
        dsimp only at F9 ⊢
        rw [hT (by omega)] at F9
        exact ForEnd.next (fr_at6 (x := "spreads") (v := .ref spa) (x2 := "shares") (v2 := .ref sa) (x3 := "apart") (v3 := .int a _) (x4 := "odd") (v4 := .int ((oddN (pl + 2 * a) : Nat) : Int) _) (x5 := "n") (v5 := .int i _) (x6 := "total") (v6 := .int ((spT S x a i (k + 1) : Nat) : Int) _) F9 rfl rfl rfl rfl rfl rfl) N9 (fun p hp => List.mem_append_left _ hp) (fun p hp => .tail _ (.tail _ (List.mem_append_right _ hp))) ⟨rfl, _, _, _, _, _, rfl⟩
      · (with_reducible rename Fr _ _ _ _ => F9)
        (with_reducible rename News _ _ _ _ => N9)
        dsimp only at F9 ⊢
        rw [← spT_zero (S := S) (x := x) (a := a) (n := i) (k := k) (by omega)] at F9
        exact ForEnd.next (fr_at6 (x := "spreads") (v := .ref spa) (x2 := "shares") (v2 := .ref sa) (x3 := "apart") (v3 := .int a _) (x4 := "odd") (v4 := .int ((oddN (pl + 2 * a) : Nat) : Int) _) (x5 := "n") (v5 := .int i _) (x6 := "total") (v6 := .int ((spT S x a i (k + 1) : Nat) : Int) _) F9 rfl rfl rfl rfl rfl rfl) N9 (fun p hp => List.mem_append_left _ hp) (fun p hp => .tail _ (.tail _ (List.mem_append_right _ hp))) ⟨rfl, _, _, _, _, _, rfl⟩
    · rintro m₁ _ h tk2 ⟨rfl, t3, t4, t5, t6, u3, rfl⟩ F2 N2
      clear F9 N9
      have hand : Builtin.bitAnd ((spT S x a i 3 : Nat) : Int) ((oddN (pl + 2 * a) : Nat) : Int) = 0 := by
        rw [bitAnd_pp (by omega) (by omega), Int.toNat_natCast, Int.toNat_natCast, spT_odd hR]; rfl
      k_with "binaryOp BitAnd int int" => (
        k_dflt (refine and_int ?_)
        rw [hand])
      k_steps
      (with_reducible rename Fr _ _ _ _ => F9)
      (with_reducible rename News _ _ _ _ => N9)
      exact ForEnd.next (fr_at4 (x := "spreads") (v := .ref spa) (x2 := "shares") (v2 := .ref sa) (x3 := "apart") (v3 := .int a _) (x4 := "odd") (v4 := .int ((oddN (pl + 2 * a) : Nat) : Int) _) F9 rfl rfl rfl rfl) N9 (fun p hp => List.mem_append_left _ hp) (fun p hp => .tail _ (.tail _ (List.mem_append_right _ hp))) ⟨rfl, _, _, _, rfl⟩
  · rintro m₁ _ h tk ⟨rfl, t1, t2, u1, rfl⟩ F' N'
    clear F9 N9
    k_steps
    exact hret _ _ (by assumption) (by assumption)
end
section
abbrev tupO (vs : List Value) : Obj := { cls := .type "tuple", data := .seq vs.toArray }
section
variable {prog : Program} {w : World} {A : Around} {s : Shared} {env : Env} {h₀ : Heap} {L : Addr} {x : Str} {body : List Stmt} {Q : Flow → Shared → Prop} {m : Str → Option Value} {news : List (Addr × Obj)}
/-- over a tuple of the ledger -/
theorem it_tuple {l : Addr} {vs : List Value} {px : Pos} (J : Nat → (Str → Option Value) → List (Addr × Obj) → Prop) (hh : A.handled = none) (hl : ∀ i m₁ news₁, J i m₁ news₁ → (l, tupO vs) ∈ news₁) (hadr : ∀ i m₁ news₁, J i m₁ news₁ → ∀ p ∈ news₁, p.1 < s.heap.objs.size)
    (F : Fr h₀ L s.heap m) (N : News h₀ L s.heap news) (hL : env.locals = L) (hJ : J 0 m news)
    (turn : ∀ i v m₁ news₁ h tk own, vs[i]? = some v → J i m₁ news₁ → (∀ p ∈ own, p.1 = s.heap.objs.size) → Fr h₀ L h (fun z => if z = x then some v else m₁ z) → News h₀ L h (news₁ ++ own) →
      wpAny (model prog w) A (execs body env) (ForEnd h₀ L own (J (i + 1)) { s with heap := h, toks := tk } Q) (fun _ _ => False) { s with heap := h, toks := tk })
    (done : ∀ m₁ news₁ h tk, J vs.length m₁ news₁ → Fr h₀ L h m₁ → News h₀ L h news₁ → Q .next { s with heap := h, toks := tk })
    (hx : env.kindOf x = some .local) (hp : (env.scope.kind == .class || (env.scope.kind == .module && env.locals != env.globals)) = false) :
    wpAny (model prog w) A (pyIter (.ref l)) (LoopO prog w A env x px body Q) (fun _ _ => False) s := by
  have hol : s.heap.get? l = some (tupO vs) := (N _ (hl _ _ _ hJ)).1
  have hls : s.heap.IsTuple l vs.toArray := ⟨_, hol, rfl, 0, rfl⟩
  have hne : l ≠ s.heap.objs.size := Nat.ne_of_lt (Heap.lt_size hol)
  refine wpAny_pyIter_tuple hls ?_
  have W := Walks.tuple (prog := prog) (w := w) hh s.heap.objs.size l hne vs.toArray
  refine loop_W (s := { s with heap := s.heap.push _ }) W [(l, tupO vs)] (fun b hb => ?_) J (fun i m₁ news₁ hj p hp => by rw [List.mem_singleton.mp hp]; exact hl i m₁ news₁ hj) hadr (fresh_at F) (fun e => by subst hL; exact absurd F.ns.lt (e ▸ Nat.lt_irrefl _)) hL
    ⟨⟨_, Heap.get?_push_size _ rfl, rfl, rfl⟩, hls.push _⟩ (F.push _)
    (fun p hp => ⟨Heap.get?_push_of_some _ (N p hp).1, (N p hp).2⟩) hJ ?_ (by rw [List.size_toArray]; exact done) hx hp
  · rcases List.mem_cons.mp hb with h | h
    · exact .inl h
    · exact .inr ⟨_, .head _, (List.mem_singleton.mp h).symm⟩
  · rintro i v m₁ news₁ h tk own hi hv hj ho F₁ N₁
    exact turn i v m₁ news₁ h tk own (by simpa using hv) hj ho F₁ N₁
end
/-- the law's own text, as the written part has it -/
theorem law_lit {P : List Stmt → Scope → Prop} {K : Frag} {oc oc' : Value} {od od' : Option Addr} {osl osl' : Array (Option Value)} {name qual name' qual' : Str} {params params' : Arguments} {body body' : List Stmt} {scope scope' : Scope} {dV kV doc pm cdv ct dV' kV' doc' pm' cdv' ct' : Value} {an an' : Option Addr}
    (ho : List.lookup (141 : Addr) K = some ⟨oc, od, .func (fnOf name qual params body scope dV kV doc pm an cdv ct), osl⟩)
    (ho' : List.lookup (141 : Addr) K = some ⟨oc', od', .func (fnOf name' qual' params' body' scope' dV' kV' doc' pm' an' cdv' ct'), osl'⟩) (h : P body' scope') : P body scope := by
  have e := ho.symm.trans ho'
  simp only [fnOf, Option.some.injEq, Obj.mk.injEq, Data.func.injEq, FuncData.mk.injEq, FuncBody.stmts.injEq] at e
  rw [e.2.2.1.2.2.2.1, e.2.2.1.2.2.2.2.1]; exact h
theorem law_lit2 {P : List Stmt → Scope → Prop} {K : Frag} {oc oc' : Value} {od od' : Option Addr} {osl osl' : Array (Option Value)} {name qual name' qual' : Str} {params params' : Arguments} {body body' : List Stmt} {scope scope' : Scope} {dV kV doc pm cdv ct dV' kV' doc' pm' cdv' ct' : Value} {an an' : Option Addr}
    (ho : List.lookup (141 : Addr) K = some ⟨oc, od, .func (fnOf name qual params body scope dV kV doc pm an cdv ct), osl⟩)
    (ho' : List.lookup (141 : Addr) K = some ⟨oc', od', .func (fnOf name' qual' params' body' scope' dV' kV' doc' pm' an' cdv' ct'), osl'⟩)
    (h : List.lookup (141 : Addr) K = some ⟨oc', od', .func (fnOf name' qual' params' body' scope' dV' kV' doc' pm' an' cdv' ct'), osl'⟩ → P body' scope') : P body scope := law_lit ho ho' (h ho')
theorem s6 (w : World) {oc : Value} {od : Option Addr} {osl : Array (Option Value)} {name qual : Str} {params : Arguments} {body : List Stmt} {scope : Scope} {dV kV doc pm cdv ct : Value} {an : Option Addr}
    (ho : List.lookup (141 : Addr) (hd.heap_39 w.params) = some ⟨oc, od, .func (fnOf name qual params body scope dV kV doc pm an cdv ct), osl⟩)
    (loose : List Str) (mean : ExcName → Option Value) (mg mb : Str → Option Value) (fa : Addr) (cd : Value) (base h₀ : Heap) (L : Addr) (m : Str → Option Value) (s : Shared) (Q : Flow → Shared → Prop) (E : Value → Shared → Prop)
    (B : Below callerA base [] h₀) (F : Fr h₀ L s.heap m) (X : (hd.heap_39 w.params).In h₀) (T : Top topProg loose mean mg mb h₀) (h79 : @LT.lt Nat _ 79 L)
    (hret : ∀ (tab : Array Value) (m' : Str → Option Value) (h' : Heap) (tk' : Nat), Fr h₀ L h' m' → News h₀ L h' [(79, tabObj tab)] → Q (.ret (.bool true)) { s with heap := h', toks := tk' })
    (spa sa : Addr) (spv sv : List Value) (n1 n2 : Nat) (x S : Nat → Nat) (len pl : Nat) (tp tt : Tok) (textL : List Nat) (cO : Obj) (tab : Array Value) (a : LexA) (hok : a.Ok w) (npb : Nat) (pbs : List Value) (p n : Nat) (tpp tn : Tok)
    (hsp : IntsAre spv ((List.range len).map fun k => ((spN (x k) : Nat) : Int))) (hsv : IntsAre sv [(S 0 : Int), (S 1 : Int), (S 2 : Int)]) (hS : ∀ k, S k ≤ 3) (hlen : len ≤ 25) (hx : ∀ k, k < len → x k < 2 ^ 70) (hpl : pl ≤ 100) (hR : ∀ a ∈ [1, 2, 4, 8], Rule S x a)
    (m1 : m "spreads" = some (.ref spa)) (m2 : m "shares" = some (.ref sa)) (m3 : m "places" = some (.int pl tp)) (m4 : m "text" = some (.str (txt textL) tt))
    (hcO : cO.data = .cell (some (.ref a.x)))
    (N : News h₀ L s.heap ((spa, listOf spv.toArray n1) :: (sa, listOf sv.toArray n2) :: (L + 1, cO) :: (79, tabObj tab) :: a.led w npb [] p n tpp tn))
    (hdrop : a.xt.cps.toList.drop p = []) (hp : p < 2 ^ 20) (hn : n = 1 + textL.count 10) (hn2 : n < 2 ^ 20) (hbig : ∀ b ∈ a.adr, @LT.lt Nat _ (L + 1) b) :
    wpAny (model PySem.Challenge.rw_wn0021_01.row.prog w) (callerA.deeper (envOfC (PySem.Str.ofString "law") scope L fa cd)) (execs (body.drop 14) (envOfC (PySem.Str.ofString "law") scope L fa cd)) Q E s := by
  k_with_none
  w_top off
  k_with "hk exec For Name Tuple cons nil" => refine Hold.out ?_
  k_with "hk pyIter ref" => refine Hold.out ?_
  revert ho X; k_fill; intro ho X
  refine noE ?_
  refine' law_lit (P := fun body scope => wpAny (model PySem.Challenge.rw_wn0021_01.row.prog w) (callerA.deeper (envOfC (PySem.Str.ofString "law") scope L fa cd)) (execs (body.drop 14) (envOfC (PySem.Str.ofString "law") scope L fa cd)) Q (fun _ _ => False) s) ho ?kl ?_
  case kl => k_is
  dsimp only [List.drop]
  clear ho
  have F9 := fr_at4 F m1 m2 m3 m4
  clear F
  generalize hrest : (L + 1, cO) :: (79, tabObj tab) :: a.led w npb [] p n tpp tn = rest at N
  k_steps
  refine Hold.in ?_
  refine For_O ?_
  k_steps
  refine Hold.in ?_
  (with_reducible rename Fr _ _ _ _ => F8)
  (with_reducible rename News _ _ _ _ => N9)

  rename_i D' _ _
  obtain ⟨t1, t2, t4, t8, N8⟩ : ∃ t1 t2 t4 t8, News h₀ L _ ((spa, listOf spv.toArray n1) :: (sa, listOf sv.toArray n2) :: (D', tupO [.int 1 t1, .int 2 t2, .int 4 t4, .int 8 t8]) :: rest) := ⟨_, _, _, _, News.from N9 (fun q hq => by
    rcases List.mem_cons.mp hq with rfl | hq
    · exact .tail _ (.head _)
    · rcases List.mem_cons.mp hq with rfl | hq
      · exact .tail _ (.tail _ (.head _))
      · rcases List.mem_cons.mp hq with rfl | hq
        · exact .head _
        · exact .tail _ (.tail _ (.tail _ hq)))⟩
  clear N9
  have hturn : ∀ (i : Nat) (v t1 t2 t4 t8), [Value.int 1 t1, .int 2 t2, .int 4 t4, .int 8 t8][i]? = some v → ∃ (aa : Nat) (t : Tok), aa ∈ [1, 2, 4, 8] ∧ v = .int (aa : Int) t := by
    intro i v t1 t2 t4 t8 h
    match i, h with
    | 0, h => cases h; exact ⟨1, _, by simp, rfl⟩
    | 1, h => cases h; exact ⟨2, _, by simp, rfl⟩
    | 2, h => cases h; exact ⟨4, _, by simp, rfl⟩
    | 3, h => cases h; exact ⟨8, _, by simp, rfl⟩
    | i + 4, h => cases h
  refine' it_tuple (l := D') (vs := [.int 1 t1, .int 2 t2, .int 4 t4, .int 8 t8]) (fun i m' news' => (spa, listOf spv.toArray n1) :: (sa, listOf sv.toArray n2) :: (D', tupO [.int 1 t1, .int 2 t2, .int 4 t4, .int 8 t8]) :: rest = news' ∧ ∃ (u : Str → Option Value), m' = fun z : Str => if z = "spreads" then some (Value.ref spa) else if z = "shares" then some (Value.ref sa) else if z = "places" then some (.int pl tp) else if z = "text" then some (.str (txt textL) tt) else u z) ?h1 ?h2 ?h3 F8 N8 ?h4 ?h5 ?h6 ?h7 ?h8 ?h9
  case h1 => rfl
  case h2 => rintro _ _ _ ⟨rfl, _⟩; exact .tail _ (.tail _ (.head _))
  case h3 => rintro _ _ _ ⟨rfl, _⟩; exact lt_size_news N8
  case h4 => rfl
  case h5 => exact ⟨rfl, _, rfl⟩
  case h8 => rfl
  case h9 => rfl
  case h6 =>
    rintro i v m₁ nw h tk own hv ⟨hnw, u1, rfl⟩ ho' F' N'
    subst hnw
    obtain ⟨aa, ta, haa, rfl⟩ := hturn _ _ _ _ _ _ hv
    have hab : 1 ≤ aa ∧ aa ≤ 8 := by simp only [List.mem_cons, List.not_mem_nil, or_false] at haa; omega
    dsimp only at F'
    dsimp only [List.cons_append] at N'
    clear F8 N8
    k_with "mine call" => refine Hold.out ?_
    k_steps
    refine Hold.in ?_
    (with_reducible rename Fr _ _ _ _ => F9)
    (with_reducible rename News _ _ _ _ => N9)
    refine c_obeys w spa sa spv sv n1 n2 x S len aa pl _ _ hsp hsv hS hlen hx hab.1 hab.2 hpl (hR aa haa) _ _ _ _ _ _ _ _ _ _ _ _ _ _ _ _ _ _ _ _ _ _ B F9 X N9 T rfl (by ktr_room) (by ktr_units) ?_
    intro h7 tk7 F7 N7
    clear F9 N9
    k_steps
    (with_reducible rename Fr _ _ _ _ => F9)
    (with_reducible rename News _ _ _ _ => N9)
    exact ForEnd.next (fr_at4 (x := "spreads") (v := .ref spa) (x2 := "shares") (v2 := .ref sa) (x3 := "places") (v3 := .int pl tp) (x4 := "text") (v4 := .str (txt textL) tt) F9 rfl rfl rfl rfl) N9 (fun p hp => List.mem_append_left _ hp) (fun p hp => .tail _ (.tail _ (.tail _ (List.mem_append_right _ hp)))) ⟨rfl, _, rfl⟩
  case h7 =>
    rintro m₁ _ h tk ⟨rfl, u1, rfl⟩ F' N'
    clear F8 N8
    subst hrest
    obtain ⟨pb, x, d, x2, d2, pb2, f, cc, lp, c2, c1, fd, co, o2, o1, a1, a2, a3, a4, a5, b1, b2, b3, b4, b5, b6, b7, nl, xt⟩ := a
    have hord := hok.1
    dsimp only [LexA.led] at N' hord hcO hdrop
    k_with "mine call" => refine Hold.out ?_
    k_steps
    refine Hold.in ?_
    (with_reducible rename Fr _ _ _ _ => F9)
    (with_reducible rename News _ _ _ _ => N9)
    refine c_getR w ⟨pb, x, d, x2, d2, pb2, f, cc, lp, c2, c1, fd, co, o2, o1, a1, a2, a3, a4, a5, b1, b2, b3, b4, b5, b6, b7, nl, xt⟩ hok p n tpp tn npb [] hdrop hp hn2 _ [(L + 1, cO), (79, tabObj tab)] _ _ _ _ _ _ _ _ _ _ _ _ _ _ _ _ _ _ _ _ _ B F9 X N9 (fun q hq => .tail _ (.tail _ (.tail _ (.tail _ (.tail _ (.tail _ (hq))))))) (List.forall_mem_cons.mpr ⟨.tail _ (.tail _ (.tail _ (.tail _ (.head _)))), List.forall_mem_cons.mpr ⟨.tail _ (.tail _ (.tail _ (.tail _ (.tail _ (.head _))))), fun q hq => nomatch hq⟩⟩) ?off T rfl (by ktr_room) (by ktr_units) ?_
    case off =>
      refine List.forall_mem_cons.mpr ⟨fun h => Nat.lt_irrefl _ (hbig _ h), List.forall_mem_cons.mpr ⟨fun h => ?_, fun q hq => nomatch hq⟩⟩
      exact Nat.lt_irrefl _ (Nat.lt_trans (Nat.lt_trans h79 (Nat.lt_succ_self L)) (hbig _ h))
    intro t9 tp9 tn9 p9 h9 tk9 F8 hd9 hp9 N8 kp9
    clear F9 N9 kp9
    dsimp only [LexA.led, List.cons_append, List.nil_append] at N8
    have e0 : (lexT []).2.2 = 0 := rfl
    rw [e0, Nat.add_zero] at N8
    have e1 : (lexT []).1 = [] := rfl
    rw [e1]
    k_steps
    have ev : ((n : Int) == 1 + Txt.count (txt textL) (PySem.Str.ofString "\n")) = true := by
      rw [show PySem.Str.ofString "\n" = ⟨#[10]⟩ from rfl, count_cnt, cnt_count, txt_cps, hn, beq_iff_eq]; omega
    rw [ev]
    exact hret tab _ _ _ F8 (News.from N8 (fun q hq => by
      rw [List.mem_singleton.mp hq]; simp only [List.mem_cons, eq_self, true_or, or_true]))
end
section
theorem s5 (w : World) {oc : Value} {od : Option Addr} {osl : Array (Option Value)} {name qual : Str} {params : Arguments} {body : List Stmt} {scope : Scope} {dV kV doc pm cdv ct : Value} {an : Option Addr}
    (ho : List.lookup (141 : Addr) (hd.heap_39 w.params) = some ⟨oc, od, .func (fnOf name qual params body scope dV kV doc pm an cdv ct), osl⟩)
    (loose : List Str) (mean : ExcName → Option Value) (mg mb : Str → Option Value) (fa : Addr) (cd : Value) (base h₀ : Heap) (L : Addr) (m : Str → Option Value) (s : Shared) (Q : Flow → Shared → Prop) (E : Value → Shared → Prop)
    (B : Below callerA base [] h₀) (F : Fr h₀ L s.heap m) (X : (hd.heap_39 w.params).In h₀) (T : Top topProg loose mean mg mb h₀) (h79 : @LT.lt Nat _ 79 L)
    (hret : ∀ (tab : Array Value) (m' : Str → Option Value) (h' : Heap) (tk' : Nat), Fr h₀ L h' m' → News h₀ L h' [(79, tabObj tab)] → Q (.ret (.bool true)) { s with heap := h', toks := tk' })
    (lr sa : Addr) (rv sv : List Value) (n1 n2 : Nat) (x S : Nat → Nat) (len : Nat) (tt : Tok) (textL : List Nat) (cO : Obj) (tab : Array Value) (a : LexA) (hok : a.Ok w) (npb : Nat) (p n : Nat) (tpp tn : Tok)
    (hrv : StrsAre rv (wordsOf x len)) (hsv : IntsAre sv [(S 0 : Int), (S 1 : Int), (S 2 : Int)]) (hS : ∀ k, S k ≤ 3) (hlen : len ≤ 25) (hlen0 : 0 < len) (hx : ∀ k, k < len → x k < 2 ^ 70) (hR : ∀ a ∈ [1, 2, 4, 8], Rule S x a)
    (m1 : m "row" = some (.ref lr)) (m2 : m "shares" = some (.ref sa)) (m4 : m "text" = some (.str (txt textL) tt))
    (hcO : cO.data = .cell (some (.ref a.x)))
    (N : News h₀ L s.heap ((lr, listOf rv.toArray n1) :: (sa, listOf sv.toArray n2) :: (L + 1, cO) :: (79, tabObj tab) :: a.led w npb [] p n tpp tn))
    (hdrop : a.xt.cps.toList.drop p = []) (hp : p < 2 ^ 20) (hn : n = 1 + textL.count 10) (hn2 : n < 2 ^ 20) (hbig : ∀ b ∈ a.adr, @LT.lt Nat _ (L + 1) b) :
    wpAny (model PySem.Challenge.rw_wn0021_01.row.prog w) (callerA.deeper (envOfC (PySem.Str.ofString "law") scope L fa cd)) (execs (body.drop 11) (envOfC (PySem.Str.ofString "law") scope L fa cd)) Q E s := by
  k_with_none
  w_top off
  k_with "hk exec For Name Name cons nil" => refine Hold.out ?_
  k_with "hk pyIter ref" => refine Hold.out ?_
  k_with "hk CompSrc" => refine Hold.out ?_
  revert ho X; k_fill; intro ho X
  refine noE ?_
  refine' law_lit2 (P := fun body scope => wpAny (model PySem.Challenge.rw_wn0021_01.row.prog w) (callerA.deeper (envOfC (PySem.Str.ofString "law") scope L fa cd)) (execs (body.drop 11) (envOfC (PySem.Str.ofString "law") scope L fa cd)) Q (fun _ _ => False) s) ho ?kl (fun ho0 => ?_)
  case kl => k_is
  dsimp only [List.drop]
  clear ho
  have F9 := fr_at3 F m1 m2 m4
  clear F
  generalize hrest : (L + 1, cO) :: (79, tabObj tab) :: a.led w npb [] p n tpp tn = rest at N
  have hwl : ∀ k, k < len → (apW (x k)).length ≤ 18 := fun k hk => apW_len (k := 18) (Nat.lt_trans (hx k hk) (by decide))
  have hwo : ∀ i, i < len → (wordsOf x len)[i]? = some (txt (apW (x i))) := fun i hi => by unfold wordsOf; rw [List.getElem?_map, List.getElem?_range hi]; rfl
  have hwL : (wordsOf x len).length = len := by unfold wordsOf; simp
  have hrl : rv.length = len := by rw [strsAre_len hrv, hwL]
  have hclean : ∀ k, k < len → ∀ t, Pure w 105 1 8 [.str (txt (apW (x k))) t] (fun _ => .bool true) := fun k hk t => c_clean w (txt (apW (x k))) t (by rw [show (txt (apW (x k))).cps.size = (apW (x k)).length from txt_length _]; have := hwl k hk; omega) (by rw [txt_cps]; exact apW_small _) (by rw [txt_cps]; exact apW_head _)
  have hspread : ∀ k, k < len → ∀ t, Pure w 129 1 8 [.str (txt (apW (x k))) t] (fun t => .int ((spN (x k) : Nat) : Int) t) := fun k hk t => by
    have := c_spread w (txt (apW (x k))) t (by rw [show (txt (apW (x k))).cps.size = (apW (x k)).length from txt_length _]; have := hwl k hk; omega) (by rw [txt_cps]; exact apW_small _)
    rwa [txt_cps, spF_apW] at this
  k_with "mine stage" => (
    (with_reducible show wpAny _ _ (execs (Stmt.For (Expr.Name (PySem.Str.ofString "apart") _) _ _ _ _ :: _) _) _ _ _)
    refine Hold.out ?_)
  k_steps
  refine Hold.in ?_
  refine For_O ?_
  k_steps
  refine Hold.in ?_
  (with_reducible rename Fr _ _ _ _ => F8)
  (with_reducible rename News _ _ _ _ => N8)
  refine' it_list (l := lr) (vs := rv) (nn := n1) (fun i m' news' => (lr, listOf rv.toArray n1) :: (sa, listOf sv.toArray n2) :: rest = news' ∧ ∃ (u : Str → Option Value), m' = fun z : Str => if z = "row" then some (Value.ref lr) else if z = "shares" then some (Value.ref sa) else if z = "text" then some (.str (txt textL) tt) else u z) ?h1 ?h2 ?h3 F8 N8 ?h4 ?h5 ?h6 ?h7 ?h8 ?h9
  case h1 => rfl
  case h2 => rintro _ _ _ ⟨rfl, _⟩; exact .head _
  case h3 => rintro _ _ _ ⟨rfl, _⟩; exact lt_size_news N8
  case h4 => rfl
  case h5 => exact ⟨rfl, _, rfl⟩
  case h8 => rfl
  case h9 => rfl
  case h6 =>
    rintro i v m₁ nw h tk own hv ⟨hnw, u1, rfl⟩ ho' F' N'
    subst hnw
    obtain ⟨y, ty, rfl, hy⟩ := hrv.item i v hv
    have hil : i < len := by rw [← hwL]; exact (List.getElem?_eq_some_iff.mp hy).1
    rw [hwo i hil] at hy
    cases hy
    dsimp only at F'
    dsimp only [List.cons_append] at N'
    clear F8 N8
    k_with "mine call" => (
      k_dflt (refine' (hclean i hil _).use ?k1 ?k2 ?k3 ?k4 ?k5 ?kK ?kd ?ku ?_; (case k1 => k_asm); (case k2 => k_asm); (case k3 => k_asm); (case k4 => k_asm); (case k5 => k_asm); (case kK => exact rfl); (case kd => ktr_room); (case ku => ktr_units))
      intro t9 h9 tk9 F9 N9)
    k_steps
    (with_reducible rename Fr _ _ _ _ => F9)
    (with_reducible rename News _ _ _ _ => N9)
    exact ForEnd.next (fr_at3 (x := "row") (v := .ref lr) (x2 := "shares") (v2 := .ref sa) (x3 := "text") (v3 := .str (txt textL) tt) F9 rfl rfl rfl) N9 (fun p hp => List.mem_append_left _ hp) (fun p hp => .tail _ (.tail _ (List.mem_append_right _ hp))) ⟨rfl, _, rfl⟩
  case h7 =>
    rintro m₁ _ h tk ⟨rfl, u1, rfl⟩ F' N'
    clear F8 N8
    k_steps
    refine Hold.in ?_
    (with_reducible rename Fr _ _ _ _ => F9)
    (with_reducible rename News _ _ _ _ => N9)
    refine LCg.CompSrc.ledger (ax := lr) (its := rv.toArray) (k := n1) rfl F9 N9 (.head _) (by rw [sizeLine_eq, List.size_toArray]; omega) fun g9 => ?_
    refine compRest_inv (fun k ys news' => (lr, listOf rv.toArray n1) :: (sa, listOf sv.toArray n2) :: rest = news' ∧ IntsAre ys ((List.range k).map fun k => ((spN (x k) : Nat) : Int))) ?fin ?step _ 0 [] _ (Nat.zero_add _) ⟨rfl, .nil⟩
    case fin =>
      rintro ys _ ⟨rfl, hys⟩
      rw [List.size_toArray, hrl] at hys
      intro D h' tk' F' N' o1
      k_steps
      refine Hold.in ?_
      (with_reducible rename Fr _ _ _ _ => F9)
      (with_reducible rename News _ _ _ _ => N9)
      refine LCg.CompSrc.ledger (ax := lr) (its := rv.toArray) (k := n1) rfl F9 N9 (.tail _ (.head _)) (by rw [sizeLine_eq, List.size_toArray]; omega) fun g9 => ?_
      refine compRest_inv (fun k zs news' => (D, LCg.lst ys) :: (lr, listOf rv.toArray n1) :: (sa, listOf sv.toArray n2) :: rest = news' ∧ IntsAre zs ((List.range k).map fun k => (((apW (x k)).length : Nat) : Int))) ?fin2 ?step2 _ 0 [] _ (Nat.zero_add _) ⟨rfl, .nil⟩
      case fin2 =>
        rintro zs _ ⟨rfl, hzs⟩
        rw [List.size_toArray, hrl] at hzs
        intro D2 h2 tk2 F2 N2 o2'
        k_with "mine max" => (
          (with_reducible rename News _ _ _ _ => N9)
          (with_reducible rename Fr _ _ _ _ => F9)
          k_dflt (refine kso_max (l := D2) (vs := zs) F9 N9 ⟨_, N9.get (.head _), rfl, _, rfl⟩ hzs (by simp; omega) rfl ?_)
          clear F9 N9
          intro hM M tM tkM F9 N9 hMm hMx)
        k_steps
        refine Hold.in ?_
        (with_reducible rename Fr _ _ _ _ => F9)
        (with_reducible rename News _ _ _ _ => N9)
        obtain ⟨k0, hk0, hMe⟩ := List.mem_map.mp hMm
        have hk1 := hwl k0 (List.mem_range.mp hk0)
        have e4 : 4 * M = ((4 * (apW (x k0)).length : Nat) : Int) := by rw [← hMe]; omega
        rw [e4] at F9
        subst hrest
        refine s6 w ho0 loose mean mg mb fa cd base h₀ L _ _ Q _ B F9 X T h79 ?_ D sa ys sv ys.length n2 x S len (4 * (apW (x k0)).length) _ tt textL cO tab a hok npb [] p n tpp tn hys hsv hS hlen hx (by omega) hR rfl rfl rfl rfl hcO (News.from N9 ?_) hdrop hp hn hn2 hbig
        · intro tab' m' h' tk' F' N'
          exact hret tab' m' h' tk' F' N'
        · intro q hq
          rcases List.mem_cons.mp hq with rfl | hq
          · exact .tail _ (.head _)
          · exact .tail _ (.tail _ (.tail _ hq))
      case step2 =>
        rintro k zs _ hk ⟨rfl, hzs⟩ v I oI C oC D2 m₂ h2 tk2 hv hC hx' F2 N2 off ne
        rw [List.size_toArray, hrl] at hk
        obtain ⟨y, ty, rfl, hy⟩ := hrv.item k v (by simpa using hv)
        rw [hwo k hk] at hy
        cases hy
        have hwk := hwl k hk
        k_with "mine len" => (
          k_dflt (refine len_str (by rw [txt_length]; omega) ?_)
          rw [txt_length])
        k_steps
        (with_reducible rename Fr _ _ _ _ => F9)
        (with_reducible rename News _ _ _ _ => N9)
        refine LCg.CompEnd.intro F9 N9 _ (fun p hp => hp) off (.inr ⟨_, .tail _ (.head _), rfl, _, rfl⟩) ⟨rfl, ?_⟩
        rw [List.range_succ, List.map_append]
        exact hzs.append (.cons _ _ .nil)
    case step =>
      rintro k ys _ hk ⟨rfl, hys⟩ v I oI C oC D m₂ h' tk' hv hC hx' F' N' off ne
      rw [List.size_toArray, hrl] at hk
      obtain ⟨y, ty, rfl, hy⟩ := hrv.item k v (by simpa using hv)
      rw [hwo k hk] at hy
      cases hy
      k_with "mine call" => (
        k_dflt (refine' (hspread k hk _).use ?k1 ?k2 ?k3 ?k4 ?k5 ?kK ?kd ?ku ?_; (case k1 => k_asm); (case k2 => k_asm); (case k3 => k_asm); (case k4 => k_asm); (case k5 => k_asm); (case kK => exact rfl); (case kd => ktr_room); (case ku => ktr_units))
        intro t9 h9 tk9 F9 N9)
      k_steps
      (with_reducible rename Fr _ _ _ _ => F9)
      (with_reducible rename News _ _ _ _ => N9)
      refine LCg.CompEnd.intro F9 N9 _ (fun p hp => hp) off (.inr ⟨_, .head _, rfl, _, rfl⟩) ⟨rfl, ?_⟩
      rw [List.range_succ, List.map_append]
      exact hys.append (.cons _ _ .nil)
end
section
theorem shaped3 (X0 X1 X2 : Nat) : SeqAt.shaped (.list ([txt (apW X0), txt (apW X1), txt (apW X2)].map .str)) = true := by
  have h : ∀ n, PyData.canLay0 (.str (txt (apW n))) = true := by
    intro n
    have := apW_small n
    simp only [PyData.canLay0, PyData.strOk, txt, List.all_toArray, List.all_eq_true, decide_eq_true_eq]
    intro c hc
    have := this c hc
    omega
  unfold SeqAt.shaped
  simp only [List.map_cons, List.map_nil, PyData.canLay0, PyData.canLayAll0, PyData.depth, PyData.depthAll] at h ⊢
  rw [h, h, h]
  rfl
theorem eqv3 (a b c : Str) : PyData.eqv (.list ([a, b, c].map .str)) (.list ([a, b, c].map .str)) = true := by
  simp [PyData.eqv, PyData.eqvAll]
theorem three_of {vs : List Value} {zs : List Str} {a b c : Str} (h : StrsAre vs zs) (h0 : zs[0]? = some a) (h1 : zs[1]? = some b) (h2 : zs[2]? = some c) : ∃ r0 r1 r2 vs', vs = .str a r0 :: .str b r1 :: .str c r2 :: vs' := by
  match zs, h0, h1, h2, h with
  | _ :: _ :: _ :: _, h0, h1, h2, g =>
    cases h0; cases h1; cases h2
    obtain ⟨t0, v1, e1, g1⟩ := g.cons_inv
    obtain ⟨t1, v2, e2, g2⟩ := g1.cons_inv
    obtain ⟨t2, v3, e3, g3⟩ := g2.cons_inv
    exact ⟨t0, t1, t2, v3, by rw [e1, e2, e3]⟩
theorem pick3 {vs vs' : List Value} {a b c : Value} (h : vs = a :: b :: c :: vs') : (slicePick vs.toArray none (some 3) none).toList = [a, b, c] := by
  subst h
  have e : sliceBounds none (some 3) none (a :: b :: c :: vs').toArray.size = (((0 : Nat) : Int), ((3 : Nat) : Int), 1) := by
    simp only [sliceBounds, Option.getD_none, show (1 : Int) > 0 by decide, if_true, if_neg (show ¬ ((3 : Int) < 0) by omega), List.size_toArray, List.length_cons]
    congr 1
    congr 1
    omega
  rw [kmk_pick_nat _ e]
  rfl
theorem s4 (w : World) {oc : Value} {od : Option Addr} {osl : Array (Option Value)} {name qual : Str} {params : Arguments} {body : List Stmt} {scope : Scope} {dV kV doc pm cdv ct : Value} {an : Option Addr}
    (ho : List.lookup (141 : Addr) (hd.heap_39 w.params) = some ⟨oc, od, .func (fnOf name qual params body scope dV kV doc pm an cdv ct), osl⟩)
    (loose : List Str) (mean : ExcName → Option Value) (mg mb : Str → Option Value) (fa : Addr) (cd : Value) (base h₀ : Heap) (L : Addr) (m : Str → Option Value) (s : Shared) (Q : Flow → Shared → Prop) (E : Value → Shared → Prop)
    (B : Below callerA base [] h₀) (F : Fr h₀ L s.heap m) (X : (hd.heap_39 w.params).In h₀) (T : Top topProg loose mean mg mb h₀) (h79 : @LT.lt Nat _ 79 L)
    (hret : ∀ (tab : Array Value) (m' : Str → Option Value) (h' : Heap) (tk' : Nat), Fr h₀ L h' m' → News h₀ L h' [(79, tabObj tab)] → Q (.ret (.bool true)) { s with heap := h', toks := tk' })
    (sc : Addr) (scv : List Value) (ns : List Int) (hsc : h₀.IsList sc scv.toArray) (hns : IntsAre scv ns) (hnl : ns.length ≤ 63)
    (wa sa : Addr) (wv sv : List Value) (n1 n2 : Nat) (X0 X1 X2 : Nat) (y3 y4 y5 : Str) (S : Nat → Nat) (ta tb tc : Tok) (tt : Tok) (textL : List Nat) (cO : Obj) (tab : Array Value) (a : LexA) (hok : a.Ok w) (npb : Nat) (p n : Nat) (tpp tn : Tok)
    (hwv : StrsAre wv [txt (apW X0), txt (apW X1), txt (apW X2), y3, y4, y5]) (hsv : IntsAre sv [(S 0 : Int), (S 1 : Int), (S 2 : Int)]) (hS : ∀ k, S k ≤ 3) (hX0 : X0 < 2 ^ 17) (hX1 : X1 < 2 ^ 17) (hX2 : X2 < 2 ^ 17)
    (m0 : m "script" = some (.ref sc)) (m1 : m "words" = some (.ref wa)) (m2 : m "shares" = some (.ref sa)) (m4 : m "text" = some (.str (txt textL) tt))
    (hcO : cO.data = .cell (some (.ref a.x)))
    (N : News h₀ L s.heap ((wa, listOf wv.toArray n1) :: (sa, listOf sv.toArray n2) :: (L + 1, cO) :: (79, tabObj tab) :: a.led w npb [.str (txt (apW X0)) ta, .str (txt (apW X1)) tb, .str (txt (apW X2)) tc] p n tpp tn))
    (hdrop : a.xt.cps.toList.drop p = []) (hp : p < 2 ^ 20) (hn : n = 1 + textL.count 10) (hn2 : n < 2 ^ 20) (hbig : ∀ b ∈ a.adr, @LT.lt Nat _ (L + 1) b)
    (hsaL : @LT.lt Nat _ (L + 1) sa) (hsaA : sa ∉ a.adr) (hwaA : wa ∉ a.adr) (hws : wa ≠ sa) :
    wpAny (model PySem.Challenge.rw_wn0021_01.row.prog w) (callerA.deeper (envOfC (PySem.Str.ofString "law") scope L fa cd)) (execs (body.drop 9) (envOfC (PySem.Str.ofString "law") scope L fa cd)) Q E s := by
  k_with_none
  w_top off
  revert ho X; k_fill; intro ho X
  refine noE ?_
  refine' law_lit2 (P := fun body scope => wpAny (model PySem.Challenge.rw_wn0021_01.row.prog w) (callerA.deeper (envOfC (PySem.Str.ofString "law") scope L fa cd)) (execs (body.drop 9) (envOfC (PySem.Str.ofString "law") scope L fa cd)) Q (fun _ _ => False) s) ho ?kl (fun ho0 => ?_)
  case kl => k_is
  dsimp only [List.drop]
  clear ho
  have F9 := fr_at4 F m0 m1 m2 m4
  clear F
  generalize hrest : a.led w npb [.str (txt (apW X0)) ta, .str (txt (apW X1)) tb, .str (txt (apW X2)) tc] p n tpp tn = led at N
  k_with "mine call" => refine Hold.out ?_
  k_steps
  refine Hold.in ?_
  (with_reducible rename Fr _ _ _ _ => F9)
  (with_reducible rename News _ _ _ _ => N9)
  have e10 : (10 + (((List.take 60 ns).length : Nat) : Int).fmod 13) = ((10 + (List.take 60 ns).length % 13 : Nat) : Int) := by rw [Int.fmod_eq_emod_of_nonneg _ (by decide)]; omega
  rw [e10]
  have hturns : 10 + (List.take 60 ns).length % 13 ≤ 22 := by omega
  generalize 10 + (List.take 60 ns).length % 13 = turns at hturns ⊢
  subst hrest
  refine c_row w a hok p n tpp tn npb ta tb tc _ X0 X1 X2 S hS hX0 hX1 hX2 sa sv n2 turns hturns hsv hsaA _ _ _ _ _ _ _ _ _ _ _ _ _ _ _ _ _ _ _ _ _ B F9 X (News.from N9 (fun q hq => ?_)) T rfl (by ktr_room) (by ktr_units) ?_
  · rcases List.mem_cons.mp hq with rfl | hq
    · exact .tail _ (.tail _ (.head _))
    · exact .tail _ (.tail _ (.tail _ (.tail _ (.tail _ hq))))
  intro lr nr npb' rv h8 tk8 F8 N8 hrv kp8 hlrA hsaLr
  have hoff : ∀ q ∈ [(wa, listOf wv.toArray n1), (L + 1, cO), (79, tabObj tab)], q.1 ∉ sa :: a.adr := by
    refine List.forall_mem_cons.mpr ⟨?_, List.forall_mem_cons.mpr ⟨?_, List.forall_mem_cons.mpr ⟨?_, fun q hq => nomatch hq⟩⟩⟩
    · intro h; rcases List.mem_cons.mp h with h | h
      · exact hws h
      · exact hwaA h
    · intro h; rcases List.mem_cons.mp h with h | h
      · exact Nat.ne_of_lt hsaL h
      · exact Nat.lt_irrefl _ (hbig _ h)
    · have h80 : @LT.lt Nat _ 79 (L + 1) := Nat.lt_trans h79 (Nat.lt_succ_self L)
      intro h; rcases List.mem_cons.mp h with h | h
      · exact Nat.ne_of_lt (Nat.lt_trans h80 hsaL) h
      · exact Nat.lt_irrefl _ (Nat.lt_trans h80 (hbig _ h))
  have N7 := kp8.news (News.from N9 (l := [(wa, listOf wv.toArray n1), (L + 1, cO), (79, tabObj tab)]) (List.forall_mem_cons.mpr ⟨.tail _ (.head _), List.forall_mem_cons.mpr ⟨.tail _ (.tail _ (.tail _ (.head _))), List.forall_mem_cons.mpr ⟨.tail _ (.tail _ (.tail _ (.tail _ (.head _)))), fun q hq => nomatch hq⟩⟩⟩)) hoff
  have N10 : News h₀ L h8 ((wa, listOf wv.toArray n1) :: (lr, listOf rv.toArray nr) :: (sa, listOf sv.toArray n2) :: (L + 1, cO) :: (79, tabObj tab) :: a.led w npb' [] p n tpp tn) := News.from (News.app N7 N8) (by
    refine List.forall_mem_cons.mpr ⟨.head _, List.forall_mem_cons.mpr ⟨.tail _ (.tail _ (.tail _ (.head _))), List.forall_mem_cons.mpr ⟨.tail _ (.tail _ (.tail _ (.tail _ (.head _)))), List.forall_mem_cons.mpr ⟨.tail _ (.head _), List.forall_mem_cons.mpr ⟨.tail _ (.tail _ (.head _)), fun q hq => ?_⟩⟩⟩⟩⟩
    exact .tail _ (.tail _ (.tail _ (.tail _ (.tail _ hq)))))
  clear F9 N9 N7 N8
  generalize hrest : (L + 1, cO) :: (79, tabObj tab) :: a.led w npb' [] p n tpp tn = rest at N10
  obtain ⟨r0, r1, r2, rv', hrve⟩ : ∃ r0 r1 r2 rv', rv = .str (txt (apW X0)) r0 :: .str (txt (apW X1)) r1 :: .str (txt (apW X2)) r2 :: rv' := three_of hrv (by unfold wordsOf; rw [List.getElem?_map, List.getElem?_range (by omega)]; rfl) (by unfold wordsOf; rw [List.getElem?_map, List.getElem?_range (by omega)]; rfl) (by unfold wordsOf; rw [List.getElem?_map, List.getElem?_range (by omega)]; rfl)
  obtain ⟨q0, q1, q2, wv', hwve⟩ : ∃ r0 r1 r2 rv', wv = .str (txt (apW X0)) r0 :: .str (txt (apW X1)) r1 :: .str (txt (apW X2)) r2 :: rv' := three_of hwv rfl rfl rfl
  have hrl : rv.length = turns + 3 := by rw [strsAre_len hrv]; unfold wordsOf; simp
  have hwl : wv.length = 6 := by rw [strsAre_len hwv]; rfl
  have pr := pick3 hrve
  have pw := pick3 hwve
  k_with "mine slice" => (
    (with_reducible rename News _ _ _ _ => N9)
    (with_reducible rename Fr _ _ _ _ => F9)
    k_dflt (first
    | refine kmk_slice_lit (l := lr) (its := rv.toArray) F9 N9 ⟨_, N9.get (.tail _ (.head _)), rfl, _, rfl⟩ IsPart.none (IsPart.int _ _) pr ?_ (by with_unfolding_all rfl) (by intro _; with_unfolding_all rfl) (by rw [sizeLine_eq, List.size_toArray]; omega)
    | refine kmk_slice_lit (l := wa) (its := wv.toArray) F9 N9 ⟨_, N9.get (.tail _ (.head _)), rfl, _, rfl⟩ IsPart.none (IsPart.int _ _) pw ?_ (by with_unfolding_all rfl) (by intro _; with_unfolding_all rfl) (by rw [sizeLine_eq, List.size_toArray]; omega))
    clear F9 N9
    intro _ _ _ _ _)
  have hsh := shaped3 X0 X1 X2
  k_with "mine ne" => (
    (with_reducible rename News _ _ _ _ => N9)
    k_dflt (refine ne_dataH (reads_list_at (N9.get (.tail _ (.head _))) rfl rfl (StrsAre.reads _ (.cons _ _ (.cons _ _ (.cons _ _ .nil))))) (reads_list_at (N9.get (.head _)) rfl rfl (StrsAre.reads _ (.cons _ _ (.cons _ _ (.cons _ _ .nil))))) hsh hsh (by ke_room) ?_)
    rw [eqv3])
  k_with "mine stage" => (
    (with_reducible show wpAny _ _ (execs (Stmt.For (Expr.Name (PySem.Str.ofString "word") _) _ _ _ _ :: _) _) _ _ _)
    refine Hold.out ?_)
  k_steps
  refine Hold.in ?_
  (with_reducible rename Fr _ _ _ _ => F9)
  (with_reducible rename News _ _ _ _ => N9)
  subst hrest
  refine s5 w ho0 loose mean mg mb fa cd base h₀ L _ _ Q _ B F9 X T h79 ?_ lr sa rv sv nr n2 (seqX S X0 X1 X2) S (turns + 3) tt textL cO tab a hok npb' p n tpp tn hrv hsv hS (by omega) (by omega) ?_ (rule_all S X0 X1 X2) rfl rfl rfl hcO (News.from N9 ?_) hdrop hp hn hn2 hbig
  · intro tab' m' h' tk' F' N'
    exact hret tab' m' h' tk' F' N'
  · intro k hk
    exact Nat.lt_of_lt_of_le (seqX_lt S X0 X1 X2 hS hX0 hX1 hX2 k) (Nat.pow_le_pow_right (by decide) (by omega))
  · intro q hq
    exact .tail _ (.tail _ (.tail _ hq))
end
section
theorem rot7 {α : Type} {a b c d e f : α} {l o : List α} {q : α} (h : q ∈ a :: b :: c :: d :: e :: f :: (l ++ o)) : q ∈ l ++ (a :: b :: c :: d :: e :: f :: o) := rotg2 (pre := [a, b, c, d, e, f]) h
def u6 (X0 X1 X2 : Nat) (S : Nat → Nat) (k : Nat) : Nat := [X0, X1, X2, S 0, S 1, S 2].getD k 0
theorem fr_at5 {h₀ h : Heap} {L : Addr} {m : Str → Option Value} {x x2 x3 x4 x5 : Str} {v v2 v3 v4 v5 : Value} (F : Fr h₀ L h m) (e : m x = some v) (e2 : m x2 = some v2) (e3 : m x3 = some v3) (e4 : m x4 = some v4) (e5 : m x5 = some v5) :
    Fr h₀ L h (fun y => if y = x then some v else if y = x2 then some v2 else if y = x3 then some v3 else if y = x4 then some v4 else if y = x5 then some v5 else m y) := by
  have em : (fun y => if y = x then some v else if y = x2 then some v2 else if y = x3 then some v3 else if y = x4 then some v4 else if y = x5 then some v5 else m y) = m := by
    funext y
    split
    · subst_vars; exact e.symm
    · split
      · subst_vars; exact e2.symm
      · split
        · subst_vars; exact e3.symm
        · split
          · subst_vars; exact e4.symm
          · split
            · subst_vars; exact e5.symm
            · rfl
  rw [em]; exact F
theorem s3 (w : World) {oc : Value} {od : Option Addr} {osl : Array (Option Value)} {name qual : Str} {params : Arguments} {body : List Stmt} {scope : Scope} {dV kV doc pm cdv ct : Value} {an : Option Addr}
    (ho : List.lookup (141 : Addr) (hd.heap_39 w.params) = some ⟨oc, od, .func (fnOf name qual params body scope dV kV doc pm an cdv ct), osl⟩)
    (loose : List Str) (mean : ExcName → Option Value) (mg mb : Str → Option Value) (fa : Addr) (cd : Value) (base h₀ : Heap) (L : Addr) (m : Str → Option Value) (s : Shared) (Q : Flow → Shared → Prop) (E : Value → Shared → Prop)
    (B : Below callerA base [] h₀) (F : Fr h₀ L s.heap m) (X : (hd.heap_39 w.params).In h₀) (T : Top topProg loose mean mg mb h₀) (h79 : @LT.lt Nat _ 79 L)
    (hret : ∀ (tab : Array Value) (m' : Str → Option Value) (h' : Heap) (tk' : Nat), Fr h₀ L h' m' → News h₀ L h' [(79, tabObj tab)] → Q (.ret (.bool true)) { s with heap := h', toks := tk' })
    (sc : Addr) (scv : List Value) (ns : List Int) (hsc : h₀.IsList sc scv.toArray) (hns : IntsAre scv ns) (hnl : ns.length ≤ 63)
    (wa ta sa : Addr) (wv tv sv : List Value) (n1 n2 n3 : Nat) (X0 X1 X2 : Nat) (S : Nat → Nat) (tt : Tok) (textL : List Nat) (cO : Obj) (tab : Array Value) (a : LexA) (hok : a.Ok w) (npb : Nat) (p n : Nat) (tpp tn : Tok)
    (hwv : StrsAre wv [txt (apW X0), txt (apW X1), txt (apW X2), txt (apW (S 0)), txt (apW (S 1)), txt (apW (S 2))]) (htv : IntsAre tv [(X0 : Int), (X1 : Int), (X2 : Int), (S 0 : Int), (S 1 : Int), (S 2 : Int)])
    (hsv : IntsAre sv [(S 0 : Int), (S 1 : Int), (S 2 : Int)]) (hS : ∀ k, S k ≤ 3) (hX0 : X0 < 2 ^ 17) (hX1 : X1 < 2 ^ 17) (hX2 : X2 < 2 ^ 17)
    (m0 : m "script" = some (.ref sc)) (m1 : m "words" = some (.ref wa)) (m2 : m "told" = some (.ref ta)) (m3 : m "shares" = some (.ref sa)) (m4 : m "text" = some (.str (txt textL) tt))
    (hcO : cO.data = .cell (some (.ref a.x)))
    (N : News h₀ L s.heap ((wa, listOf wv.toArray n1) :: (ta, listOf tv.toArray n3) :: (sa, listOf sv.toArray n2) :: (L + 1, cO) :: (79, tabObj tab) :: a.led w npb [] p n tpp tn))
    (hdrop : a.xt.cps.toList.drop p = []) (hp : p < 2 ^ 20) (hn : n = 1 + textL.count 10) (hn2 : n < 2 ^ 20) (hbig : ∀ b ∈ a.adr, @LT.lt Nat _ (L + 1) b)
    (hsaL : @LT.lt Nat _ (L + 1) sa) (hsaA : sa ∉ a.adr) (hwaA : wa ∉ a.adr) (htaA : ta ∉ a.adr) (hws : wa ≠ sa) :
    wpAny (model PySem.Challenge.rw_wn0021_01.row.prog w) (callerA.deeper (envOfC (PySem.Str.ofString "law") scope L fa cd)) (execs (body.drop 7) (envOfC (PySem.Str.ofString "law") scope L fa cd)) Q E s := by
  k_with_none
  w_top off
  k_with "hk exec For Name Call cons nil" => refine Hold.out ?_
  k_with "hk exec For Name Subscript cons nil" => refine Hold.out ?_
  k_with "hk pyIter ref" => refine Hold.out ?_
  revert ho X; k_fill; intro ho X
  refine noE ?_
  refine' law_lit2 (P := fun body scope => wpAny (model PySem.Challenge.rw_wn0021_01.row.prog w) (callerA.deeper (envOfC (PySem.Str.ofString "law") scope L fa cd)) (execs (body.drop 7) (envOfC (PySem.Str.ofString "law") scope L fa cd)) Q (fun _ _ => False) s) ho ?kl (fun ho0 => ?_)
  case kl => k_is
  dsimp only [List.drop]
  clear ho
  have F9 := fr_at5 F m0 m1 m2 m3 m4
  clear F
  generalize hrest : (sa, listOf sv.toArray n2) :: (L + 1, cO) :: (79, tabObj tab) :: a.led w npb [] p n tpp tn = rest at N
  have hgetw : ∀ k, k < 6 → ∃ t, wv[k]? = some (.str (txt (apW (u6 X0 X1 X2 S k))) t) := by
    intro k hk
    match k, hk with
    | 0, _ | 1, _ | 2, _ | 3, _ | 4, _ | 5, _ => exact hwv.get _ _ rfl
  have hgett : ∀ k, k < 6 → ∃ t, tv[k]? = some (.int (u6 X0 X1 X2 S k : Nat) t) := by
    intro k hk
    match k, hk with
    | 0, _ | 1, _ | 2, _ | 3, _ | 4, _ | 5, _ => exact htv.get _ _ rfl
  have hub : ∀ k, k < 6 → u6 X0 X1 X2 S k < 2 ^ 17 := by
    intro k hk
    match k, hk with
    | 0, _ => exact hX0
    | 1, _ => exact hX1
    | 2, _ => exact hX2
    | 3, _ => exact Nat.lt_of_le_of_lt (hS 0) (by decide)
    | 4, _ => exact Nat.lt_of_le_of_lt (hS 1) (by decide)
    | 5, _ => exact Nat.lt_of_le_of_lt (hS 2) (by decide)
  have hlw : ∀ k, k < 6 → (apW (u6 X0 X1 X2 S k)).length ≤ 5 := fun k hk => apW_len (k := 5) (Nat.lt_trans (hub k hk) (by decide))
  have hclean : ∀ k, k < 6 → ∀ t, Pure w 105 1 8 [.str (txt (apW (u6 X0 X1 X2 S k))) t] (fun _ => .bool true) := fun k hk t => c_clean w (txt (apW (u6 X0 X1 X2 S k))) t (by rw [show (txt (apW (u6 X0 X1 X2 S k))).cps.size = (apW (u6 X0 X1 X2 S k)).length from txt_length _]; have := hlw k hk; omega) (by rw [txt_cps]; exact apW_small _) (by rw [txt_cps]; exact apW_head _)
  have hnum : ∀ k, k < 6 → ∀ t, Pure w 98 1 8 [.str (txt (apW (u6 X0 X1 X2 S k))) t] (fun t => .int ((u6 X0 X1 X2 S k : Nat) : Int) t) := fun k hk t => by
    have := c_number w (txt (apW (u6 X0 X1 X2 S k))) t (by rw [show (txt (apW (u6 X0 X1 X2 S k))).cps.size = (apW (u6 X0 X1 X2 S k)).length from txt_length _]; have := hlw k hk; omega) (by rw [txt_cps]; exact apW_small _)
    rwa [txt_cps, numF_apW] at this
  k_steps
  refine Hold.in ?_
  refine For_O ?_
  k_steps
  refine Hold.in ?_
  (with_reducible rename Fr _ _ _ _ => F8)
  (with_reducible rename News _ _ _ _ => N8)
  refine' it_range (n := 6) (fun i m' news' => (wa, listOf wv.toArray n1) :: (ta, listOf tv.toArray n3) :: rest = news' ∧ ∃ (u : Str → Option Value), m' = fun z : Str => if z = "script" then some (Value.ref sc) else if z = "words" then some (Value.ref wa) else if z = "told" then some (Value.ref ta) else if z = "shares" then some (Value.ref sa) else if z = "text" then some (.str (txt textL) tt) else u z) ?h1 ?h2 ?h3 ?h4 ?h5 F8 N8 ?h8 ?h9 ?h10 ?h11 ?h12 ?h13
  case h1 => rfl
  case h2 => assumption
  case h3 => decide
  case h4 => decide
  case h5 => rintro _ _ _ ⟨rfl, _⟩; exact lt_size_news N8
  case h8 => rfl
  case h9 => exact ⟨rfl, _, rfl⟩
  case h12 => rfl
  case h13 => rfl
  case h10 =>
    rintro k u2 m₁ nw h tk own hk ⟨hnw, u1, rfl⟩ ho' F' N'
    subst hnw
    dsimp only at F'
    rw [Int.zero_add] at F'
    dsimp only [List.cons_append] at N'
    clear F8 N8
    obtain ⟨tw, hw1⟩ := hgetw k hk
    obtain ⟨tt2, ht1⟩ := hgett k hk
    have hw1' : wv[((k : Nat) : Int).toNat]? = some (.str (txt (apW (u6 X0 X1 X2 S k))) tw) := hw1
    have ht1' : tv[((k : Nat) : Int).toNat]? = some (.int (u6 X0 X1 X2 S k : Nat) tt2) := ht1
    k_with "mine sub" => (
      (with_reducible rename News _ _ _ _ => N9)
      k_dflt (first
      | refine item_litK (l := wa) (vs := wv) ⟨_, N9.get (.head _), rfl, _, rfl⟩ (by omega) (by omega) hw1' ?_
      | refine item_litK (l := ta) (vs := tv) ⟨_, N9.get (.tail _ (.head _)), rfl, _, rfl⟩ (by omega) (by omega) ht1' ?_))
    k_with "mine call" => (
      k_dflt ((first | refine' (hclean k hk _).use ?k1 ?k2 ?k3 ?k4 ?k5 ?kK ?kd ?ku ?_ | refine' (hnum k hk _).use ?k1 ?k2 ?k3 ?k4 ?k5 ?kK ?kd ?ku ?_); (case k1 => k_asm); (case k2 => k_asm); (case k3 => k_asm); (case k4 => k_asm); (case k5 => k_asm); (case kK => exact rfl); (case kd => ktr_room); (case ku => ktr_units))
      intro t9 h9 tk9 F9 N9)
    k_with "mine ne" => (
      k_dflt (refine ne_int ?_)
      rw [bne_self_eq_false])
    k_steps
    (with_reducible rename Fr _ _ _ _ => F9)
    (with_reducible rename News _ _ _ _ => N9)
    exact ForEnd.next (fr_at5 (x := "script") (v := .ref sc) (x2 := "words") (v2 := .ref wa) (x3 := "told") (v3 := .ref ta) (x4 := "shares") (v4 := .ref sa) (x5 := "text") (v5 := .str (txt textL) tt) F9 rfl rfl rfl rfl rfl) N9 (fun p hp => List.mem_append_left _ hp) (fun p hp => .tail _ (.tail _ (List.mem_append_right _ hp))) ⟨rfl, _, rfl⟩
  case h11 =>
    rintro m₁ _ h tk ⟨rfl, u1, rfl⟩ F' N'
    clear F8 N8
    obtain ⟨q0, q1, q2, wv', hwve⟩ : ∃ r0 r1 r2 rv', wv = .str (txt (apW X0)) r0 :: .str (txt (apW X1)) r1 :: .str (txt (apW X2)) r2 :: rv' := three_of hwv rfl rfl rfl
    have hwl : wv.length = 6 := by rw [strsAre_len hwv]; rfl
    have pw := pick3 hwve
    k_with "mine slice" => (
      (with_reducible rename News _ _ _ _ => N9)
      (with_reducible rename Fr _ _ _ _ => F9)
      k_dflt (refine kmk_slice_lit (l := wa) (its := wv.toArray) F9 N9 ⟨_, N9.get (.head _), rfl, _, rfl⟩ IsPart.none (IsPart.int _ _) pw ?_ (by with_unfolding_all rfl) (by intro _; with_unfolding_all rfl) (by rw [sizeLine_eq, List.size_toArray]; omega))
      clear F9 N9
      intro _ _ _ _ _)
    k_steps
    refine Hold.in ?_
    refine For_O ?_
    k_steps
    refine Hold.in ?_
    (with_reducible rename Fr _ _ _ _ => F8)
    (with_reducible rename News _ _ _ _ => N8)
    rename_i D _ hDb
    subst hrest
    have hDA : ∀ b ∈ a.adr, @LT.lt Nat _ b D := by
      intro b hb
      obtain ⟨q, hq, rfl⟩ := List.mem_map.mp (show b ∈ (a.led w npb [] p n tpp tn).map (·.1) from hb)
      exact hDb q (.tail _ (.tail _ (.tail _ (.tail _ (.tail _ hq)))))
    have hZ0 := lt_news N8
    have hZA : ∀ b ∈ a.adr, @LT.lt Nat _ b _ := fun b hb => Nat.lt_trans (hDA b hb) (hZ0 _ (.head _))
    obtain ⟨pb, x, d, x2, d2, pb2, f, cc, lp, c2, c1, fd, co, o2, o1, a1, a2, a3, a4, a5, b1, b2, b3, b4, b5, b6, b7, nl, xt⟩ := a
    refine' it_list (l := D) (vs := [Value.str (txt (apW X0)) q0, Value.str (txt (apW X1)) q1, Value.str (txt (apW X2)) q2]) (nn := 0) (fun i m' news' => (∃ npb', news' = (D, listOf [Value.str (txt (apW X0)) q0, Value.str (txt (apW X1)) q1, Value.str (txt (apW X2)) q2].toArray 0) :: (wa, listOf wv.toArray n1) :: (ta, listOf tv.toArray n3) :: (sa, listOf sv.toArray n2) :: (L + 1, cO) :: (79, tabObj tab) :: LexA.led ⟨pb, x, d, x2, d2, pb2, f, cc, lp, c2, c1, fd, co, o2, o1, a1, a2, a3, a4, a5, b1, b2, b3, b4, b5, b6, b7, nl, xt⟩ w npb' ([Value.str (txt (apW X0)) q0, Value.str (txt (apW X1)) q1, Value.str (txt (apW X2)) q2].take i) p n tpp tn) ∧ ∃ (u : Str → Option Value), m' = fun z : Str => if z = "script" then some (Value.ref sc) else if z = "words" then some (Value.ref wa) else if z = "told" then some (Value.ref ta) else if z = "shares" then some (Value.ref sa) else if z = "text" then some (.str (txt textL) tt) else u z) ?g1 ?g2 ?g3 F8 N8 ?g4 ?g5 ?g6 ?g7 ?g8 ?g9
    case g1 => rfl
    case g2 => rintro _ _ _ ⟨⟨_, rfl⟩, _⟩; exact .head _
    case g3 =>
      rintro i _ _ ⟨⟨npb', rfl⟩, _⟩
      refine List.forall_mem_cons.mpr ⟨hZ0 _ (.head _), List.forall_mem_cons.mpr ⟨hZ0 _ (.tail _ (.head _)), List.forall_mem_cons.mpr ⟨hZ0 _ (.tail _ (.tail _ (.head _))), List.forall_mem_cons.mpr ⟨hZ0 _ (.tail _ (.tail _ (.tail _ (.head _)))), List.forall_mem_cons.mpr ⟨hZ0 _ (.tail _ (.tail _ (.tail _ (.tail _ (.head _))))), List.forall_mem_cons.mpr ⟨hZ0 _ (.tail _ (.tail _ (.tail _ (.tail _ (.tail _ (.head _)))))), fun q hq => ?_⟩⟩⟩⟩⟩⟩
      exact hZA _ (led_adr _ _ _ _ _ _ _ _ q hq)
    case g4 => rfl
    case g5 => exact ⟨⟨_, rfl⟩, _, rfl⟩
    case g8 => rfl
    case g9 => rfl
    case g6 =>
      rintro i v m₁ nw h tk own hv ⟨⟨npb', hnw⟩, u2, rfl⟩ ho' F' N'
      subst hnw
      obtain ⟨l, tl, rfl, hi3⟩ : ∃ l tl, v = .str (txt l) tl ∧ i < 3 := by
        match i, hv with
        | 0, h => cases h; exact ⟨_, _, rfl, by omega⟩
        | 1, h => cases h; exact ⟨_, _, rfl, by omega⟩
        | 2, h => cases h; exact ⟨_, _, rfl, by omega⟩
        | i + 3, h => cases h
      have htk : [Value.str (txt (apW X0)) q0, Value.str (txt (apW X1)) q1, Value.str (txt (apW X2)) q2].take (i + 1) = [Value.str (txt (apW X0)) q0, Value.str (txt (apW X1)) q1, Value.str (txt (apW X2)) q2].take i ++ [.str (txt l) tl] := by rw [List.take_add_one, hv]; rfl
      have htl : ([Value.str (txt (apW X0)) q0, Value.str (txt (apW X1)) q1, Value.str (txt (apW X2)) q2].take i).length ≤ 20 := by rw [List.length_take]; omega
      generalize [Value.str (txt (apW X0)) q0, Value.str (txt (apW X1)) q1, Value.str (txt (apW X2)) q2].take i = pbs at N' htk htl
      generalize [Value.str (txt (apW X0)) q0, Value.str (txt (apW X1)) q1, Value.str (txt (apW X2)) q2].take (i + 1) = pbs2 at htk ⊢
      subst htk
      have hZ1 : ∀ q ∈ own, q.1 ∉ LexA.adr ⟨pb, x, d, x2, d2, pb2, f, cc, lp, c2, c1, fd, co, o2, o1, a1, a2, a3, a4, a5, b1, b2, b3, b4, b5, b6, b7, nl, xt⟩ := fun q hq hb => Nat.lt_irrefl _ (ho' q hq ▸ hZA _ hb)
      have hOff : ∀ q ∈ (D, listOf [Value.str (txt (apW X0)) q0, Value.str (txt (apW X1)) q1, Value.str (txt (apW X2)) q2].toArray 0) :: (wa, listOf wv.toArray n1) :: (ta, listOf tv.toArray n3) :: (sa, listOf sv.toArray n2) :: (L + 1, cO) :: (79, tabObj tab) :: own, q.1 ∉ LexA.adr ⟨pb, x, d, x2, d2, pb2, f, cc, lp, c2, c1, fd, co, o2, o1, a1, a2, a3, a4, a5, b1, b2, b3, b4, b5, b6, b7, nl, xt⟩ := by
        refine List.forall_mem_cons.mpr ⟨fun h => Nat.lt_irrefl _ (hDA _ h), List.forall_mem_cons.mpr ⟨hwaA, List.forall_mem_cons.mpr ⟨htaA, List.forall_mem_cons.mpr ⟨hsaA, List.forall_mem_cons.mpr ⟨fun h => Nat.lt_irrefl _ (hbig _ h), List.forall_mem_cons.mpr ⟨fun h => ?_, hZ1⟩⟩⟩⟩⟩⟩
        exact Nat.lt_irrefl _ (Nat.lt_trans (Nat.lt_trans h79 (Nat.lt_succ_self L)) (hbig _ h))
      dsimp only at F'
      clear F8 N8
      dsimp only [LexA.led, List.cons_append, List.nil_append] at N' hcO
      k_with "mine call" => refine Hold.out ?_
      k_steps
      refine Hold.in ?_
      (with_reducible rename Fr _ _ _ _ => F9)
      (with_reducible rename News _ _ _ _ => N9)
      refine c_pushR w ⟨pb, x, d, x2, d2, pb2, f, cc, lp, c2, c1, fd, co, o2, o1, a1, a2, a3, a4, a5, b1, b2, b3, b4, b5, b6, b7, nl, xt⟩ hok p n tpp tn npb' l tl pbs htl _ ((D, listOf [Value.str (txt (apW X0)) q0, Value.str (txt (apW X1)) q1, Value.str (txt (apW X2)) q2].toArray 0) :: (wa, listOf wv.toArray n1) :: (ta, listOf tv.toArray n3) :: (sa, listOf sv.toArray n2) :: (L + 1, cO) :: (79, tabObj tab) :: own) _ _ _ _ _ _ _ _ _ _ _ _ _ _ _ _ _ _ _ _ _ B F9 X N9 (fun q hq => .tail _ (.tail _ (.tail _ (.tail _ (.tail _ (.tail _ (List.mem_append_left _ hq))))))) (List.forall_mem_cons.mpr ⟨.head _, List.forall_mem_cons.mpr ⟨.tail _ (.head _), List.forall_mem_cons.mpr ⟨.tail _ (.tail _ (.head _)), List.forall_mem_cons.mpr ⟨.tail _ (.tail _ (.tail _ (.head _))), List.forall_mem_cons.mpr ⟨.tail _ (.tail _ (.tail _ (.tail _ (.head _)))), List.forall_mem_cons.mpr ⟨.tail _ (.tail _ (.tail _ (.tail _ (.tail _ (.head _))))), fun q hq => .tail _ (.tail _ (.tail _ (.tail _ (.tail _ (.tail _ (.tail _ (.tail _ (.tail _ (.tail _ (.tail _ (.tail _ (.tail _ (.tail _ (.tail _ (.tail _ (hq))))))))))))))))⟩⟩⟩⟩⟩⟩) hOff T rfl (by ktr_room) (by ktr_units) ?_
      intro h9 tk9 F8 N8 kp8
      clear F9 N9 kp8
      k_steps
      (with_reducible rename Fr _ _ _ _ => F9)
      (with_reducible rename News _ _ _ _ => N9)
      have N10 := News.from N9 (l := (D, listOf [Value.str (txt (apW X0)) q0, Value.str (txt (apW X1)) q1, Value.str (txt (apW X2)) q2].toArray 0) :: (wa, listOf wv.toArray n1) :: (ta, listOf tv.toArray n3) :: (sa, listOf sv.toArray n2) :: (L + 1, cO) :: (79, tabObj tab) :: (LexA.led ⟨pb, x, d, x2, d2, pb2, f, cc, lp, c2, c1, fd, co, o2, o1, a1, a2, a3, a4, a5, b1, b2, b3, b4, b5, b6, b7, nl, xt⟩ w (npb' + 1) (pbs ++ [.str (txt l) tl]) p n tpp tn ++ own)) (fun q hq => rot7 hq)
      exact ForEnd.next (fr_at5 (x := "script") (v := .ref sc) (x2 := "words") (v2 := .ref wa) (x3 := "told") (v3 := .ref ta) (x4 := "shares") (v4 := .ref sa) (x5 := "text") (v5 := .str (txt textL) tt) F9 rfl rfl rfl rfl rfl) N10 (fun p hp => List.mem_append_left _ hp) (fun p hp => .tail _ (.tail _ (.tail _ (.tail _ (.tail _ (.tail _ (List.mem_append_right _ hp))))))) ⟨⟨_, rfl⟩, _, rfl⟩
    case g7 =>
      rintro m₁ _ h tk ⟨⟨npb', rfl⟩, u2, rfl⟩ F' N'
      clear F8 N8
      refine s4 w ho0 loose mean mg mb fa cd base h₀ L _ _ Q _ B F' X T h79 ?_ sc scv ns hsc hns hnl wa sa wv sv n1 n2 X0 X1 X2 _ _ _ S q0 q1 q2 tt textL cO tab ⟨pb, x, d, x2, d2, pb2, f, cc, lp, c2, c1, fd, co, o2, o1, a1, a2, a3, a4, a5, b1, b2, b3, b4, b5, b6, b7, nl, xt⟩ hok npb' p n tpp tn hwv hsv hS hX0 hX1 hX2 rfl rfl rfl rfl hcO (News.from N' ?_) hdrop hp hn hn2 hbig hsaL hsaA hwaA hws
      · intro tab' m' h' tk' F' N'
        exact hret tab' m' h' tk' F' N'
      · intro q hq
        rcases List.mem_cons.mp hq with rfl | hq
        · exact .tail _ (.head _)
        · exact .tail _ (.tail _ (.tail _ hq))
end
section
theorem store_cell {M : Model} {A : Around} {E : Value → Shared → Prop} {s : Shared} {h₀ : Heap} {L c : Addr} {m : Str → Option Value} {env : Env} {name : Str} {v : Value} {v₀ : Option Value} {o : Obj} {rest : List (Addr × Obj)} {Q : Unit → Shared → Prop}
    (F : Fr h₀ L s.heap m) (N : News h₀ L s.heap ((c, o) :: rest)) (hd : o.data = .cell v₀) (off : ∀ q ∈ rest, q.1 ≠ c) (hk : env.scope.kind = .function) (hl : env.kindOf name = some .cell) (hc : env.cells.lookup name = some c)
    (h : ∀ h' o', Fr h₀ L h' m → News h₀ L h' ((c, o') :: rest) → o'.data = .cell (some v) → Q () { s with heap := h' }) : wpAny M A (storeName env name v) Q E s := by
  have z := N _ (.head _)
  refine wpAny_storeName_cell hk hl hc ⟨o, z.1, hd⟩ fun h' hv hs => ?_
  obtain ⟨o', ho', hd'⟩ := hv
  exact h h' o' (F.change hs z.2.1 z.2.2) (news_set (pre := []) N (fun _ h => nomatch h) off hs ho') hd'
theorem rot8 {α : Type} {a b c d e f g i : α} {l : List α} {q : α} (h : q ∈ a :: b :: c :: d :: e :: f :: g :: i :: l) : q ∈ l ++ (a :: b :: c :: d :: e :: f :: g :: [i]) := rotg (pre := [a, b, c, d, e, f, g, i]) h
theorem off1_mem {D : Addr} {l : List (Addr × Obj)} : LCg.Off1 D l → ∀ q ∈ l, q.1 ≠ D := by
  induction l with
  | nil => exact fun _ _ h => nomatch h
  | cons p r ih =>
    intro h
    have h2 : (@Ne Nat p.1 D) ∧ LCg.Off1 D r := h
    exact List.forall_mem_cons.mpr ⟨h2.1, ih h2.2⟩
theorem words_six {ys : List Value} {X0 X1 X2 : Nat} {S : Nat → Nat} (h : StrsAre ys ((List.range 6).map fun j => txt (apW ([(X0 : Int), (X1 : Int), (X2 : Int), (S 0 : Int), (S 1 : Int), (S 2 : Int)].getD j 0).toNat))) :
    StrsAre ys [txt (apW X0), txt (apW X1), txt (apW X2), txt (apW (S 0)), txt (apW (S 1)), txt (apW (S 2))] := by
  rw [show List.range 6 = [0, 1, 2, 3, 4, 5] from rfl] at h
  simp only [List.map_cons, List.map_nil, List.getD_cons_zero, List.getD_cons_succ, Int.toNat_natCast] at h
  exact h
theorem adr_gt {a : LexA} {w : World} {Z : Nat} (hok : a.Ok w) (h : @LT.lt Nat _ Z a.c1) : ∀ b ∈ a.adr, @LT.lt Nat _ Z b := by
  obtain ⟨q1, q2, q3, q4, q5, q6, q7, q8, q9⟩ := hok.1
  have r1 := Nat.lt_trans h q1
  have r2 := Nat.lt_trans r1 q2
  have r3 := Nat.lt_trans r2 q3
  have r4 := Nat.lt_trans r3 q4
  have r5 := Nat.lt_trans r4 q5
  have r6 := Nat.lt_trans r5 q6
  have r7 := Nat.lt_trans r6 q7
  have r8 := Nat.lt_trans r7 q8
  have r9 := Nat.lt_trans r8 q9
  intro b hb
  simp only [LexA.adr, List.mem_cons, List.not_mem_nil, or_false] at hb
  rcases hb with rfl | rfl | rfl | rfl | rfl | rfl | rfl | rfl | rfl | rfl <;> assumption
theorem s2 (w : World) {oc : Value} {od : Option Addr} {osl : Array (Option Value)} {name qual : Str} {params : Arguments} {body : List Stmt} {scope : Scope} {dV kV doc pm cdv ct : Value} {an : Option Addr}
    (ho : List.lookup (141 : Addr) (hd.heap_39 w.params) = some ⟨oc, od, .func (fnOf name qual params body scope dV kV doc pm an cdv ct), osl⟩)
    (loose : List Str) (mean : ExcName → Option Value) (mg mb : Str → Option Value) (fa : Addr) (cd : Value) (base h₀ : Heap) (L : Addr) (m : Str → Option Value) (s : Shared) (Q : Flow → Shared → Prop) (E : Value → Shared → Prop)
    (B : Below callerA base [] h₀) (F : Fr h₀ L s.heap m) (X : (hd.heap_39 w.params).In h₀) (T : Top topProg loose mean mg mb h₀) (h79 : @LT.lt Nat _ 79 L)
    (hret : ∀ (tab : Array Value) (m' : Str → Option Value) (h' : Heap) (tk' : Nat), Fr h₀ L h' m' → News h₀ L h' [(79, tabObj tab)] → Q (.ret (.bool true)) { s with heap := h', toks := tk' })
    (sc : Addr) (scv : List Value) (ns : List Int) (hsc : h₀.IsList sc scv.toArray) (hns : IntsAre scv ns) (hnl : ns.length ≤ 63)
    (ta da sa : Addr) (tv dv sv : List Value) (n2 n3 n4 : Nat) (X0 X1 X2 : Nat) (S : Nat → Nat) (ds : List Int) (cO : Obj)
    (htv : IntsAre tv [(X0 : Int), (X1 : Int), (X2 : Int), (S 0 : Int), (S 1 : Int), (S 2 : Int)]) (hdv : IntsAre dv ds) (hdl : ds.length = 6)
    (hsv : IntsAre sv [(S 0 : Int), (S 1 : Int), (S 2 : Int)]) (hS : ∀ k, S k ≤ 3) (hX0 : X0 ≤ 65536) (hX1 : X1 ≤ 65536) (hX2 : X2 ≤ 65536)
    (m0 : m "script" = some (.ref sc)) (m1 : m "drawn" = some (.ref da)) (m2 : m "told" = some (.ref ta)) (m3 : m "shares" = some (.ref sa))
    (hcO : cO.data = .cell none) (C : CodeHd base 83 79)
    (N : News h₀ L s.heap ((ta, listOf tv.toArray n3) :: (da, listOf dv.toArray n4) :: (sa, listOf sv.toArray n2) :: [(L + 1, cO), (79, tabObj #[])]))
    (hsaL : @LT.lt Nat _ (L + 1) sa) (htaL : @LT.lt Nat _ (L + 1) ta) (hdaL : @LT.lt Nat _ (L + 1) da) :
    wpAny (model PySem.Challenge.rw_wn0021_01.row.prog w) (callerA.deeper (envOfC (PySem.Str.ofString "law") scope L fa cd)) (execs (body.drop 4) (envOfC (PySem.Str.ofString "law") scope L fa cd)) Q E s := by
  k_with_none
  w_top off
  k_with "hk CompSrc" => refine Hold.out ?_
  revert ho X; k_fill; intro ho X
  refine noE ?_
  refine' law_lit2 (P := fun body scope => wpAny (model PySem.Challenge.rw_wn0021_01.row.prog w) (callerA.deeper (envOfC (PySem.Str.ofString "law") scope L fa cd)) (execs (body.drop 4) (envOfC (PySem.Str.ofString "law") scope L fa cd)) Q (fun _ _ => False) s) ho ?kl (fun ho0 => ?_)
  case kl => k_is
  dsimp only [List.drop]
  clear ho
  have F9 := fr_at4 F m0 m1 m2 m3
  clear F
  have hts : ∀ t ∈ [(X0 : Int), (X1 : Int), (X2 : Int), (S 0 : Int), (S 1 : Int), (S 2 : Int)], 0 ≤ t ∧ t ≤ 65536 := by
    have s0 := hS 0
    have s1 := hS 1
    have s2 := hS 2
    intro t ht
    simp only [List.mem_cons, List.not_mem_nil, or_false] at ht
    rcases ht with rfl | rfl | rfl | rfl | rfl | rfl <;> omega
  generalize hTS : [(X0 : Int), (X1 : Int), (X2 : Int), (S 0 : Int), (S 1 : Int), (S 2 : Int)] = ts at hts htv
  have htl : ts.length = 6 := by rw [← hTS]; rfl
  k_with "mine call" => refine Hold.out ?_
  k_steps
  refine Hold.in ?_
  (with_reducible rename Fr _ _ _ _ => F9)
  (with_reducible rename News _ _ _ _ => N9)
  refine c_text w ta da tv dv n3 n4 ts ds htv hdv htl hdl hts _ _ _ _ _ _ _ _ _ _ _ _ _ _ _ _ _ _ _ _ _ _ B F9 X N9 T rfl (by ktr_room) (by ktr_units) ?_
  intro tt h9 tk9 F8 N8
  clear F9 N9
  have hxl := textF_len ts ds hts 6
  generalize hTX : textF ts ds 6 = textL at hxl ⊢
  k_steps
  refine Hold.in ?_
  (with_reducible rename Fr _ _ _ _ => F9)
  (with_reducible rename News _ _ _ _ => N9)
  refine c_lexer w (txt textL) _ (by rw [txt_length]; omega) _ _ _ _ _ _ _ _ _ _ _ _ _ _ _ _ _ _ _ _ _ B F9 X (News.from N9 (fun q hq => by rw [List.mem_singleton.mp hq]; exact .tail _ (.tail _ (.tail _ (.tail _ (.head _)))))) T rfl C (by ktr_room) (by ktr_units) ?_
  intro pb x d x2 d2 pb2 f cc lp c2 c1 fd co o2 o1 a1 a2 a3 a4 a5 b1 b2 b3 b4 b5 b6 b7 tn tp tab h7 tk7 F7 N7 hread kp7 hord hnew
  have hz := lt_news N9
  have h80 : @LT.lt Nat _ 79 (L + 1) := Nat.lt_trans h79 (Nat.lt_succ_self L)
  have hok : LexA.Ok ⟨pb, x, d, x2, d2, pb2, f, cc, lp, c2, c1, fd, co, o2, o1, a1, a2, a3, a4, a5, b1, b2, b3, b4, b5, b6, b7, 0, txt textL⟩ w := ⟨⟨hord.2.1, hord.2.2.1, hord.2.2.2.1, hord.2.2.2.2.1, hord.2.2.2.2.2.1, hord.2.2.2.2.2.2.1, Nat.lt_trans hord.2.2.2.2.2.2.2.1 hord.2.2.2.2.2.2.2.2.1, hord.2.2.2.2.2.2.2.2.2.1, hord.2.2.2.2.2.2.2.2.2.2⟩, hread, by rw [show (txt textL).cps.size = textL.length from txt_length _]; omega⟩
  have hnewA := adr_gt hok hnew
  have hbig : ∀ b ∈ LexA.adr ⟨pb, x, d, x2, d2, pb2, f, cc, lp, c2, c1, fd, co, o2, o1, a1, a2, a3, a4, a5, b1, b2, b3, b4, b5, b6, b7, 0, txt textL⟩, @LT.lt Nat _ (L + 1) b := fun b hb => Nat.lt_trans (hz _ (.tail _ (.tail _ (.tail _ (.head _))))) (hnewA b hb)
  have hsaA : sa ∉ LexA.adr ⟨pb, x, d, x2, d2, pb2, f, cc, lp, c2, c1, fd, co, o2, o1, a1, a2, a3, a4, a5, b1, b2, b3, b4, b5, b6, b7, 0, txt textL⟩ := fun hb => Nat.lt_irrefl _ (Nat.lt_trans (hz _ (.tail _ (.tail _ (.head _)))) (hnewA _ hb))
  have htaA : ta ∉ LexA.adr ⟨pb, x, d, x2, d2, pb2, f, cc, lp, c2, c1, fd, co, o2, o1, a1, a2, a3, a4, a5, b1, b2, b3, b4, b5, b6, b7, 0, txt textL⟩ := fun hb => Nat.lt_irrefl _ (Nat.lt_trans (hz _ (.head _)) (hnewA _ hb))
  have hdaA : da ∉ LexA.adr ⟨pb, x, d, x2, d2, pb2, f, cc, lp, c2, c1, fd, co, o2, o1, a1, a2, a3, a4, a5, b1, b2, b3, b4, b5, b6, b7, 0, txt textL⟩ := fun hb => Nat.lt_irrefl _ (Nat.lt_trans (hz _ (.tail _ (.head _))) (hnewA _ hb))
  have N6 := kp7.news (News.from N9 (l := [(ta, listOf tv.toArray n3), (da, listOf dv.toArray n4), (sa, listOf sv.toArray n2), (L + 1, cO)]) (List.forall_mem_cons.mpr ⟨.head _, List.forall_mem_cons.mpr ⟨.tail _ (.head _), List.forall_mem_cons.mpr ⟨.tail _ (.tail _ (.head _)), List.forall_mem_cons.mpr ⟨.tail _ (.tail _ (.tail _ (.head _))), fun q hq => nomatch hq⟩⟩⟩⟩)) (by
    refine List.forall_mem_cons.mpr ⟨?_, List.forall_mem_cons.mpr ⟨?_, List.forall_mem_cons.mpr ⟨?_, List.forall_mem_cons.mpr ⟨?_, fun q hq => nomatch hq⟩⟩⟩⟩
    · exact fun h => Nat.ne_of_gt (Nat.lt_trans h80 htaL) (List.mem_singleton.mp h)
    · exact fun h => Nat.ne_of_gt (Nat.lt_trans h80 hdaL) (List.mem_singleton.mp h)
    · exact fun h => Nat.ne_of_gt (Nat.lt_trans h80 hsaL) (List.mem_singleton.mp h)
    · exact fun h => Nat.ne_of_gt h80 (List.mem_singleton.mp h))
  have N10 : News h₀ L h7 ((ta, listOf tv.toArray n3) :: (da, listOf dv.toArray n4) :: (sa, listOf sv.toArray n2) :: (L + 1, cO) :: (79, tabObj tab) :: LexA.led ⟨pb, x, d, x2, d2, pb2, f, cc, lp, c2, c1, fd, co, o2, o1, a1, a2, a3, a4, a5, b1, b2, b3, b4, b5, b6, b7, 0, txt textL⟩ w 0 [] ((0 : Nat) : Int) ((1 : Nat) : Int) tp tn) := News.from (News.app N6 N7) (by
    refine List.forall_mem_cons.mpr ⟨.head _, List.forall_mem_cons.mpr ⟨.tail _ (.head _), List.forall_mem_cons.mpr ⟨.tail _ (.tail _ (.head _)), List.forall_mem_cons.mpr ⟨.tail _ (.tail _ (.tail _ (.head _))), fun q hq => .tail _ (.tail _ (.tail _ (.tail _ ?_)))⟩⟩⟩⟩
    rcases List.mem_cons.mp hq with rfl | hq
    · exact .tail _ (.tail _ (.tail _ (.tail _ (.tail _ (.tail _ (.tail _ (.tail _ (.tail _ (.tail _ (.tail _ (.head _)))))))))))
    · simp only [LexA.led, List.mem_cons, List.not_mem_nil, or_false] at hq
      rcases hq with rfl | rfl | rfl | rfl | rfl | rfl | rfl | rfl | rfl | rfl
      · exact .head _
      · exact .tail _ (.head _)
      · exact .tail _ (.tail _ (.head _))
      · exact .tail _ (.tail _ (.tail _ (.tail _ (.head _))))
      · exact .tail _ (.tail _ (.tail _ (.tail _ (.tail _ (.head _)))))
      · exact .tail _ (.tail _ (.tail _ (.tail _ (.tail _ (.tail _ (.head _))))))
      · exact .tail _ (.tail _ (.tail _ (.tail _ (.tail _ (.tail _ (.tail _ (.head _)))))))
      · exact .tail _ (.tail _ (.tail _ (.tail _ (.tail _ (.tail _ (.tail _ (.tail _ (.head _))))))))
      · exact .tail _ (.tail _ (.tail _ (.tail _ (.tail _ (.tail _ (.tail _ (.tail _ (.tail _ (.head _)))))))))
      · exact .tail _ (.tail _ (.tail _ (.tail _ (.tail _ (.tail _ (.tail _ (.tail _ (.tail _ (.tail _ (.head _)))))))))))
  clear F9 N9 N7 N6 kp7
  generalize hled : LexA.led ⟨pb, x, d, x2, d2, pb2, f, cc, lp, c2, c1, fd, co, o2, o1, a1, a2, a3, a4, a5, b1, b2, b3, b4, b5, b6, b7, 0, txt textL⟩ w 0 [] ((0 : Nat) : Int) ((1 : Nat) : Int) tp tn = led at N10
  have hledA : ∀ q ∈ led, q.1 ∈ LexA.adr ⟨pb, x, d, x2, d2, pb2, f, cc, lp, c2, c1, fd, co, o2, o1, a1, a2, a3, a4, a5, b1, b2, b3, b4, b5, b6, b7, 0, txt textL⟩ := by rw [← hled]; exact led_adr _ _ _ _ _ _ _ _
  dsimp only
  refine store_cell F7 (News.from N10 (l := (L + 1, cO) :: (ta, listOf tv.toArray n3) :: (da, listOf dv.toArray n4) :: (sa, listOf sv.toArray n2) :: (79, tabObj tab) :: led) ?mem) hcO ?off rfl rfl rfl ?_
  case mem => exact List.forall_mem_cons.mpr ⟨.tail _ (.tail _ (.tail _ (.head _))), List.forall_mem_cons.mpr ⟨.head _, List.forall_mem_cons.mpr ⟨.tail _ (.head _), List.forall_mem_cons.mpr ⟨.tail _ (.tail _ (.head _)), List.forall_mem_cons.mpr ⟨.tail _ (.tail _ (.tail _ (.tail _ (.head _)))), fun q hq => .tail _ (.tail _ (.tail _ (.tail _ (.tail _ hq))))⟩⟩⟩⟩⟩
  case off => exact List.forall_mem_cons.mpr ⟨Nat.ne_of_gt htaL, List.forall_mem_cons.mpr ⟨Nat.ne_of_gt hdaL, List.forall_mem_cons.mpr ⟨Nat.ne_of_gt hsaL, List.forall_mem_cons.mpr ⟨Nat.ne_of_lt h80, fun q hq => Nat.ne_of_gt (hbig _ (hledA q hq))⟩⟩⟩⟩
  intro h6 cO2 F6 N6 hcO2
  clear F7 N10
  subst hled
  dsimp only [LexA.led] at N6
  k_steps
  refine Hold.in ?_
  (with_reducible rename Fr _ _ _ _ => F9)
  (with_reducible rename News _ _ _ _ => N9)
  refine LCg.CompSrc.range (n := 6) rfl F9 N9 (by assumption) (by decide) (by decide) (by rw [sizeLine_eq]; decide) fun g9 => ?_
  refine compRest_inv (fun k ys news' => ∃ (p n : Nat) (tp tn : Tok), news' = (L + 1, cO2) :: (ta, listOf tv.toArray n3) :: (da, listOf dv.toArray n4) :: (sa, listOf sv.toArray n2) :: (79, tabObj tab) :: LexA.led ⟨pb, x, d, x2, d2, pb2, f, cc, lp, c2, c1, fd, co, o2, o1, a1, a2, a3, a4, a5, b1, b2, b3, b4, b5, b6, b7, 0, txt textL⟩ w 0 [] p n tp tn ∧ At ts ds k (textL.drop p) ∧ n + (textL.drop p).count 10 = 1 + textL.count 10 ∧ p ≤ 1100 * k ∧ StrsAre ys ((List.range k).map fun j => txt (apW (ts.getD j 0).toNat))) ?fin ?step _ 0 [] _ (Nat.zero_add _) ⟨0, 1, tp, tn, rfl, .inl (by rw [restF_zero, hTX]; rfl), rfl, Nat.zero_le _, .nil⟩
  case fin =>
    rintro ys _ ⟨p, n, tp', tn', rfl, hat, hcnt, hpb, hys⟩
    have hd0 := at_end hat
    rw [hd0] at hcnt
    intro D h' tk' F' N' oD1
    have oD := off1_mem oD1
    have hDA : D ∉ LexA.adr ⟨pb, x, d, x2, d2, pb2, f, cc, lp, c2, c1, fd, co, o2, o1, a1, a2, a3, a4, a5, b1, b2, b3, b4, b5, b6, b7, 0, txt textL⟩ := by
      intro hb
      obtain ⟨q, hq, hqe⟩ := List.mem_map.mp (show D ∈ (LexA.led ⟨pb, x, d, x2, d2, pb2, f, cc, lp, c2, c1, fd, co, o2, o1, a1, a2, a3, a4, a5, b1, b2, b3, b4, b5, b6, b7, 0, txt textL⟩ w 0 [] p n tp' tn').map (·.1) from hb)
      exact oD q (.tail _ (.tail _ (.tail _ (.tail _ (.tail _ hq))))) hqe
    have hDs : D ≠ sa := fun h => oD _ (.tail _ (.tail _ (.tail _ (.head _)))) h.symm
    have hcl : textL.count 10 ≤ 600 := Nat.le_trans List.count_le_length hxl
    have hn1 : n = 1 + textL.count 10 := by simpa using hcnt
    subst hTS
    have hys' := words_six (X0 := X0) (X1 := X1) (X2 := X2) (S := S) hys
    clear hys
    refine s3 w ho0 loose mean mg mb fa cd base h₀ L _ _ Q _ B F' X T h79 ?_ sc scv ns hsc hns hnl D ta sa ys tv sv ys.length n2 n3 X0 X1 X2 S tt textL cO2 tab ⟨pb, x, d, x2, d2, pb2, f, cc, lp, c2, c1, fd, co, o2, o1, a1, a2, a3, a4, a5, b1, b2, b3, b4, b5, b6, b7, 0, txt textL⟩ hok 0 p n tp' tn' hys' htv hsv hS (by omega) (by omega) (by omega) rfl rfl rfl rfl ?_ hcO2 (News.from N' ?_) (by show List.drop p (txt textL).cps.toList = _; rw [txt_cps]; exact hd0) (by omega) hn1 (by omega) hbig hsaL hsaA hDA htaA hDs
    · intro tab' m' h' tk' F' N'
      exact hret tab' m' h' tk' F' N'
    · rfl
    · exact List.forall_mem_cons.mpr ⟨.head _, List.forall_mem_cons.mpr ⟨.tail _ (.tail _ (.head _)), List.forall_mem_cons.mpr ⟨.tail _ (.tail _ (.tail _ (.tail _ (.head _)))), List.forall_mem_cons.mpr ⟨.tail _ (.head _), List.forall_mem_cons.mpr ⟨.tail _ (.tail _ (.tail _ (.tail _ (.tail _ (.head _))))), fun q hq => .tail _ (.tail _ (.tail _ (.tail _ (.tail _ (.tail _ hq)))))⟩⟩⟩⟩⟩
  case step =>
    rintro k ys _ hk ⟨p, n, tp', tn', rfl, hat, hcnt, hpb, hys⟩ v I oI C oC D m₂ h' tk' ⟨tv', rfl⟩ hC hx' F' N' off ne
    have hIn : ∀ b ∈ LexA.adr ⟨pb, x, d, x2, d2, pb2, f, cc, lp, c2, c1, fd, co, o2, o1, a1, a2, a3, a4, a5, b1, b2, b3, b4, b5, b6, b7, 0, txt textL⟩, b ≠ I ∧ b ≠ C ∧ b ≠ D := by
      intro b hb
      obtain ⟨q, hq, rfl⟩ := List.mem_map.mp (show b ∈ (LexA.led ⟨pb, x, d, x2, d2, pb2, f, cc, lp, c2, c1, fd, co, o2, o1, a1, a2, a3, a4, a5, b1, b2, b3, b4, b5, b6, b7, 0, txt textL⟩ w 0 [] p n tp' tn').map (·.1) from hb)
      exact off.mem q (.tail _ (.tail _ (.tail _ (.tail _ (.tail _ hq)))))
    have hOff : ∀ q ∈ (I, oI) :: (C, oC) :: (D, LCg.lst ys) :: (L + 1, cO2) :: (ta, listOf tv.toArray n3) :: (da, listOf dv.toArray n4) :: (sa, listOf sv.toArray n2) :: [(79, tabObj tab)], q.1 ∉ LexA.adr ⟨pb, x, d, x2, d2, pb2, f, cc, lp, c2, c1, fd, co, o2, o1, a1, a2, a3, a4, a5, b1, b2, b3, b4, b5, b6, b7, 0, txt textL⟩ :=
      List.forall_mem_cons.mpr ⟨fun h => (hIn _ h).1 rfl, List.forall_mem_cons.mpr ⟨fun h => (hIn _ h).2.1 rfl, List.forall_mem_cons.mpr ⟨fun h => (hIn _ h).2.2 rfl, List.forall_mem_cons.mpr ⟨fun h => Nat.lt_irrefl _ (hbig _ h), List.forall_mem_cons.mpr ⟨htaA, List.forall_mem_cons.mpr ⟨hdaA, List.forall_mem_cons.mpr ⟨hsaA, List.forall_mem_cons.mpr ⟨fun h => Nat.lt_irrefl _ (Nat.lt_trans h80 (hbig _ h)), fun q hq => nomatch hq⟩⟩⟩⟩⟩⟩⟩⟩
    have hst := at_step hat hk
    have hlc := lexT_count _ (textL.drop p) (Nat.le_refl _)
    have hcl : textL.count 10 ≤ 600 := Nat.le_trans List.count_le_length hxl
    have hdl : (textL.drop p).length ≤ 600 := by rw [List.length_drop]; omega
    dsimp only [LexA.led, List.cons_append, List.nil_append] at N'
    k_with "mine call" => refine Hold.out ?_
    k_steps
    refine Hold.in ?_
    (with_reducible rename Fr _ _ _ _ => F9)
    (with_reducible rename News _ _ _ _ => N9)
    refine c_getR w ⟨pb, x, d, x2, d2, pb2, f, cc, lp, c2, c1, fd, co, o2, o1, a1, a2, a3, a4, a5, b1, b2, b3, b4, b5, b6, b7, 0, txt textL⟩ hok p n tp' tn' 0 (textL.drop p) (by show List.drop p (txt textL).cps.toList = _; rw [txt_cps]) (by omega) (by omega) _ ((I, oI) :: (C, oC) :: (D, LCg.lst ys) :: (L + 1, cO2) :: (ta, listOf tv.toArray n3) :: (da, listOf dv.toArray n4) :: (sa, listOf sv.toArray n2) :: [(79, tabObj tab)]) _ _ _ _ _ _ _ _ _ _ _ _ _ _ _ _ _ _ _ _ _ B F9 X N9 (fun q hq => .tail _ (.tail _ (.tail _ (.tail _ (.tail _ (.tail _ (.tail _ (.tail _ (hq))))))))) (List.forall_mem_cons.mpr ⟨.head _, List.forall_mem_cons.mpr ⟨.tail _ (.head _), List.forall_mem_cons.mpr ⟨.tail _ (.tail _ (.head _)), List.forall_mem_cons.mpr ⟨.tail _ (.tail _ (.tail _ (.head _))), List.forall_mem_cons.mpr ⟨.tail _ (.tail _ (.tail _ (.tail _ (.head _)))), List.forall_mem_cons.mpr ⟨.tail _ (.tail _ (.tail _ (.tail _ (.tail _ (.head _))))), List.forall_mem_cons.mpr ⟨.tail _ (.tail _ (.tail _ (.tail _ (.tail _ (.tail _ (.head _)))))), List.forall_mem_cons.mpr ⟨.tail _ (.tail _ (.tail _ (.tail _ (.tail _ (.tail _ (.tail _ (.head _))))))), fun q hq => nomatch hq⟩⟩⟩⟩⟩⟩⟩⟩) hOff T rfl (by ktr_room) (by ktr_units) ?_
    intro t5 tp5 tn5 p5 h5 tk5 F5 hd5 hp5 N5 kp5
    have hd5' : textL.drop p5 = (lexT (textL.drop p)).2.1 := by rw [← hd5]; show _ = List.drop p5 (txt textL).cps.toList; rw [txt_cps]
    rw [← hd5'] at hst hlc
    clear F9 N9 kp5
    rw [hst.1]
    k_steps
    (with_reducible rename Fr _ _ _ _ => F9)
    (with_reducible rename News _ _ _ _ => N9)
    refine LCg.CompEnd.intro F9 (News.from N9 (l := (I, oI) :: (C, oC) :: (D, LCg.lst ys) :: (L + 1, cO2) :: (ta, listOf tv.toArray n3) :: (da, listOf dv.toArray n4) :: (sa, listOf sv.toArray n2) :: (79, tabObj tab) :: LexA.led ⟨pb, x, d, x2, d2, pb2, f, cc, lp, c2, c1, fd, co, o2, o1, a1, a2, a3, a4, a5, b1, b2, b3, b4, b5, b6, b7, 0, txt textL⟩ w 0 [] p5 ((n + (lexT (textL.drop p)).2.2 : Nat) : Int) tp5 tn5) (fun q hq => rot8 hq)) _ (fun q hq => hq) off trivial ⟨p5, _, tp5, tn5, rfl, hst.2, by omega, by omega, ?_⟩
    rw [List.range_succ, List.map_append]
    exact strsAre_snoc hys
end
section
theorem fm_nat (z k : Int) (hk : 0 < k) : ∃ X : Nat, (X : Int) < k ∧ z.fmod k = (X : Int) :=
  ⟨(z.fmod k).toNat, by rw [Int.toNat_of_nonneg (Int.fmod_nonneg_of_pos _ hk)]; exact Int.fmod_lt_of_pos _ hk, (Int.toNat_of_nonneg (Int.fmod_nonneg_of_pos _ hk)).symm⟩
theorem s1b (w : World) {oc : Value} {od : Option Addr} {osl : Array (Option Value)} {name qual : Str} {params : Arguments} {body : List Stmt} {scope : Scope} {dV kV doc pm cdv ct : Value} {an : Option Addr}
    (ho : List.lookup (141 : Addr) (hd.heap_39 w.params) = some ⟨oc, od, .func (fnOf name qual params body scope dV kV doc pm an cdv ct), osl⟩)
    (loose : List Str) (mean : ExcName → Option Value) (mg mb : Str → Option Value) (fa : Addr) (cd : Value) (base h₀ : Heap) (L : Addr) (m : Str → Option Value) (s : Shared) (Q : Flow → Shared → Prop) (E : Value → Shared → Prop)
    (B : Below callerA base [] h₀) (F : Fr h₀ L s.heap m) (X : (hd.heap_39 w.params).In h₀) (T : Top topProg loose mean mg mb h₀) (h79 : @LT.lt Nat _ 79 L)
    (hret : ∀ (tab : Array Value) (m' : Str → Option Value) (h' : Heap) (tk' : Nat), Fr h₀ L h' m' → News h₀ L h' [(79, tabObj tab)] → Q (.ret (.bool true)) { s with heap := h', toks := tk' })
    (sc : Addr) (scv : List Value) (ns : List Int) (hsc : h₀.IsList sc scv.toArray) (hns : IntsAre scv ns) (hnl : ns.length ≤ 63) (cO : Obj)
    (da : Addr) (dv : List Value) (ds : List Int) (n4 : Nat) (hdv : IntsAre dv ds) (hdl : ds.length = 6)
    (m0 : m "script" = some (.ref sc)) (m1 : m "drawn" = some (.ref da)) (hcO : cO.data = .cell none) (C : CodeHd base 83 79) (hdaL : @LT.lt Nat _ (L + 1) da)
    (N : News h₀ L s.heap [(da, listOf dv.toArray n4), (L + 1, cO), (79, tabObj #[])]) :
    wpAny (model PySem.Challenge.rw_wn0021_01.row.prog w) (callerA.deeper (envOfC (PySem.Str.ofString "law") scope L fa cd)) (execs (body.drop 1) (envOfC (PySem.Str.ofString "law") scope L fa cd)) Q E s := by
  k_with_none
  w_top off
  revert ho X; k_fill; intro ho X
  refine noE ?_
  refine' law_lit2 (P := fun body scope => wpAny (model PySem.Challenge.rw_wn0021_01.row.prog w) (callerA.deeper (envOfC (PySem.Str.ofString "law") scope L fa cd)) (execs (body.drop 1) (envOfC (PySem.Str.ofString "law") scope L fa cd)) Q (fun _ _ => False) s) ho ?kl (fun ho0 => ?_)
  case kl => k_is
  dsimp only [List.drop]
  clear ho
  have F9 := fr_at2 F m0 m1
  clear F
  have hdL : @LT.lt Nat _ 79 da := Nat.lt_trans (Nat.lt_trans h79 (Nat.lt_succ_self L)) hdaL
  k_with "mine stage" => (
    (with_reducible show wpAny _ _ (execs (Stmt.Assign [Expr.Name (PySem.Str.ofString "text") _] _ _ :: _) _) _ _ _)
    refine Hold.out ?_)
  k_steps
  refine Hold.in ?_
  (with_reducible rename Fr _ _ _ _ => F9)
  (with_reducible rename News _ _ _ _ => N9)
  rename_i _ _ _ lh _ lt1 _ _ _ _ _ ls _ lt2 _ D _ lt3 _
  obtain ⟨x0, hx0, e0⟩ := fm_nat (ds.getD (Int.toNat 0) 0) 65536 (by decide)
  obtain ⟨x1, hx1, e1⟩ := fm_nat (ds.getD (Int.toNat 1) 0) 65536 (by decide)
  obtain ⟨x2, hx2, e2⟩ := fm_nat (ds.getD (Int.toNat 2) 0) 65536 (by decide)
  obtain ⟨x3, hx3, e3⟩ := fm_nat (ds.getD (Int.toNat 3) 0) 3 (by decide)
  obtain ⟨x4, hx4, e4⟩ := fm_nat (ds.getD (Int.toNat 4) 0) 4 (by decide)
  obtain ⟨x5, hx5, e5⟩ := fm_nat (ds.getD (Int.toNat 5) 0) 4 (by decide)
  rw [e0, e1, e2, e3, e4, e5, show ((x2 : Int) + 1) = ((x2 + 1 : Nat) : Int) from rfl, show ((x3 : Int) + 1) = ((x3 + 1 : Nat) : Int) from rfl] at N9
  have hS : ∀ k, (fun k => [x3 + 1, x4, x5].getD k 0) k ≤ 3 := by
    intro k
    match k with
    | 0 => show x3 + 1 ≤ 3; omega
    | 1 => show x4 ≤ 3; omega
    | 2 => show x5 ≤ 3; omega
    | k + 3 => exact Nat.zero_le _
  obtain ⟨u0, u1, u2, u3, u4, u5, v3, v4, v5, N10⟩ : ∃ u0 u1 u2 u3 u4 u5 v3 v4 v5, News h₀ L _ ((D, listOf [Value.int (x0 : Int) u0, .int (x1 : Int) u1, .int ((x2 + 1 : Nat) : Int) u2, .int ((x3 + 1 : Nat) : Int) u3, .int (x4 : Int) u4, .int (x5 : Int) u5].toArray 0) :: (da, listOf dv.toArray n4) :: (ls, listOf [Value.int ((x3 + 1 : Nat) : Int) v3, .int (x4 : Int) v4, .int (x5 : Int) v5].toArray 0) :: [(L + 1, cO), (79, tabObj #[])]) :=
    ⟨_, _, _, _, _, _, _, _, _, News.from N9 (List.forall_mem_cons.mpr ⟨.head _, List.forall_mem_cons.mpr ⟨.tail _ (.tail _ (.tail _ (.head _))), List.forall_mem_cons.mpr ⟨.tail _ (.head _), fun q hq => .tail _ (.tail _ (.tail _ (.tail _ hq)))⟩⟩⟩)⟩
  refine s2 w ho0 loose mean mg mb fa cd base h₀ L _ _ Q _ B F9 X T h79 ?_ sc scv ns hsc hns hnl D da ls _ dv _ 0 0 n4 x0 x1 (x2 + 1) (fun k => [x3 + 1, x4, x5].getD k 0) ds cO (.cons _ u0 (.cons _ u1 (.cons _ u2 (.cons _ u3 (.cons _ u4 (.cons _ u5 .nil)))))) hdv hdl (.cons _ v3 (.cons _ v4 (.cons _ v5 .nil))) hS (by omega) (by omega) (by omega) rfl rfl rfl rfl hcO C N10 lt2.2.2.1 lt3.2.2.2.1 hdaL
  intro tab' m' h' tk' F' N'
  exact hret tab' m' h' tk' F' N'
theorem s1 (w : World) {oc : Value} {od : Option Addr} {osl : Array (Option Value)} {name qual : Str} {params : Arguments} {body : List Stmt} {scope : Scope} {dV kV doc pm cdv ct : Value} {an : Option Addr}
    (ho : List.lookup (141 : Addr) (hd.heap_39 w.params) = some ⟨oc, od, .func (fnOf name qual params body scope dV kV doc pm an cdv ct), osl⟩)
    (loose : List Str) (mean : ExcName → Option Value) (mg mb : Str → Option Value) (fa : Addr) (cd : Value) (base h₀ : Heap) (L : Addr) (m : Str → Option Value) (s : Shared) (Q : Flow → Shared → Prop) (E : Value → Shared → Prop)
    (B : Below callerA base [] h₀) (F : Fr h₀ L s.heap m) (X : (hd.heap_39 w.params).In h₀) (T : Top topProg loose mean mg mb h₀) (h79 : @LT.lt Nat _ 79 L)
    (hret : ∀ (tab : Array Value) (m' : Str → Option Value) (h' : Heap) (tk' : Nat), Fr h₀ L h' m' → News h₀ L h' [(79, tabObj tab)] → Q (.ret (.bool true)) { s with heap := h', toks := tk' })
    (sc : Addr) (scv : List Value) (ns : List Int) (hsc : h₀.IsList sc scv.toArray) (hns : IntsAre scv ns) (hnl : ns.length ≤ 63) (cO : Obj)
    (m0 : m "script" = some (.ref sc)) (hcO : cO.data = .cell none) (C : CodeHd base 83 79)
    (N : News h₀ L s.heap [(L + 1, cO), (79, tabObj #[])]) :
    wpAny (model PySem.Challenge.rw_wn0021_01.row.prog w) (callerA.deeper (envOfC (PySem.Str.ofString "law") scope L fa cd)) (execs (body.drop 0) (envOfC (PySem.Str.ofString "law") scope L fa cd)) Q E s := by
  k_with_none
  w_top off
  revert ho X; k_fill; intro ho X
  refine noE ?_
  refine' law_lit2 (P := fun body scope => wpAny (model PySem.Challenge.rw_wn0021_01.row.prog w) (callerA.deeper (envOfC (PySem.Str.ofString "law") scope L fa cd)) (execs (body.drop 0) (envOfC (PySem.Str.ofString "law") scope L fa cd)) Q (fun _ _ => False) s) ho ?kl (fun ho0 => ?_)
  case kl => k_is
  dsimp only [List.drop]
  clear ho
  have F9 := fr_at F m0
  clear F
  have hdL : @LT.lt Nat _ 79 (L + 1) := Nat.lt_trans h79 (Nat.lt_succ_self L)
  k_with "mine stage" => (
    (with_reducible show wpAny _ _ (execs (Stmt.Assign [Expr.Name (PySem.Str.ofString "heads") _] _ _ :: _) _) _ _ _)
    refine Hold.out ?_)
  k_with "mine slice" => (
    (with_reducible rename News _ _ _ _ => N9)
    (with_reducible rename Fr _ _ _ _ => F9)
    (first
    | k_dflt (refine kmk_slice_ints (l := sc) (vs := scv) (ns := ns) F9 N9 (Fr.lst F9 hsc) IsPart.none (IsPart.int _ _) hns (kmk_upto hns (by decide)) rfl ?_ (by with_unfolding_all rfl) (by intro _; with_unfolding_all rfl) (by rw [sizeLine_eq, List.size_toArray, hns.length]; omega); clear F9 N9; intro D' ws' h' F' N' l1 hI' hC' hL'; (try simp only [Int.reduceNeg, Int.neg_neg, Int.reduceToNat] at hI' hC' hL'))
    | refine Hold.out ?_))
  k_steps
  refine Hold.in ?_
  (with_reducible rename News _ _ _ _ => N9)
  (with_reducible rename Fr _ _ _ _ => F9)
  obtain ⟨t1, t2, t3, t4, t5, t6, N10⟩ : ∃ t1 t2 t3 t4 t5 t6, News h₀ L _ ((_, _) :: (_, listOf [Value.int 6 t1, .int 262163 t2, .int 524288 t3, .int 589824 t4, .int 3 t5, .int 131074 t6].toArray 0) :: _) := ⟨_, _, _, _, _, _, N9⟩
  have hlit : IntsAre [Value.int 6 t1, .int 262163 t2, .int 524288 t3, .int 589824 t4, .int 3 t5, .int 131074 t6] [6, 262163, 524288, 589824, 3, 131074] := .cons _ _ (.cons _ _ (.cons _ _ (.cons _ _ (.cons _ _ (.cons _ _ .nil)))))
  have hpk := kmk_from (x := ((List.take 6 ns).length : Nat)) hlit (by omega)
  k_dflt (refine kmk_slice_ints F9 N10 (N10.isList (.tail _ (.head _))) (IsPart.int _ _) IsPart.none hlit hpk rfl ?_ (by with_unfolding_all rfl) (by intro _; with_unfolding_all rfl) (by rw [sizeLine_eq, List.size_toArray]; simp))
  clear N9 N10 F9 hpk
  intro Dq wsq hq F' N' lq hIq hCq hLq
  k_steps
  refine Hold.in ?_
  (with_reducible rename Fr _ _ _ _ => F9)
  (with_reducible rename News _ _ _ _ => N9)
  rename_i D ws _ hI lt _
  have hl6 : (List.take 6 ns ++ List.drop (((List.take 6 ns).length : Nat) : Int).toNat [6, 262163, 524288, 589824, 3, 131074]).length = 6 := by
    rw [List.length_append, List.length_drop, Int.toNat_natCast, List.length_take]
    show min 6 ns.length + (6 - min 6 ns.length) = 6
    omega
  refine s1b w ho0 loose mean mg mb fa cd base h₀ L _ _ Q _ B F9 X T h79 ?_ sc scv ns hsc hns hnl cO D ws _ 0 hI hl6 rfl rfl hcO C lt.2.2.2.2.1 (News.from N9 (List.forall_mem_cons.mpr ⟨.head _, fun q hq => .tail _ (.tail _ (.tail _ (.tail _ (.tail _ hq))))⟩))
  intro tab' m' h' tk' F' N'
  exact hret tab' m' h' tk' F' N'
end
end Mine
namespace Mine
section
theorem s1d (w : World) {oc : Value} {od : Option Addr} {osl : Array (Option Value)} {name qual : Str} {params : Arguments} {body : List Stmt} {scope : Scope} {dV kV doc pm cdv ct : Value} {an : Option Addr}
    (ho : List.lookup (141 : Addr) (hd.heap_39 w.params) = some ⟨oc, od, .func (fnOf name qual params body scope dV kV doc pm an cdv ct), osl⟩)
    (loose : List Str) (mean : ExcName → Option Value) (mg mb : Str → Option Value) (fa : Addr) (cd : Value) (base h₀ : Heap) (L : Addr) (m : Str → Option Value) (s : Shared) (Q : Flow → Shared → Prop) (E : Value → Shared → Prop)
    (B : Below callerA base [] h₀) (F : Fr h₀ L s.heap m) (X : (hd.heap_39 w.params).In h₀) (T : Top topProg loose mean mg mb h₀) (h79 : @LT.lt Nat _ 79 L)
    (hret : ∀ (tab : Array Value) (m' : Str → Option Value) (h' : Heap) (tk' : Nat), Fr h₀ L h' m' → News h₀ L h' [(79, tabObj tab)] → Q (.ret (.bool true)) { s with heap := h', toks := tk' })
    (sc : Addr) (scv : List Value) (ns : List Int) (hsc : h₀.IsList sc scv.toArray) (hns : IntsAre scv ns) (hnl : ns.length ≤ 63) (cO : Obj)
    (m0 : m "script" = some (.ref sc)) (hcO : cO.data = .cell none) (C : CodeHd base 83 79)
    (N : News h₀ L s.heap [(L + 1, cO), (79, tabObj #[])]) :
    wpAny (model PySem.Challenge.rw_wn0021_01.row.prog w) (callerA.deeper (envOfC (PySem.Str.ofString "law") scope L fa cd)) (execs body (envOfC (PySem.Str.ofString "law") scope L fa cd)) Q E s :=
  s1 w ho loose mean mg mb fa cd base h₀ L m s Q E B F X T h79 hret sc scv ns hsc hns hnl cO m0 hcO C N
theorem law_holds : PySem.Challenge.rw_wn0021_01.Holds := hd (by
  k_with_none
  w_top off
  k_go0
  all_goals (try k_fold)
  rename_i w s0 s1 mg mb G Y fa o pm cd doc ho hcd hg X0 V T0 B0 TE TW ns hs hl0 hL hr hl2 l5 l4 sc scv l1 hsc0 ra w1 r0 hI hr2 hcond hct hD h1 tk1 cO right XC X T K F N l0
  dsimp only
  refine' s1d w ?ho _ _ _ _ _ _ _ _ _ _ { heap := h1, gens := s1.gens, drawn := s1.drawn, toks := tk1, os := s1.os } _ _ K F X T l0 ?hret sc scv ns lifted hI (by omega) cO ?m0 right codeHd N
  case ho => k_is
  case m0 => rfl
  intro tab m' h' tk' F' N'
  k_steps)
end
end Mine
set_option maxRecDepth 100000 in
set_option maxHeartbeats 8000000 in
theorem PySem.Challenge.cw_wn0021_01_holds : PySem.Challenge.rw_wn0021_01.Holds := by
  exact Mine.law_holds
