import PyProof.Rows.All
import Wide.All
import OpenK.AllK
import Wide.FinOn
import PySem.Challenge.RW_em5010_01
set_option Elab.async false
section
open PySem PySem.W PyProof.Rows
namespace Em
set_option maxRecDepth 100000 in
set_option maxHeartbeats 8000000 in
open_top hd for PySem.Challenge.rw_em5010_01
end Em
end
section
open PySem PySem.W PyProof.Rows
namespace Em
abbrev Pr : Program := RowW.prog (OpenRow.toRowW (OpenLaw.row Challenge.rw_em5010_01))
/-- what a contract says of a call of the def at f with the arguments vs, from any caller -/
abbrev Spec (w : World) (f : Addr) (vs : List Value) (news : List (Addr × Obj)) (dn uN : Nat)
    (Ret : (h₀ : Heap) → (L : Addr) → (m : Str → Option Value) → Shared → (Value → Shared → Prop) → Prop) : Prop :=
  ∀ (p : Program) (loose : List Str) (mean : ExcName → Option Value) (mg mb : Str → Option Value) (dp un : Nat) (gd : Option (List Code)) (cn : Str) (cs : Scope) (a : Addr) (ccd : Value) (cl : List (Str × Addr)) (outer : List Env) (A₀ : Around) (base h₀ : Heap) (L : Addr) (m : Str → Option Value) (s : Shared) (Q E : Value → Shared → Prop),
    Below A₀ base outer h₀ → Fr h₀ L s.heap m → (hd.heap_39 w.params).In h₀ → News h₀ L s.heap news → Top p loose mean mg mb h₀ → cs.kind = .function →
    dp + dn < recursionLimit → un + uN < cLine → Ret h₀ L m s Q →
      wpAny (model Pr w) (ktrTop dp un gd cn cs L a ccd cl outer) (call (.ref f) vs) Q E s
/-- the law's state: the list [list, cursor] -/
abbrev stObj (lst : Addr) (c : Int) (t : Tok) (n : Nat) : Obj := { cls := .type "list", data := .seq #[.ref lst, .int c t] n }
end Em
end
section
open PySem PySem.W PyProof.Rows
namespace Em
set_option maxRecDepth 100000 in
set_option maxHeartbeats 8000000 in
theorem next_spec (w : World) (lst st : Addr) (vs : List Value) (ns : List Int) (nL nS : Nat) (c : Int) (t : Tok) (lim : Int) (tl : Tok) (rest : List (Addr × Obj))
    (hi : IntsAre vs ns) (hlen : ns.length ≤ 30) (hc0 : 0 ≤ c) (hc1 : c ≤ 1000000) (hlim0 : 0 < lim) (hlim1 : lim ≤ 2000)
    (hoff : OwnOff rest [st]) (hne : lst ≠ st) :
    Spec w 151 [.ref st, .int lim tl] ((st, stObj lst c t nS) :: (lst, listOf vs.toArray nL) :: rest) 2 20 fun h₀ L m s Q =>
      ∀ (r : Int) (tr tc : Tok) (h' : Heap) (tk' : Nat), 0 ≤ r → r < lim → Fr h₀ L h' m → News h₀ L h' ((st, stObj lst (c + 1) tc nS) :: (lst, listOf vs.toArray nL) :: rest) → Q (.int r tr) { s with heap := h', toks := tk' } := by
  intro p loose mean mg mb dp un gd cn cs a ccd cl outer A₀ base h₀ L m s Q E B F X N T hk hdp hu hret
  w_top off
  have hfill : hd.heap_39 w.params = hd.heap_39 w.params ∧ PySem.Challenge.rw_em5010_01 = PySem.Challenge.rw_em5010_01 := by (k_fill; exact ⟨rfl, rfl⟩)
  clear hfill
  have hMk9 := kstMark
  refine wpAny_call ?_
  k_dflt cell_enter
  k_steps
  · exact hret 0 _ _ _ _ (by omega) hlim0 (by k_asm) (by k_asm)
  · exact hret _ _ _ _ _ (Int.fmod_nonneg_of_pos _ hlim0) (Int.fmod_lt_of_pos _ hlim0) (by k_asm) (by k_asm)
end Em
namespace Em
theorem em_next {w : World} {lst st : Addr} {vs : List Value} {ns : List Int} {nL nS : Nat} {c : Int} {t : Tok} {lim : Int} {tl : Tok} {rest : List (Addr × Obj)}
    {p : Program} {loose : List Str} {mean : ExcName → Option Value} {mg mb : Str → Option Value} {dp un : Nat} {gd : Option (List Code)} {cn : Str} {cs : Scope} {a : Addr} {ccd : Value} {cl : List (Str × Addr)} {outer : List Env} {A₀ : Around} {base h₀ : Heap} {L : Addr} {m : Str → Option Value} {s : Shared} {Q E : Value → Shared → Prop}
    (B : Below A₀ base outer h₀) (F : Fr h₀ L s.heap m) (X : (hd.heap_39 w.params).In h₀) (N : News h₀ L s.heap ((st, stObj lst c t nS) :: (lst, listOf vs.toArray nL) :: rest)) (T : Top p loose mean mg mb h₀) (hk : cs.kind = .function)
    (hi : IntsAre vs ns) (hlen : ns.length ≤ 30) (hc0 : 0 ≤ c) (hc1 : c ≤ 1000000) (hlim0 : 0 < lim) (hlim1 : lim ≤ 2000)
    (hoff : OwnOff rest [st]) (hne : lst ≠ st) (hdp : dp + 2 < recursionLimit) (hu : un + 20 < cLine)
    (hret : ∀ (r : Int) (tr tc : Tok) (h' : Heap) (tk' : Nat), 0 ≤ r → r < lim → Fr h₀ L h' m → News h₀ L h' ((st, stObj lst (c + 1) tc nS) :: (lst, listOf vs.toArray nL) :: rest) → Q (.int r tr) { s with heap := h', toks := tk' }) :
    wpAny (model Pr w) (ktrTop dp un gd cn cs L a ccd cl outer) (call (.ref 151) [.ref st, .int lim tl]) Q E s :=
  next_spec w lst st vs ns nL nS c t lim tl rest hi hlen hc0 hc1 hlim0 hlim1 hoff hne p loose mean mg mb dp un gd cn cs a ccd cl outer A₀ base h₀ L m s Q E B F X N T hk hdp hu hret
end Em
end
section
open PySem PySem.W PyProof.Rows
namespace Em
/-- what one end is: the value, its text, whether it is plain -/
inductive EndRel : Value → Str → Bool → Prop where
  | none : EndRel .none (Str.ofString "") true
  | int (n : Int) (t : Tok) (h0 : -1000 ≤ n) (h1 : n ≤ 999) : EndRel (.int n t) (Str.ofString (toString n)) true
  | bool (b : Bool) : EndRel (.bool b) (if b then Str.ofString "true" else Str.ofString "false") false
  | str (x : Str) (t : Tok) (h : x.length ≤ 2) : EndRel (.str x t) x false
  | bytes (t : Tok) : EndRel (.bytes #[10, 255] t) (Str.ofString "\\x0aff") false
abbrev tupObj (vs : List Value) (n : Nat) : Obj := { cls := .type "tuple", data := .seq vs.toArray n }
theorem em_rot {h₀ h : Heap} {L : Addr} {x y z : Addr × Obj} {r : List (Addr × Obj)} (N : News h₀ L h (x :: y :: z :: r)) : News h₀ L h (y :: z :: x :: r) := fun p hp => N p (by
  simp only [List.mem_cons] at hp ⊢
  rcases hp with h | h | h | h
  · exact .inr (.inl h)
  · exact .inr (.inr (.inl h))
  · exact .inl h
  · exact .inr (.inr (.inr h)))
theorem em_cut {r : Int} (h0 : 0 ≤ r) (h1 : r < 3) : (Txt.slice (Str.ofString "あb") none (some r)).length ≤ 2 := by
  have : r = 0 ∨ r = 1 ∨ r = 2 := by omega
  rcases this with rfl | rfl | rfl <;> decide +kernel
local macro_rules | `(tactic| walk_at "call ref") => `(tactic| (k_here; (with_reducible show wpAny _ _ (call (Value.ref 151) [Value.ref _, Value.int _ _]) _ _ _); k_dflt (refine' em_next ?k1 ?k2 ?k3 ?k4 ?k5 ?k6 ?k7 ?k8 ?k9 ?k10 ?k11 ?k12 ?k13 ?k14 ?k15 ?k16 ?_; (case k1 => k_asm); (case k2 => k_asm); (case k3 => k_asm); (case k4 => k_asm); (case k5 => k_asm); (case k6 => first | exact rfl | assumption); (case k7 => assumption); (case k8 => assumption); (case k9 => omega); (case k10 => omega); (case k11 => decide); (case k12 => decide); (case k13 => assumption); (case k14 => assumption); (case k15 => ktr_room); (case k16 => ktr_units); k_whole; intro r9 tr9 tc9 h9 tk9 hr9 hs9 F9 N9; (try dsimp only); (try k_sweep); (try k_fold))))
set_option maxRecDepth 100000 in
set_option maxHeartbeats 8000000 in
theorem end_spec (w : World) (lst st : Addr) (vs : List Value) (ns : List Int) (nL nS : Nat) (c : Int) (t : Tok) (rest : List (Addr × Obj))
    (hi : IntsAre vs ns) (hlen : ns.length ≤ 30) (hc0 : 0 ≤ c) (hc1 : c ≤ 100000) 
    (hoff : OwnOff rest [st]) (hne : lst ≠ st) :
    Spec w 158 [.ref st] ((st, stObj lst c t nS) :: (lst, listOf vs.toArray nL) :: rest) 5 100 fun h₀ L m s Q =>
      ∀ (x : Addr) (v : Value) (z : Str) (tz : Tok) (b : Bool) (k : Nat) (c' : Int) (tc : Tok) (h' : Heap) (tk' : Nat), c ≤ c' → c' ≤ c + 2 → EndRel v z b → Fr h₀ L h' m → (@LT.lt Nat _ st x ∧ @LT.lt Nat _ lst x ∧ AllLt x rest) → News h₀ L h' ((st, stObj lst c' tc nS) :: (lst, listOf vs.toArray nL) :: (x, tupObj [v, .str z tz, .bool b] k) :: rest) → Q (.ref x) { s with heap := h', toks := tk' } := by
  intro p loose mean mg mb dp un gd cn cs a ccd cl outer A₀ base h₀ L m s Q E B F X N T hk hdp hu hret
  w_top off
  have hfill : hd.heap_39 w.params = hd.heap_39 w.params ∧ PySem.Challenge.rw_em5010_01 = PySem.Challenge.rw_em5010_01 := by (k_fill; exact ⟨rfl, rfl⟩)
  clear hfill
  have hMk9 := kstMark
  refine wpAny_call ?_
  k_dflt cell_enter
  k_steps
  all_goals (refine' hret _ _ _ _ _ _ _ _ _ _ ?_ ?_ ?_ ?_ ?_ ?_; rotate_right 1; exact em_rot (by k_asm); omega; omega; rotate_left 1; k_asm; assumption)
  · exact .none
  · exact .int _ _ (by omega) (by omega)
  · exact .int 0 _ (by omega) (by omega)
  · rename (_ = (1 : Int)) => h; subst h; exact .bool true
  · rename (_ ≠ (1 : Int)) => h; rw [beq_eq_false_iff_ne.mpr h]; exact .bool false
  · refine .str _ _ ?_
    exact em_cut (by assumption) (by assumption)
  · exact .bytes _
theorem em_end {w : World} {lst st : Addr} {vs : List Value} {ns : List Int} {nL nS : Nat} {c : Int} {t : Tok} {rest : List (Addr × Obj)}
    {p : Program} {loose : List Str} {mean : ExcName → Option Value} {mg mb : Str → Option Value} {dp un : Nat} {gd : Option (List Code)} {cn : Str} {cs : Scope} {a : Addr} {ccd : Value} {cl : List (Str × Addr)} {outer : List Env} {A₀ : Around} {base h₀ : Heap} {L : Addr} {m : Str → Option Value} {s : Shared} {Q E : Value → Shared → Prop}
    (B : Below A₀ base outer h₀) (F : Fr h₀ L s.heap m) (X : (hd.heap_39 w.params).In h₀) (N : News h₀ L s.heap ((st, stObj lst c t nS) :: (lst, listOf vs.toArray nL) :: rest)) (T : Top p loose mean mg mb h₀) (hk : cs.kind = .function)
    (hi : IntsAre vs ns) (hlen : ns.length ≤ 30) (hc0 : 0 ≤ c) (hc1 : c ≤ 100000)
    (hoff : OwnOff rest [st]) (hne : lst ≠ st) (hdp : dp + 5 < recursionLimit) (hu : un + 100 < cLine)
    (hret : ∀ (x : Addr) (v : Value) (z : Str) (tz : Tok) (b : Bool) (k : Nat) (c' : Int) (tc : Tok) (h' : Heap) (tk' : Nat), c ≤ c' → c' ≤ c + 2 → EndRel v z b → Fr h₀ L h' m → (@LT.lt Nat _ st x ∧ @LT.lt Nat _ lst x ∧ AllLt x rest) → News h₀ L h' ((st, stObj lst c' tc nS) :: (lst, listOf vs.toArray nL) :: (x, tupObj [v, .str z tz, .bool b] k) :: rest) → Q (.ref x) { s with heap := h', toks := tk' }) :
    wpAny (model Pr w) (ktrTop dp un gd cn cs L a ccd cl outer) (call (.ref 158) [.ref st]) Q E s :=
  end_spec w lst st vs ns nL nS c t rest hi hlen hc0 hc1 hoff hne p loose mean mg mb dp un gd cn cs a ccd cl outer A₀ base h₀ L m s Q E B F X N T hk hdp hu hret
end Em
end
section
open PySem PySem.W PyProof.Rows PySem.Calls
namespace Em
set_option maxRecDepth 100000 in
theorem hex_eq {t : Tok} : Builtin.«bytes.hex» ⟨[.bytes #[10, 255] t], []⟩ = PySem.retStr (Str.ofString "0aff") := by kernel_rfl
theorem meets_hex {t : Tok} : Meets (Builtin.«bytes.hex» ⟨[.bytes #[10, 255] t], []⟩) (fun _ R s => R (.ok (.ret (.str (Str.ofString "0aff") s.toks))) { s with toks := s.toks + 1 }) := by
  refine .of_wp fun prog w A R s h => ?_
  rw [hex_eq]
  unfold PySem.retStr
  exact wpAny_bind (wpAny_mkStr (wpAny_pure ⟨_, rfl, h⟩) (by decide))
theorem em_hex {prog : Program} {w : World} {A : Around} {E : Value → Shared → Prop} {s : Shared} {t : Tok} {Q : Value → Shared → Prop} (h : Q (.str (Str.ofString "0aff") s.toks) { s with toks := s.toks + 1 }) :
    wpAny (model prog w) A (call (.builtin "bytes.hex") [.bytes #[10, 255] t]) Q E s :=
  call_meets FB.slot_bytes_hex (typeIs_bytes _ _ _) FB.entry_bytes_hex (FB.args_bytes_hex_1 _) meets_hex h
theorem em_hexM {A : Around} {E : Value → Shared → Prop} {s : Shared} {M : Model} {b : Array UInt8} {t : Tok} {pl : Sem Bool} {Q : Value × List Value → Shared → Prop} (h : Q (.builtin "bytes.hex", [.bytes b t]) s) : wpAny M A (getMethod (.bytes b t) "hex" pl) Q E s := by
  with_reducible exact KBd.method_of (.bytes b t) (typeIs_bytes _ _ _) FB.slot_bytes_hex FB.type_bytes_hex KBd.noRef h
end Em
end
section
open PySem PySem.W PyProof.Rows
namespace Em
local macro_rules | `(tactic| k_room) => `(tactic| ktr_room)
local macro_rules | `(tactic| walk_at "call type:type") => `(tactic| ((with_reducible show wpAny _ _ (call _ [Value.bytes _ _]) _ _ _); refine call_type_of (Tx := "bytes") rfl (by decide +kernel) ?_))
local macro_rules | `(tactic| walk_at "getMethod bytes") => `(tactic| (k_here; (with_reducible refine em_hexM ?_)))
local macro_rules | `(tactic| walk_at "call builtin:bytes.hex") => `(tactic| (k_here; (with_reducible show wpAny _ _ (call (Value.builtin "bytes.hex") [Value.bytes _ _]) _ _ _); (refine em_hex ?_)))
set_option maxRecDepth 100000 in
set_option maxHeartbeats 8000000 in
theorem make_spec (w : World) (news : List (Addr × Obj)) (v : Value) (z : Str) (b : Bool) (hv : EndRel v z b) (hn : v ≠ .none) :
    Spec w 143 [.ref 136, v] news 5 100 fun h₀ L m s Q =>
      ∀ (tz : Tok) (h' : Heap) (tk' : Nat), Fr h₀ L h' m → News h₀ L h' news → Q (.str z tz) { s with heap := h', toks := tk' } := by
  intro p loose mean mg mb dp un gd cn cs a ccd cl outer A₀ base h₀ L m s Q E B F X N T hk hdp hu hret
  w_top off
  have hfill : hd.heap_39 w.params = hd.heap_39 w.params ∧ PySem.Challenge.rw_em5010_01 = PySem.Challenge.rw_em5010_01 := by (k_fill; exact ⟨rfl, rfl⟩)
  clear hfill
  have hMk9 := kstMark
  cases hv
  · exact absurd rfl hn
  all_goals
    clear hn
    refine wpAny_call ?_
    k_dflt cell_enter
    k_steps
  · exact hret _ _ _ (by k_asm) (by k_asm)
  · rename (_ = true) => h; subst h; exact hret _ _ _ (by k_asm) (by k_asm)
  · rename (_ = false) => h; subst h; exact hret _ _ _ (by k_asm) (by k_asm)
  · exact hret _ _ _ (by k_asm) (by k_asm)
  · rw [show (Str.ofString "\\x" ++ Str.ofString "0aff") = Str.ofString "\\x0aff" from by decide +kernel]
    exact hret _ _ _ (by k_asm) (by k_asm)
theorem em_make {w : World} {news : List (Addr × Obj)} {v : Value} {z : Str} {b : Bool}
    {p : Program} {loose : List Str} {mean : ExcName → Option Value} {mg mb : Str → Option Value} {dp un : Nat} {gd : Option (List Code)} {cn : Str} {cs : Scope} {a : Addr} {ccd : Value} {cl : List (Str × Addr)} {outer : List Env} {A₀ : Around} {base h₀ : Heap} {L : Addr} {m : Str → Option Value} {s : Shared} {Q E : Value → Shared → Prop}
    (hv : EndRel v z b) (hn : v ≠ .none) (B : Below A₀ base outer h₀) (F : Fr h₀ L s.heap m) (X : (hd.heap_39 w.params).In h₀) (N : News h₀ L s.heap news) (T : Top p loose mean mg mb h₀) (hk : cs.kind = .function)
    (hdp : dp + 5 < recursionLimit) (hu : un + 100 < cLine)
    (hret : ∀ (tz : Tok) (h' : Heap) (tk' : Nat), Fr h₀ L h' m → News h₀ L h' news → Q (.str z tz) { s with heap := h', toks := tk' }) :
    wpAny (model Pr w) (ktrTop dp un gd cn cs L a ccd cl outer) (call (.ref 143) [.ref 136, v]) Q E s :=
  make_spec w news v z b hv hn p loose mean mg mb dp un gd cn cs a ccd cl outer A₀ base h₀ L m s Q E B F X N T hk hdp hu hret
end Em
end
section
open PySem PySem.W PyProof.Rows PySem.Calls
namespace Em
theorem em_offOf {rest : List (Addr × Obj)} {st : Addr} (h : ∀ p ∈ rest, p.1 ≠ st) : OwnOff rest [st] := fun p hp b hb => by rw [List.mem_singleton.mp hb]; exact h p hp
theorem em_neOf {a b : Addr} (h : @LT.lt Nat _ a b) : a ≠ b := Nat.ne_of_lt h
abbrev lawStored : List Str := [Str.ofString "bounds", Str.ofString "low", Str.ofString "low_text", Str.ofString "low_plain", Str.ofString "high", Str.ofString "high_text", Str.ofString "high_plain", Str.ofString "is_empty", Str.ofString "drawn", Str.ofString "due", Str.ofString "read", Str.ofString "ends"]
/-- a goal kept for later -/
def Hold (P : Prop) : Prop := P
end Em
end
section
open PySem PySem.W PyProof.Rows PySem.Calls
namespace Em
/-- the bound at a place of the law's table; its first and its last sign -/
@[irreducible] def bnd (r : Int) : Str := if r = 0 then Str.ofString "[)" else if r = 1 then Str.ofString "[]" else if r = 2 then Str.ofString "()" else Str.ofString "(]"
@[irreducible] def bndL (r : Int) : Str := if r = 0 ∨ r = 1 then Str.ofString "[" else Str.ofString "("
@[irreducible] def bndR (r : Int) : Str := if r = 0 ∨ r = 2 then Str.ofString ")" else Str.ofString "]"
theorem bnd_cases {r : Int} (h0 : 0 ≤ r) (h1 : r < 4) : r = 0 ∨ r = 1 ∨ r = 2 ∨ r = 3 := by omega
set_option maxRecDepth 100000 in
theorem em_bnd {w : World} {A : Around} {E : Value → Shared → Prop} {s : Shared} {h₀ : Heap} {L : Addr} {m : Str → Option Value} {value slice : PySem.Expr} {r : Int} {u : Tok} {Q : Value → Shared → Prop}
    (F : Fr h₀ L s.heap m) (X : (hd.heap_39 w.params).In h₀) (h0 : 0 ≤ r) (h1 : r < 4) (h : ∀ t, Q (.str (bnd r) t) s)
    (hs : subscripted slice false (.ref 144) (.int r u) = operate [.ref 144, .int r u] (getItem (.ref 144) (.int r u))) :
    wpAny (model Pr w) A (subscriptTail value slice (.ref 144) (.int r u)) Q E s := by
  w_top off
  have hfill : hd.heap_39 w.params = hd.heap_39 w.params ∧ PySem.Challenge.rw_em5010_01 = PySem.Challenge.rw_em5010_01 := by (k_fill; exact ⟨rfl, rfl⟩)
  clear hfill
  have e0 : Str.ofString "[)" = bnd 0 := by unfold bnd; rfl
  have e1 : Str.ofString "[]" = bnd 1 := by unfold bnd; rfl
  have e2 : Str.ofString "()" = bnd 2 := by unfold bnd; rfl
  have e3 : Str.ofString "(]" = bnd 3 := by unfold bnd; rfl
  rcases bnd_cases h0 h1 with rfl | rfl | rfl | rfl
  all_goals (k_dflt (refine' topTup_K ?F ?X ?l ?a ?b ?c ?d ?_ hs; (case F => exact F); (case X => exact X); (case l => k_is); (case a => decide); (case b => decide); (case c => rfl); (case d => rfl)))
  · rw [e0]; exact h _
  · rw [e1]; exact h _
  · rw [e2]; exact h _
  · rw [e3]; exact h _
end Em
end
section
open PySem PySem.W PyProof.Rows PySem.Calls Builtin Builtin.ObjectAttr Builtin.Getset_descriptor
set_option maxRecDepth 100000
namespace Em
theorem dga_ref (d tp : Value) (C : Addr) : descrGetArgs ⟨[d, .ref C, tp], []⟩ = pure (d, some (.ref C), given tp) := by kernel_rfl
/-- is it a class of the text whose name's object stands in its place -/
def namedIn (K : Frag) (C : Addr) (q : Str) : Bool := match K.lookup C with
  | some o => (match o.slots.toList with
    | _ :: _ :: some (.str x _) :: _ => x == q
    | _ => false)
  | none => false
theorem cname_get {prog : Program} {w : World} {A : Around} {s : Shared} {K : Frag} {R : Result → Shared → Prop} {C : Addr} {q : Str} {tp : Value} (X : K.In s.heap) (ht : typeIn K (.ref C) = some (.type "type")) (hq : namedIn K C q = true)
    (h : ∀ t, R (.ok (.ret (.str q t))) s) :
    codeAny (model prog w) A (.call (.builtin "getset_descriptor.__get__") ⟨[.builtin "type.__name__", .ref C, tp], []⟩) R s := by
  obtain ⟨hh, g, dr, t, os⟩ := s
  have L0 : Looks (model prog w) hh (typeOf (.ref C)) (.type "type") := looks_typeIn X ht
  have L1 : Looks (model prog w) hh (isSubtype (.type "type") (.type "type")) true := Looks.of_pure (by rw [isSubtype_type]; kernel_rfl)
  refine codeAny_call_builtin KF.slot_gs.plain KF.entry_gs (KF.slot_gs.check _ _ _ _ _ _ _ _ ktyn_type (KF.args_gs _ _ _) ?_)
  unfold Builtin.«getset_descriptor.__get__» descrGet
  rw [dga_ref]
  refine wpAny_bind (wpAny_pure ?_)
  unfold descrGetter descrCheckInstance descrNameAndClass isInstance
  simp only [ktyn_owner]
  repeat lk
  refine ⟨Code.quiet_builtin _ (by decide +kernel), codeAny_builtin ktyn_entry ?_⟩
  unfold Builtin.«type.__name__» keptObject
  dsimp only
  unfold namedIn at hq
  split at hq
  · rename_i o ho
    split at hq
    · rename_i a b x tx r hsl
      have hx : o.slots[2]? = some (some (.str x tx)) := by rw [← Array.getElem?_toList, hsl]; rfl
      rw [eq_of_beq hq] at hx
      unfold slotAt
      refine wpAny_bind (wpAny_bind (wpAny_loadPart_at (X _ _ ho) ?_))
      rw [hx]
      exact wpAny_pure (wpAny_pure (h tx))
    · cases hq
  · cases hq
theorem em_cname {prog : Program} {w : World} {A : Around} {E : Value → Shared → Prop} {s : Shared} {h₀ : Heap} {L : Addr} {m : Str → Option Value} {K : Frag} {C : Addr} {q : Str} {expr : Bool} {Q : Value → Shared → Prop}
    (F : Fr h₀ L s.heap m) (X₀ : K.In h₀) (ht : typeIn K (.ref C) = some (.type "type")) (hr : readsIn K C (.type "type") = true)
    (e : findCls K (.ref C) (.type "type") "__name__" = some (.get (.builtin "getset_descriptor.__get__") (.builtin "type.__name__") (.ref C) (.type "type"))) (hq : namedIn K C q = true)
    (h : ∀ t, Q (.str q t) { s with toks := s.toks + 1 }) : wpAny (model prog w) A (getAttr (.ref C) "__name__" expr) Q E s :=
  cls_bind (X₀.keeps F.keep) hr e (wpAny_call (cname_get (s := { s with toks := s.toks + 1 }) (X₀.keeps F.keep) ht hq fun t => handed_on rfl (h t)))
set_option maxHeartbeats 4000000 in
theorem em_cname51 {w : World} {A : Around} {E : Value → Shared → Prop} {s : Shared} {h₀ : Heap} {L : Addr} {m : Str → Option Value} {expr : Bool} {Q : Value → Shared → Prop}
    (F : Fr h₀ L s.heap m) (X₀ : (hd.heap_39 w.params).In h₀) (h : ∀ t, Q (.str (Str.ofString "Range") t) { s with toks := s.toks + 1 }) : wpAny (model Pr w) A (getAttr (.ref 51) "__name__" expr) Q E s := by
  w_top off
  have hfill : hd.heap_39 w.params = hd.heap_39 w.params ∧ PySem.Challenge.rw_em5010_01 = PySem.Challenge.rw_em5010_01 := by (k_fill; exact ⟨rfl, rfl⟩)
  clear hfill
  k_dflt (refine' em_cname F X₀ ?t ?r ?e ?q h; (case t => k_is); (case r => k_is); (case e => k_is); (case q => kernel_rfl))
end Em
end
section
open PySem PySem.W PyProof.Rows PySem.Calls
set_option maxRecDepth 100000
namespace Em
theorem bnd_len (r : Int) : (bnd r).length = 2 := by
  unfold bnd
  split
  · decide
  · split
    · decide
    · split <;> decide
theorem bndL_len (r : Int) : (bndL r).length = 1 := by
  unfold bndL
  split <;> decide
theorem bndR_len (r : Int) : (bndR r).length = 1 := by
  unfold bndR
  split <;> decide
theorem bnd_item0 (r : Int) : Txt.item (bnd r) 0 = bndL r := by
  unfold bnd bndL
  by_cases h0 : r = 0
  · subst h0; decide +kernel
  · by_cases h1 : r = 1
    · subst h1; decide +kernel
    · by_cases h2 : r = 2
      · subst h2; decide +kernel
      · simp only [h0, h1, h2, if_false, or_self]; decide +kernel
theorem bnd_item1 (r : Int) : Txt.item (bnd r) 1 = bndR r := by
  unfold bnd bndR
  by_cases h0 : r = 0
  · subst h0; decide +kernel
  · by_cases h1 : r = 1
    · subst h1; decide +kernel
    · by_cases h2 : r = 2
      · subst h2; decide +kernel
      · simp only [h0, h1, h2, if_false, or_self]; decide +kernel
section
variable {prog : Program} {w : World} {A : Around} {E : Value → Shared → Prop} {s : Shared} {value slice : PySem.Expr} {t u : Tok} {r : Int} {Q : Value → Shared → Prop}
theorem em_b0 (h : (bndL r).length = 1 → Q (.str (bndL r) s.toks) { s with toks := s.toks + 1 })
    (hs : subscripted slice false (.str (bnd r) t) (.int 0 u) = operate [.str (bnd r) t, .int 0 u] (getItem (.str (bnd r) t) (.int 0 u)))
    (ht : ∀ q, letTemporaryGo value (.str (bnd r) t) q = pure ()) :
    wpAny (model prog w) A (subscriptTail value slice (.str (bnd r) t) (.int 0 u)) Q E s :=
  KXi.item (n := 2) (bnd_len r) (by decide) (by decide) (by decide) (fun _ => by rw [bnd_item0]; exact h (bndL_len r)) hs ht
theorem em_b1 (h : (bndR r).length = 1 → Q (.str (bndR r) s.toks) { s with toks := s.toks + 1 })
    (hs : subscripted slice false (.str (bnd r) t) (.int 1 u) = operate [.str (bnd r) t, .int 1 u] (getItem (.str (bnd r) t) (.int 1 u)))
    (ht : ∀ q, letTemporaryGo value (.str (bnd r) t) q = pure ()) :
    wpAny (model prog w) A (subscriptTail value slice (.str (bnd r) t) (.int 1 u)) Q E s :=
  KXi.item (n := 2) (bnd_len r) (by decide) (by decide) (by decide) (fun _ => by rw [bnd_item1]; exact h (bndR_len r)) hs ht
end
theorem EndRel.len {v : Value} {z : Str} {b : Bool} (h : EndRel v z b) : z.length ≤ 10 := by
  cases h with
  | none => decide
  | int n t h0 h1 =>
    rw [PySem.ofString_length]
    exact Nat.le_trans (int_text_length_le10 (k := 4) (by decide) (by omega)) (by decide)
  | bool b => cases b <;> decide
  | str x t h => omega
  | bytes t => decide
theorem EndRel.handed {v : Value} {z : Str} {b : Bool} (h : EndRel v z b) : handedIn v = true := by
  cases h <;> rfl
theorem EndRel.ofNone {z : Str} {b : Bool} (h : EndRel .none z b) : z = Str.ofString "" ∧ b = true := by
  cases h; exact ⟨rfl, rfl⟩
theorem em_isNone {M : Model} {A : Around} {E : Value → Shared → Prop} {s : Shared} {v : Value} {Q : Value → Shared → Prop} (hr : plainIs v .none = true) (h1 : v = .none → Q (.bool true) s) (h2 : v ≠ .none → Q (.bool false) s) :
    wpAny M A (compareOp .Is v .none) Q E s := by
  by_cases e : v = .none
  · subst e; exact wpAny_is_self (by rfl) (h1 rfl)
  · exact wpAny_is_other hr e (h2 e)
theorem EndRel.plainIs {v : Value} {z : Str} {b : Bool} (h : EndRel v z b) : plainIs v .none = true := by
  cases h <;> rfl
/-- the text that is due of a range that is not empty -/
def due (r : Int) (z₁ z₂ : Str) : Str := bndL r ++ z₁ ++ Str.ofString "," ++ z₂ ++ bndR r
theorem due_eq (r : Int) (z₁ z₂ : Str) : Str.empty ++ bndL r ++ z₁ ++ Str.ofString "," ++ z₂ ++ bndR r = due r z₁ z₂ := by
  unfold due; rw [Str.empty_append]
theorem em_one (r : Int) : (Str.empty ++ bndL r).length ≤ sizeLine := by
  rw [Str.empty_append, bndL_len, PySem.sizeLine_eq]; decide
/-- a range's own dict -/
abbrev rngDict (w : World) (t₁ t₂ t₃ t₄ : Tok) (v₁ v₂ v₃ v₄ : Value) (n : Nat) : Obj :=
  dictOf [⟨PyData.keyHash w.params (Str.ofString "lower"), .str (Str.ofString "lower") t₁, v₁⟩, ⟨PyData.keyHash w.params (Str.ofString "upper"), .str (Str.ofString "upper") t₂, v₂⟩,
    ⟨PyData.keyHash w.params (Str.ofString "bounds"), .str (Str.ofString "bounds") t₃, v₃⟩, ⟨PyData.keyHash w.params (Str.ofString "is_empty"), .str (Str.ofString "is_empty") t₄, v₄⟩] n
end Em
end
section
open PySem PySem.W PyProof.Rows PySem.Calls
namespace Em
local macro_rules | `(tactic| walk_at "compareOp Is") => `(tactic| (k_here; (with_reducible show wpAny _ _ (compareOp CmpOp.Is _ Value.none) _ _ _); refine em_isNone (EndRel.plainIs (by assumption)) (fun h9 => ?_) (fun h9 => ?_); (focus (subst h9))))
local macro_rules | `(tactic| k_handed) => `(tactic| assumption)
local macro_rules | `(tactic| k_room) => `(tactic| ktr_room)
local macro_rules | `(tactic| walk_at "call ref") => `(tactic| (k_here; (with_reducible show wpAny _ _ (call (Value.ref 143) [Value.ref 136, _]) _ _ _); k_dflt (refine' em_make ?k0 ?kn ?k1 ?k2 ?k3 ?k4 ?k5 ?k6 ?k15 ?k16 ?_; (case k0 => assumption); (case kn => assumption); (case k1 => k_asm); (case k2 => k_asm); (case k3 => k_asm); (case k4 => k_asm); (case k5 => k_asm); (case k6 => first | exact rfl | assumption); (case k15 => ktr_room); (case k16 => ktr_units); k_whole; intro tz9 h9 tk9 F9 N9; (try dsimp only); (try k_sweep); (try k_fold))))
local macro_rules | `(tactic| walk_at "subscriptTail") => `(tactic| (k_here; (with_reducible show wpAny _ _ (subscriptTail _ _ (Value.str (bnd _) _) (Value.int 0 _)) _ _ _); (refine' em_b0 ?_ ?k1 ?k2; (case k1 => with_unfolding_all rfl); (case k2 => intro _; with_unfolding_all rfl); intro hb9)))
local macro_rules | `(tactic| walk_at "subscriptTail") => `(tactic| (k_here; (with_reducible show wpAny _ _ (subscriptTail _ _ (Value.str (bnd _) _) (Value.int 1 _)) _ _ _); (refine' em_b1 ?_ ?k1 ?k2; (case k1 => with_unfolding_all rfl); (case k2 => intro _; with_unfolding_all rfl); intro hb9)))
set_option maxRecDepth 100000 in
set_option maxHeartbeats 8000000 in
theorem out_spec (w : World) (news : List (Addr × Obj)) (x d : Addr) (t₁ t₂ t₃ t₄ tb : Tok) (v₁ v₂ : Value) (z₁ z₂ : Str) (b₁ b₂ : Bool) (r : Int) (e : Bool) (n : Nat)
    (hv₁ : EndRel v₁ z₁ b₁) (hv₂ : EndRel v₂ z₂ b₂) (hl₁ : z₁.length ≤ 10) (hl₂ : z₂.length ≤ 10)
    (hm₁ : (x, instObj 51 d) ∈ news) (hm₂ : (d, rngDict w t₁ t₂ t₃ t₄ v₁ v₂ (.str (bnd r) tb) (.bool e) n) ∈ news) :
    Spec w 97 [.ref x] news 10 200 fun h₀ L m s Q =>
      ∀ (tz : Tok) (h' : Heap) (tk' : Nat), Fr h₀ L h' m → News h₀ L h' news → Q (.str (if e then Str.ofString "empty" else due r z₁ z₂) tz) { s with heap := h', toks := tk' } := by
  intro p loose mean mg mb dp un gd cn cs a ccd cl outer A₀ base h₀ L m s Q E B F X N T hk hdp hu hret
  w_top off
  have hfill : hd.heap_39 w.params = hd.heap_39 w.params ∧ PySem.Challenge.rw_em5010_01 = PySem.Challenge.rw_em5010_01 := by (k_fill; exact ⟨rfl, rfl⟩)
  clear hfill
  have hMk9 := kstMark
  have hh₁ := hv₁.handed
  have hh₂ := hv₂.handed
  refine wpAny_call ?_
  k_dflt cell_enter
  k_steps
  all_goals (first | exact em_one _ | (refine cb_retS hret ?_ (by k_asm) (by k_asm)))
  · rename (_ = true) => h; subst h; rfl
  all_goals (rename (_ = false) => h; subst h; rw [if_neg (by decide), ← due_eq])
  · rw [(EndRel.ofNone hv₁).1, (EndRel.ofNone hv₂).1]
  · rw [(EndRel.ofNone hv₁).1]
  · rw [(EndRel.ofNone hv₂).1]
theorem em_out {w : World} {news : List (Addr × Obj)} {x d : Addr} {t₁ t₂ t₃ t₄ tb : Tok} {v₁ v₂ : Value} {z₁ z₂ : Str} {b₁ b₂ : Bool} {r : Int} {e : Bool} {n : Nat}
    {p : Program} {loose : List Str} {mean : ExcName → Option Value} {mg mb : Str → Option Value} {dp un : Nat} {gd : Option (List Code)} {cn : Str} {cs : Scope} {a : Addr} {ccd : Value} {cl : List (Str × Addr)} {outer : List Env} {A₀ : Around} {base h₀ : Heap} {L : Addr} {m : Str → Option Value} {s : Shared} {Q E : Value → Shared → Prop}
    (hm₁ : (x, instObj 51 d) ∈ news) (hm₂ : (d, rngDict w t₁ t₂ t₃ t₄ v₁ v₂ (.str (bnd r) tb) (.bool e) n) ∈ news) (hv₁ : EndRel v₁ z₁ b₁) (hv₂ : EndRel v₂ z₂ b₂)
    (B : Below A₀ base outer h₀) (F : Fr h₀ L s.heap m) (X : (hd.heap_39 w.params).In h₀) (N : News h₀ L s.heap news) (T : Top p loose mean mg mb h₀) (hk : cs.kind = .function)
    (hdp : dp + 10 < recursionLimit) (hu : un + 200 < cLine)
    (hret : ∀ (tz : Tok) (h' : Heap) (tk' : Nat), Fr h₀ L h' m → News h₀ L h' news → Q (.str (if e then Str.ofString "empty" else due r z₁ z₂) tz) { s with heap := h', toks := tk' }) :
    wpAny (model Pr w) (ktrTop dp un gd cn cs L a ccd cl outer) (call (.ref 97) [.ref x]) Q E s :=
  out_spec w news x d t₁ t₂ t₃ t₄ tb v₁ v₂ z₁ z₂ b₁ b₂ r e n hv₁ hv₂ hv₁.len hv₂.len hm₁ hm₂ p loose mean mg mb dp un gd cn cs a ccd cl outer A₀ base h₀ L m s Q E B F X N T hk hdp hu hret
end Em
end
section
open PySem PySem.W PyProof.Rows PySem.Calls
namespace Em
local macro_rules | `(tactic| k_room) => `(tactic| ktr_room)
local macro_rules | `(tactic| walk_at "getAttr ref") => `(tactic| (k_here; (with_reducible show wpAny _ _ (getAttr (Value.ref 51) (PySem.Str.ofString "__name__") _) _ _ _); k_dflt (refine' em_cname51 ?k1 ?k2 ?_; (case k1 => k_asm); (case k2 => k_asm); k_whole; intro t9)))
local macro_rules | `(tactic| walk_at "call ref") => `(tactic| (k_here; (with_reducible show wpAny _ _ (call (Value.ref 97) [Value.ref _]) _ _ _); k_dflt (refine' em_out ?ka ?kb ?k0 ?kn ?k1 ?k2 ?k3 ?k4 ?k5 ?k6 ?k15 ?k16 ?_; (case ka => k_mem); (case kb => k_mem); (case k0 => assumption); (case kn => assumption); (case k1 => k_asm); (case k2 => k_asm); (case k3 => k_asm); (case k4 => k_asm); (case k5 => k_asm); (case k6 => first | exact rfl | assumption); (case k15 => ktr_room); (case k16 => ktr_units); k_whole; intro tz9 h9 tk9 F9 N9; (try dsimp only); (try k_sweep); (try k_fold))))
set_option maxRecDepth 100000 in
set_option maxHeartbeats 8000000 in
theorem mk_spec (w : World) (news : List (Addr × Obj)) (x d : Addr) (t₁ t₂ t₃ t₄ tb : Tok) (v₁ v₂ : Value) (z₁ z₂ : Str) (b₁ b₂ : Bool) (r : Int) (e : Bool) (n : Nat)
    (hv₁ : EndRel v₁ z₁ b₁) (hv₂ : EndRel v₂ z₂ b₂)
    (hm₁ : (x, instObj 51 d) ∈ news) (hm₂ : (d, rngDict w t₁ t₂ t₃ t₄ v₁ v₂ (.str (bnd r) tb) (.bool e) n) ∈ news) :
    Spec w 143 [.ref 136, .ref x] news 15 300 fun h₀ L m s Q =>
      ∀ (tz : Tok) (h' : Heap) (tk' : Nat), Fr h₀ L h' m → News h₀ L h' news → Q (.str (if e then Str.ofString "empty" else due r z₁ z₂) tz) { s with heap := h', toks := tk' } := by
  intro p loose mean mg mb dp un gd cn cs a ccd cl outer A₀ base h₀ L m s Q E B F X N T hk hdp hu hret
  w_top off
  have hfill : hd.heap_39 w.params = hd.heap_39 w.params ∧ PySem.Challenge.rw_em5010_01 = PySem.Challenge.rw_em5010_01 := by (k_fill; exact ⟨rfl, rfl⟩)
  clear hfill
  have hMk9 := kstMark
  refine wpAny_call ?_
  k_dflt cell_enter
  k_steps
  exact hret _ _ _ (by k_asm) (by k_asm)
theorem em_mk {w : World} {news : List (Addr × Obj)} {x d : Addr} {t₁ t₂ t₃ t₄ tb : Tok} {v₁ v₂ : Value} {z₁ z₂ : Str} {b₁ b₂ : Bool} {r : Int} {e : Bool} {n : Nat}
    {p : Program} {loose : List Str} {mean : ExcName → Option Value} {mg mb : Str → Option Value} {dp un : Nat} {gd : Option (List Code)} {cn : Str} {cs : Scope} {a : Addr} {ccd : Value} {cl : List (Str × Addr)} {outer : List Env} {A₀ : Around} {base h₀ : Heap} {L : Addr} {m : Str → Option Value} {s : Shared} {Q E : Value → Shared → Prop}
    (hm₁ : (x, instObj 51 d) ∈ news) (hm₂ : (d, rngDict w t₁ t₂ t₃ t₄ v₁ v₂ (.str (bnd r) tb) (.bool e) n) ∈ news) (hv₁ : EndRel v₁ z₁ b₁) (hv₂ : EndRel v₂ z₂ b₂)
    (B : Below A₀ base outer h₀) (F : Fr h₀ L s.heap m) (X : (hd.heap_39 w.params).In h₀) (N : News h₀ L s.heap news) (T : Top p loose mean mg mb h₀) (hk : cs.kind = .function)
    (hdp : dp + 15 < recursionLimit) (hu : un + 300 < cLine)
    (hret : ∀ (tz : Tok) (h' : Heap) (tk' : Nat), Fr h₀ L h' m → News h₀ L h' news → Q (.str (if e then Str.ofString "empty" else due r z₁ z₂) tz) { s with heap := h', toks := tk' }) :
    wpAny (model Pr w) (ktrTop dp un gd cn cs L a ccd cl outer) (call (.ref 143) [.ref 136, .ref x]) Q E s :=
  mk_spec w news x d t₁ t₂ t₃ t₄ tb v₁ v₂ z₁ z₂ b₁ b₂ r e n hv₁ hv₂ hm₁ hm₂ p loose mean mg mb dp un gd cn cs a ccd cl outer A₀ base h₀ L m s Q E B F X N T hk hdp hu hret
end Em
end
section
open PySem PySem.W PyProof.Rows PySem.Calls
namespace Em
/-- the table of the code objects made in _range_in: empty, or with the one of range_in -/
inductive TabSt : List (Addr × Obj) → Prop where
  | fresh : TabSt [(106, tabObj #[])]
  | made (c : Addr) (oc : Obj) (vs : Array Value) (t : Tok) (hd : oc.data = .fields vs) (hv : vs[1]? = some (.str (Str.ofString "_range_in.<locals>.range_in") t)) :
      TabSt [(106, tabObj #[rawInt 51, rawInt 4, .ref c]), (c, oc)]
/-- a contract under CodeHd -/
abbrev SpecC (w : World) (f : Addr) (vs : List Value) (news : List (Addr × Obj)) (dn uN : Nat)
    (Ret : (h₀ : Heap) → (L : Addr) → (m : Str → Option Value) → Shared → (Value → Shared → Prop) → Prop) : Prop :=
  ∀ (p : Program) (loose : List Str) (mean : ExcName → Option Value) (mg mb : Str → Option Value) (dp un : Nat) (gd : Option (List Code)) (cn : Str) (cs : Scope) (a : Addr) (ccd : Value) (cl : List (Str × Addr)) (outer : List Env) (A₀ : Around) (base h₀ : Heap) (L : Addr) (m : Str → Option Value) (s : Shared) (Q E : Value → Shared → Prop),
    CodeHd base 110 106 → Below A₀ base outer h₀ → Fr h₀ L s.heap m → (hd.heap_39 w.params).In h₀ → News h₀ L s.heap news → Top p loose mean mg mb h₀ → cs.kind = .function →
    dp + dn < recursionLimit → un + uN < cLine → Ret h₀ L m s Q →
      wpAny (model Pr w) (ktrTop dp un gd cn cs L a ccd cl outer) (call (.ref f) vs) Q E s
theorem em_off2 {rest : List (Addr × Obj)} {a c : Addr} (h : OwnOff rest [a]) (k : ∀ p ∈ rest, p.1 ≠ c) : OwnOff rest [a, c] := fun p hp b hb => by
  rcases List.mem_cons.mp hb with rfl | hb
  · exact h p hp _ (List.mem_singleton.mpr rfl)
  · rw [List.mem_singleton.mp hb]; exact k p hp
theorem em_pickF {h₀ h : Heap} {L : Addr} {a b c e f g k t : Addr × Obj} {rest : List (Addr × Obj)} (N : News h₀ L h (a :: b :: c :: e :: f :: g :: k :: t :: rest)) : News h₀ L h (a :: b :: ([t, g] ++ rest)) := fun p hp => N p (by
  simp only [List.cons_append, List.nil_append, List.mem_cons] at hp ⊢
  rcases hp with h | h | h | h | h <;> simp [h])
theorem em_pickM {h₀ h : Heap} {L : Addr} {a b c e f g k t : Addr × Obj} {rest : List (Addr × Obj)} (N : News h₀ L h (a :: b :: c :: e :: f :: k :: t :: g :: rest)) : News h₀ L h (a :: b :: ([t, g] ++ rest)) := fun p hp => N p (by
  simp only [List.cons_append, List.nil_append, List.mem_cons] at hp ⊢
  rcases hp with h | h | h | h | h <;> simp [h])
end Em
end
section
open PySem PySem.W PyProof.Rows PySem.Calls
namespace Em
local macro_rules | `(tactic| k_room) => `(tactic| ktr_room)
set_option maxRecDepth 100000 in
set_option maxHeartbeats 8000000 in
theorem rin_empty (w : World) (T rest : List (Addr × Obj)) (td : Tok) (hT : TabSt T) (hoff : OwnOff rest (T.map (·.1))) :
    SpecC w 118 [.str (Str.ofString "empty") td] (T ++ rest) 20 400 fun h₀ L m s Q =>
      ∀ (x d : Addr) (t₁ t₂ t₃ t₄ tb : Tok) (n : Nat) (T' : List (Addr × Obj)) (h' : Heap) (tk' : Nat), TabSt T' → OwnOff rest (T'.map (·.1)) → Fr h₀ L h' m →
        News h₀ L h' ((x, instObj 51 d) :: (d, rngDict w t₁ t₂ t₃ t₄ .none .none (.str (Str.ofString "[)") tb) (.bool true) n) :: (T' ++ rest)) → Q (.ref x) { s with heap := h', toks := tk' } := by
  intro p loose mean mg mb dp un gd cn cs a ccd cl outer A₀ base h₀ L m s Q E hcode B F X N Tp hk hdp hu hret
  w_top off
  have hfill : hd.heap_39 w.params = hd.heap_39 w.params ∧ PySem.Challenge.rw_em5010_01 = PySem.Challenge.rw_em5010_01 := by (k_fill; exact ⟨rfl, rfl⟩)
  clear hfill
  have hMk9 := kstMark
  cases hT
  all_goals
    simp only [List.map_cons, List.map_nil] at hoff
    simp only [List.cons_append, List.nil_append] at N
    refine wpAny_call ?_
    k_dflt cell_enter
    k_steps
  · rename (Obj.data _ = Data.fields _) => hd1
    rename (_[1]? = some _) => hd2
    refine' hret _ _ _ _ _ _ _ _ [(106, _), (_, _)] _ _ (TabSt.made _ _ _ _ hd1 hd2) (em_off2 hoff ?_) ?_ ?_
    rotate_right 1
    · exact cb_drop (by assumption) (by kcj_all)
    · k_all
    · k_asm
  · refine' hret _ _ _ _ _ _ _ _ [(106, _), (_, _)] _ _ (TabSt.made _ _ _ _ (by assumption) (by assumption)) hoff ?_ ?_
    rotate_right 1
    · exact cb_drop (by assumption) (by kcj_all)
    · k_asm
end Em
end
section
open PySem PySem.W PyProof.Rows PySem.Calls PySem.NumText
set_option maxRecDepth 100000
namespace Em
/-! texts as lists of numbers -/
theorem comma_list : (Str.ofString ",").cps.toList = [44] := by decide
theorem bndL_list (r : Int) : ∃ c, c ≠ 101 ∧ (bndL r).cps.toList = [c] := by
  unfold bndL
  split
  · exact ⟨91, by decide, by decide⟩
  · exact ⟨40, by decide, by decide⟩
theorem bndR_list (r : Int) : ∃ c, (bndR r).cps.toList = [c] := by
  unfold bndR
  split
  · exact ⟨41, by decide⟩
  · exact ⟨93, by decide⟩
theorem due_list (r : Int) (z₁ z₂ : Str) : (due r z₁ z₂).cps.toList = (bndL r).cps.toList ++ (z₁.cps.toList ++ 44 :: z₂.cps.toList) ++ (bndR r).cps.toList := by
  unfold due
  simp only [PyProof.Rows.cps_toList_append, comma_list, List.append_assoc, List.cons_append, List.nil_append]
theorem due_len (r : Int) (z₁ z₂ : Str) : (due r z₁ z₂).length = z₁.length + z₂.length + 3 := by
  unfold due
  simp only [Str.length_append, bndL_len, bndR_len, show (Str.ofString ",").length = 1 from by decide]
  omega
theorem len_list (x : Str) : x.cps.toList.length = x.length := by simp [Str.length]
theorem due_ne (r : Int) (z₁ z₂ : Str) : (due r z₁ z₂ == Str.ofString "empty") = false := by
  rw [beq_eq_false_iff_ne]
  intro e
  have h : (due r z₁ z₂).cps.toList.head? = (Str.ofString "empty").cps.toList.head? := by rw [e]
  obtain ⟨c, hc, hl⟩ := bndL_list r
  rw [due_list, hl] at h
  rw [show (Str.ofString "empty").cps.toList.head? = some 101 from by decide] at h
  exact hc (Option.some.inj h)
theorem due_slice (r : Int) (z₁ z₂ : Str) : Txt.slice (due r z₁ z₂) (some 1) (some (-1)) = z₁ ++ Str.ofString "," ++ z₂ := by
  have hl := due_len r z₁ z₂
  have e0 : Builtin.Str.strSliceIndices (some 1) (some (-1)) 1 (due r z₁ z₂).length = Builtin.Str.strSliceIndices (some ((1 : Nat) : Int)) (some ((z₁.length + z₂.length + 2 : Nat) : Int)) 1 (due r z₁ z₂).length := by
    unfold Builtin.Str.strSliceIndices
    rw [hl]
    simp only [show ((1 : Int) > 0) = True from by simp, if_true]
    congr 1
    simp only [show ((-1 : Int) < 0) = True from by simp, if_true, show ¬ (((z₁.length + z₂.length + 2 : Nat) : Int) < 0) from by omega, if_false]
    omega
  unfold Txt.slice
  rw [e0]
  rw [if_neg (by
    rw [StrLaws.strSliceIndices_plain (by omega) (by omega)]
    simp only [List.length_map, List.length_range, hl, Bool.and_eq_true, beq_iff_eq, not_and]
    intro _
    omega)]
  apply PyProof.Rows.ext_toList
  show ((Builtin.Str.strSliceIndices _ _ 1 (due r z₁ z₂).length).filterMap _).toArray.toList = _
  rw [List.toList_toArray, StrLaws.sliced_plain _ (by omega) (by omega), due_list]
  obtain ⟨c, _, h1⟩ := bndL_list r
  obtain ⟨d, h2⟩ := bndR_list r
  rw [h1, h2]
  simp only [PyProof.Rows.cps_toList_append, comma_list]
  have hn : z₁.length + z₂.length + 2 - 1 = (z₁.cps.toList ++ 44 :: z₂.cps.toList).length := by
    rw [List.length_append, List.length_cons, len_list, len_list]; omega
  rw [hn]
  simp only [List.cons_append, List.nil_append, List.drop_succ_cons, List.drop_zero, List.append_assoc]
  rw [← List.cons_append, ← List.append_assoc, List.take_left']
  · rfl
theorem due_item0 (r : Int) (z₁ z₂ : Str) : Txt.item (due r z₁ z₂) 0 = bndL r := by
  apply PyProof.Rows.ext_toList
  obtain ⟨c, _, h1⟩ := bndL_list r
  have hl := due_len r z₁ z₂
  have hx : (due r z₁ z₂).cps[0]? = some c := by
    rw [← Array.getElem?_toList, due_list, h1]; rfl
  unfold Txt.item Txt.charAt seqIndex?
  rw [hl]
  simp only [show ¬ ((0 : Int) < 0) from by decide, if_false]
  rw [if_pos (by simp only [Bool.and_eq_true, decide_eq_true_eq]; omega)]
  show [((some (0 : Int).toNat).bind fun i => (due r z₁ z₂).cps[i]?).getD 0] = _
  rw [h1]
  show [((due r z₁ z₂).cps[0]?).getD 0] = _
  rw [hx]; rfl
theorem due_last (r : Int) (z₁ z₂ : Str) : Txt.item (due r z₁ z₂) (-1) = bndR r := by
  apply PyProof.Rows.ext_toList
  obtain ⟨d, h2⟩ := bndR_list r
  have hl := due_len r z₁ z₂
  have hx : (due r z₁ z₂).cps[z₁.length + z₂.length + 2]? = some d := by
    obtain ⟨c, _, h1⟩ := bndL_list r
    rw [← Array.getElem?_toList, due_list, h1, h2]
    rw [List.getElem?_append_right (by rw [List.length_append, List.length_append, List.length_cons (a := 44), len_list, len_list]; simp; omega)]
    rw [List.length_append, List.length_append, List.length_cons (a := 44), len_list, len_list]
    simp only [List.length_cons, List.length_nil]
    rw [show z₁.length + z₂.length + 2 - (0 + 1 + (z₁.length + (z₂.length + 1))) = 0 from by omega]
    rfl
  unfold Txt.item Txt.charAt seqIndex?
  rw [hl]
  simp only [show ((-1 : Int) < 0) = True from by simp, if_true]
  rw [if_pos (by simp only [Bool.and_eq_true, decide_eq_true_eq]; omega)]
  rw [show ((-1 : Int) + ((z₁.length + z₂.length + 3 : Nat) : Int)).toNat = z₁.length + z₂.length + 2 from by omega]
  show [((due r z₁ z₂).cps[z₁.length + z₂.length + 2]?).getD 0] = _
  rw [hx, h2]; rfl
/-! split at the comma -/
theorem free_cut {p z r s : List Nat} (hp : 44 ∉ p) (hz : 44 ∉ z) : p ++ 44 :: r = z ++ 44 :: s → p = z ∧ r = s := by
  induction p generalizing z with
  | nil =>
    intro e
    cases z with
    | nil => exact ⟨rfl, (List.cons.inj e).2⟩
    | cons a z => exact absurd (show 44 ∈ a :: z from by rw [← (List.cons.inj e).1]; exact List.mem_cons_self) hz
  | cons a p ih =>
    intro e
    cases z with
    | nil => exact absurd (show 44 ∈ a :: p from by rw [(List.cons.inj e).1]; exact List.mem_cons_self) hp
    | cons b z =>
      have e1 := (List.cons.inj e).1
      have e2 := ih (fun h => hp (List.mem_cons_of_mem _ h)) (fun h => hz (List.mem_cons_of_mem _ h)) (List.cons.inj e).2
      exact ⟨by rw [e1, e2.1], e2.2⟩
theorem join_two (x y : Str) (r : List Str) : (Str.join (Str.ofString ",") (x :: y :: r)).cps.toList = x.cps.toList ++ 44 :: (Str.join (Str.ofString ",") (y :: r)).cps.toList := by
  show (x ++ Str.ofString "," ++ Str.join (Str.ofString ",") (y :: r)).cps.toList = _
  rw [PyProof.Rows.cps_toList_append, PyProof.Rows.cps_toList_append, comma_list, List.append_assoc]; rfl
theorem split_due {z₁ z₂ : Str} (h1 : 44 ∉ z₁.cps.toList) (h2 : 44 ∉ z₂.cps.toList) : Txt.split (z₁ ++ Str.ofString "," ++ z₂) (Str.ofString ",") = [z₁, z₂] := by
  have hj := StrLaws.join_split (z₁ ++ Str.ofString "," ++ z₂) (Str.ofString ",")
  have hf : ∀ p ∈ Txt.split (z₁ ++ Str.ofString "," ++ z₂) (Str.ofString ","), 44 ∉ p.cps.toList := by
    have h := StrLaws.split_free (z₁ ++ Str.ofString "," ++ z₂) 44
    rw [show (⟨#[44]⟩ : Str) = Str.ofString "," from by decide] at h
    exact h
  revert hj hf
  generalize Txt.split (z₁ ++ Str.ofString "," ++ z₂) (Str.ofString ",") = ps
  intro hj hf
  have hj : (Str.join (Str.ofString ",") ps).cps.toList = (z₁ ++ Str.ofString "," ++ z₂).cps.toList := by rw [hj]
  rw [PyProof.Rows.cps_toList_append, PyProof.Rows.cps_toList_append, comma_list, List.append_assoc] at hj
  match ps with
  | [] => 
    have h := congrArg List.length hj
    simp [Str.join, Str.empty] at h
  | [p] =>
    have hp := hf p (List.mem_singleton.mpr rfl)
    have e : p.cps.toList = z₁.cps.toList ++ ([44] ++ z₂.cps.toList) := hj
    exact absurd (by rw [e]; simp) hp
  | p :: q :: r =>
    rw [join_two] at hj
    have c := free_cut (hf p (List.mem_cons_self)) h1 hj
    cases r with
    | nil =>
      have e2 : q.cps.toList = z₂.cps.toList := c.2
      rw [PyProof.Rows.ext_toList c.1, PyProof.Rows.ext_toList e2]
    | cons q' r =>
      rw [join_two] at c
      have e2 : q.cps.toList ++ 44 :: (Str.join (Str.ofString ",") (q' :: r)).cps.toList = z₂.cps.toList := c.2
      exact absurd (by rw [← e2]; simp) h2
/-! the texts of ints -/
theorem num_signs (n : Int) : (0 ≤ n ∧ AllDigits (Str.ofString (toString n)).cps.toList ∧ (Str.ofString (toString n)).cps.toList ≠ [] ∧ digitsVal (Str.ofString (toString n)).cps.toList = n.toNat) ∨
    (n < 0 ∧ ∃ cs, (Str.ofString (toString n)).cps.toList = 45 :: cs ∧ AllDigits cs ∧ cs ≠ [] ∧ -((digitsVal cs : Nat) : Int) = n) := by
  have nat : ∀ m : Nat, AllDigits ((Nat.toDigits 10 m).map Char.toNat) ∧ (Nat.toDigits 10 m).map Char.toNat ≠ [] := by
    intro m
    refine ⟨fun c hc => ?_, fun e => ?_⟩
    · obtain ⟨ch, hch, e⟩ := List.mem_map.mp hc
      have r := digit_range (Nat.isDigit_of_mem_toDigits (by decide) (by decide) hch)
      rw [← e]
      exact r
    · have h := toDigits_len_ge 10 m
      rw [List.map_eq_nil_iff.mp e] at h
      exact absurd h (by decide)
  cases n with
  | ofNat m =>
    left
    have e := KIN.signs_num m
    refine ⟨Int.natCast_nonneg m, ?_⟩
    rw [show Int.ofNat m = ((m : Nat) : Int) from rfl, e]
    exact ⟨(nat m).1, (nat m).2, by rw [KIN.val_back]; rfl⟩
  | negSucc m =>
    right
    refine ⟨Int.negSucc_lt_zero m, (Nat.toDigits 10 (m + 1)).map Char.toNat, ?_, (nat _).1, (nat _).2, by rw [KIN.val_back]; rfl⟩
    rw [signs_ofString]
    show (("-" ++ Nat.repr (m + 1)).toList).map Char.toNat = _
    rw [String.toList_append, Nat.toList_repr]
    rfl
theorem EndRel.free {v : Value} {z : Str} (h : EndRel v z true) : 44 ∉ z.cps.toList := by
  generalize hb : true = b at h
  cases h with
  | none => decide
  | int n t h0 h1 =>
    rcases num_signs n with ⟨_, hd, _⟩ | ⟨_, cs, e, hd, _⟩
    · intro h; have := hd 44 h; omega
    · rw [e]; intro h
      rcases List.mem_cons.mp h with h | h
      · exact absurd h (by decide)
      · have := hd 44 h; omega
  | bool b => cases hb
  | str x t h => cases hb
  | bytes t => cases hb
theorem num_reads (n : Int) (h0 : -1000 ≤ n) (h1 : n ≤ 999) : PySem.intText? (Str.ofString (toString n)) = some n := by
  have hl : (Str.ofString (toString n)).length ≤ 10 := (EndRel.int n 0 h0 h1).len
  rcases num_signs n with ⟨hn, hd, hne, hv⟩ | ⟨hn, cs, e, hd, hne, hv⟩
  · rw [intText_digits hd hne (by omega), hv]
    congr 1
    omega
  · rw [intText_neg e hd hne (by omega), hv]
theorem num_ne (n : Int) : (Str.ofString (toString n) == Str.ofString "") = false := by
  rw [beq_eq_false_iff_ne]
  intro e
  have h : (Str.ofString (toString n)).cps.toList = (Str.ofString "").cps.toList := by rw [e]
  rw [show (Str.ofString "").cps.toList = [] from by decide] at h
  rcases num_signs n with ⟨_, _, hne, _⟩ | ⟨_, cs, e, _⟩
  · exact hne h
  · rw [e] at h; cases h
end Em
end
section
open PySem PySem.W PyProof.Rows PySem.Calls
namespace Em
theorem bnd_glue (r : Int) (z₁ z₂ : Str) : Str.empty ++ Txt.item (due r z₁ z₂) 0 ++ Txt.item (due r z₁ z₂) (-1) = bnd r := by
  rw [due_item0, due_last, Str.empty_append]
  unfold bnd bndL bndR
  by_cases h0 : r = 0
  · subst h0; decide
  · by_cases h1 : r = 1
    · subst h1; decide
    · by_cases h2 : r = 2
      · subst h2; decide
      · simp only [h0, h1, h2, if_false, or_self]; decide
theorem em_relN {z : Str} (h : z = Str.ofString "") : EndRel .none z true := by subst h; exact .none
theorem em_relI {z : Str} {n : Int} {t : Tok} (h : z = Str.ofString (toString n)) (h0 : -1000 ≤ n) (h1 : n ≤ 999) : EndRel (.int n t) z true := by subst h; exact .int n t h0 h1
section
variable {prog : Program} {w : World} {A : Around} {E : Value → Shared → Prop} {s : Shared} {Q : Value → Shared → Prop} {r : Int} {z₁ z₂ z : Str} {v : Value} {t u : Tok}
theorem em_dueEq (h : Q (.bool false) s) : wpAny (model prog w) A (compareOp .Eq (.str (due r z₁ z₂) t) (.str (Str.ofString "empty") u)) Q E s :=
  PyProof.Rows.eq_str (by rw [due_ne]; exact h)
theorem em_split {h₀ : Heap} {L : Addr} {m : Str → Option Value} {news : List (Addr × Obj)} {x : Str} (hF : Fr h₀ L s.heap m) (hN : News h₀ L s.heap news) (hx : x = z₁ ++ Str.ofString "," ++ z₂) (h1 : 44 ∉ z₁.cps.toList) (h2 : 44 ∉ z₂.cps.toList) (l1 : z₁.length ≤ 10) (l2 : z₂.length ≤ 10)
    (h : ∀ D t₁ t₂ h' k, Fr h₀ L h' m → News h₀ L h' ((D, listOf [.str z₁ t₁, .str z₂ t₂].toArray 0) :: news) → (∀ p ∈ news, p.1 < D) → Q (.ref D) { s with heap := h', toks := k }) :
    wpAny (model prog w) A (call (.builtin "str.split") [.str x t, .str (Str.ofString ",") u]) Q E s := by
  subst hx
  refine KSpl.split1 hF hN (by decide) (fun D l h' k e _ F N lt => ?_) (by rw [Str.length_append, Str.length_append, PySem.sizeLine_eq]; have : (Str.ofString ",").length = 1 := by decide
                                                                           omega)
  rw [split_due h1 h2] at e
  obtain ⟨t₁, l', e1, e⟩ := KSpl.cons_of e
  obtain ⟨t₂, l'', e2, e⟩ := KSpl.cons_of e
  have e3 := KSpl.nil_of e
  subst e3
  subst e2
  subst e1
  exact h D t₁ t₂ h' k F N lt
theorem em_zEq (hz : EndRel v z true) (h1 : v = .none → z = Str.ofString "" → Q (.bool true) s) (h2 : ∀ n, -1000 ≤ n → n ≤ 999 → z = Str.ofString (toString n) → (∃ t, v = .int n t) → Q (.bool false) s) :
    wpAny (model prog w) A (compareOp .Eq (.str z t) (.str (Str.ofString "") u)) Q E s := by
  refine PyProof.Rows.eq_str ?_
  generalize hb : true = b at hz
  cases hz with
  | none => exact h1 rfl rfl
  | int n t a b => rw [num_ne]; exact h2 n a b rfl ⟨t, rfl⟩
  | bool b => cases hb
  | str x t h => cases hb
  | bytes t => cases hb
theorem em_int {n : Int} (hz : z = Str.ofString (toString n)) (h0 : -1000 ≤ n) (h1 : n ≤ 999) (h : Q (.int n s.toks) { s with toks := s.toks + 1 }) : wpAny (model prog w) A (call (.type "int") [.str z t]) Q E s := by
  subst hz
  exact KIN.call_text (num_reads n h0 h1) (Nat.le_trans (EndRel.int n 0 h0 h1).len (by decide)) h
end
local macro_rules | `(tactic| k_room) => `(tactic| ktr_room)
local macro_rules | `(tactic| walk_at "compareOp Eq str str") => `(tactic| (k_here; (with_reducible show wpAny _ _ (compareOp CmpOp.Eq (Value.str (due _ _ _) _) (Value.str _ _)) _ _ _); refine em_dueEq ?_))
local macro_rules | `(tactic| walk_at "compareOp Eq str str") => `(tactic| (k_here; (with_reducible show wpAny _ _ (compareOp CmpOp.Eq (Value.str _ _) (Value.str (PySem.Str.ofString "") _)) _ _ _); refine em_zEq (by assumption) (fun hv9 hz9 => ?_) (fun n9 ha9 hb9 hz9 hv9 => ?_)))
local macro_rules | `(tactic| walk_at "call type:int") => `(tactic| (k_here; (with_reducible show wpAny _ _ (call (Value.type "int") [Value.str _ _]) _ _ _); refine em_int (by assumption) (by assumption) (by assumption) ?_))
local macro_rules | `(tactic| walk_at "CompEnd") => `(tactic| ((refine' LCg.CompEnd.intro ?k1 ?k2 _ (fun p9 hp9 => hp9) ?k3 ?k4 ?_); (case k1 => assumption); (case k2 => assumption); (case k3 => first | assumption | (simp only [LCg.Off3, and_true]; assumption)); (case k4 => lcg_src)))
local macro_rules | `(tactic| walk_at "call builtin:str.split") => `(tactic| (k_here; (with_reducible show wpAny _ _ (call (Value.builtin "str.split") [Value.str _ _, Value.str _ _]) _ _ _); (refine' em_split ?k1 ?k2 (due_slice _ _ _) ?k3 ?k4 ?k5 ?k6 ?_; (case k1 => k_asm); (case k2 => k_asm); (case k3 => exact EndRel.free (by assumption)); (case k4 => exact EndRel.free (by assumption)); (case k5 => assumption); (case k6 => assumption)); k_whole; intro D9 t9 u9 h9 k9 F9 N9 l1; k_lt l1))
set_option maxRecDepth 100000 in
set_option maxHeartbeats 8000000 in
theorem rin_due (w : World) (T rest : List (Addr × Obj)) (td : Tok) (r : Int) (v₁ v₂ : Value) (z₁ z₂ : Str) (hv₁ : EndRel v₁ z₁ true) (hv₂ : EndRel v₂ z₂ true) (hl₁ : z₁.length ≤ 10) (hl₂ : z₂.length ≤ 10) (hT : TabSt T) (hoff : OwnOff rest (T.map (·.1))) :
    SpecC w 118 [.str (due r z₁ z₂) td] (T ++ rest) 20 400 fun h₀ L m s Q =>
      ∀ (x d : Addr) (v₁' v₂' : Value) (t₁ t₂ t₃ t₄ tb : Tok) (n : Nat) (T' : List (Addr × Obj)) (h' : Heap) (tk' : Nat), EndRel v₁' z₁ true → EndRel v₂' z₂ true → TabSt T' → OwnOff rest (T'.map (·.1)) → Fr h₀ L h' m →
        News h₀ L h' ((x, instObj 51 d) :: (d, rngDict w t₁ t₂ t₃ t₄ v₁' v₂' (.str (bnd r) tb) (.bool false) n) :: (T' ++ rest)) → Q (.ref x) { s with heap := h', toks := tk' } := by
  intro p loose mean mg mb dp un gd cn cs a ccd cl outer A₀ base h₀ L m s Q E hcode B F X N Tp hk hdp hu hret
  w_top off
  have hfill : hd.heap_39 w.params = hd.heap_39 w.params ∧ PySem.Challenge.rw_em5010_01 = PySem.Challenge.rw_em5010_01 := by (k_fill; exact ⟨rfl, rfl⟩)
  clear hfill
  have hMk9 := kstMark
  have hdl := due_len r z₁ z₂
  have hret' : ∀ (x d : Addr) (v₁' v₂' : Value) (t₁ t₂ t₃ t₄ tb : Tok) (n : Nat) (T' : List (Addr × Obj)) (h' : Heap) (tk' : Nat) (y : Str), y = bnd r → EndRel v₁' z₁ true → EndRel v₂' z₂ true → TabSt T' → OwnOff rest (T'.map (·.1)) → Fr h₀ L h' m →
      News h₀ L h' ((x, instObj 51 d) :: (d, rngDict w t₁ t₂ t₃ t₄ v₁' v₂' (.str y tb) (.bool false) n) :: (T' ++ rest)) → Q (.ref x) { s with heap := h', toks := tk' } := by
    intro x d v₁' v₂' t₁ t₂ t₃ t₄ tb n T' h' tk' y hy
    subst hy
    exact hret x d v₁' v₂' t₁ t₂ t₃ t₄ tb n T' h' tk'
  clear hret
  cases hT with
  | fresh =>
    simp only [List.map_cons, List.map_nil] at hoff
    simp only [List.cons_append, List.nil_append] at N
    refine wpAny_call ?_
    k_dflt cell_enter
    k_steps
    all_goals (refine' hret' _ _ _ _ _ _ _ _ _ _ _ _ _ _ ?_ ?_ ?_ ?_ ?_ ?_ ?_; rotate_right 1; exact em_pickF (by assumption); exact bnd_glue _ _ _; (first | exact em_relN (by assumption) | exact em_relI (by assumption) (by assumption) (by assumption)); (first | exact em_relN (by assumption) | exact em_relI (by assumption) (by assumption) (by assumption)); exact TabSt.made _ _ _ _ (by assumption) (by assumption); exact em_off2 hoff (by k_all); k_asm)
  | made c oc vs t hd hv =>
    simp only [List.map_cons, List.map_nil] at hoff
    simp only [List.cons_append, List.nil_append] at N
    refine wpAny_call ?_
    k_dflt cell_enter
    k_steps
    all_goals (refine' hret' _ _ _ _ _ _ _ _ _ _ _ _ _ _ ?_ ?_ ?_ ?_ ?_ ?_ ?_; rotate_right 1; exact em_pickM (by assumption); exact bnd_glue _ _ _; (first | exact em_relN (by assumption) | exact em_relI (by assumption) (by assumption) (by assumption)); (first | exact em_relN (by assumption) | exact em_relI (by assumption) (by assumption) (by assumption)); exact TabSt.made _ _ _ _ hd hv; exact hoff; k_asm)
end Em
end
section
open PySem PySem.W PyProof.Rows PySem.Calls LCg
set_option maxRecDepth 100000
namespace Em
section
variable {prog : Program} {w : World} {A : Around} {E : Value → Shared → Prop} {s : Shared} {h₀ : Heap} {L : Addr} {m : Str → Option Value} {env : Env}
abbrev tupO (its : Array Value) (k : Nat) : Obj := { cls := .type "tuple", data := .seq its k }
/-- the source of a comprehension is a tuple of the ledger -/
def TupSrc (prog : Program) (w : World) (A : Around) (h₀ : Heap) (L : Addr) (m : Str → Option Value) (env : Env) (elt : Expr) (x : Str) (scope : Scope) (cl : List (Str × Addr)) (Fin : Shared → List Value → List (Addr × Obj) → Prop) (xv : Value) (s₁ : Shared) : Prop :=
  ∃ ax its k news, xv = .ref ax ∧ A.handled = none ∧ Fr h₀ L s₁.heap m ∧ News h₀ L s₁.heap news ∧ (ax, tupO its k) ∈ news ∧ its.size ≤ sizeLine ∧
    ∀ s₂ : Shared, (∃ h, s₂ = { s₁ with heap := h }) → CompRest prog w A h₀ L m env elt x scope cl s₂ (fun nw => (ax, tupO its k) ∈ nw) (fun i v => its[i]? = some v) (Fin s₂) its.size 0 [] news
theorem TupSrc.of {elt : Expr} {x : Str} {scope : Scope} {cl : List (Str × Addr)} {Fin : Shared → List Value → List (Addr × Obj) → Prop} {ax : Addr} {its : Array Value} {k : Nat} {news : List (Addr × Obj)} {s₁ : Shared}
    (hh : A.handled = none) (F : Fr h₀ L s₁.heap m) (N : News h₀ L s₁.heap news) (hm : (ax, tupO its k) ∈ news) (hsz : its.size ≤ sizeLine)
    (h : ∀ g, CompRest prog w A h₀ L m env elt x scope cl { s₁ with heap := g } (fun nw => (ax, tupO its k) ∈ nw) (fun i v => its[i]? = some v) (Fin { s₁ with heap := g }) its.size 0 [] news) :
    TupSrc prog w A h₀ L m env elt x scope cl Fin (.ref ax) s₁ := ⟨ax, its, k, news, rfl, hh, F, N, hm, hsz, fun _ ⟨g, e⟩ => e ▸ h g⟩
theorem comp_tup {elt iter : Expr} {x : Str} {px : Pos} {scope : Scope} {cl : List (Str × Addr)} {pos : Pos} {Q : Value → Shared → Prop} (F₀ : Fr h₀ L s.heap m)
    (hclos : closureFor scope env = pure cl) (hcell : ∀ y ∈ scope.names, y.2 ≠ .cell) (hkind : scope.kind = .function)
    (hnames : ∀ y ∈ scope.names, y.2 = .local → scope.names.lookup y.1 = some .local) (hx : scope.names.lookup x = some .local)
    (h : wpAny (model prog w) A (eval iter env) (TupSrc prog w A h₀ L m env elt x scope cl (fun s₂ => FinE h₀ L m s₂ Q)) E s)
    (hs : ∀ x, foldedSetIterable iter env x = pure x := by intro _; rfl) :
    wpAny (model prog w) A (eval (.ListComp elt [⟨.Name x px, iter, [], 0⟩] scope pos) env) Q E s := by
  rw [eval_ListComp]
  refine wpAny_comprehension_free (use := none) rfl hs hclos hkind hnames (wpAny_mono h (fun xv s₁ h₁ => ?_) fun _ _ e => e)
  obtain ⟨ax, its, k, news, rfl, hh, F, N, hm, hsz, R⟩ := h₁
  have at_ : ∀ (h : Heap) (nw : List (Addr × Obj)), News h₀ L h nw → (ax, tupO its k) ∈ nw → h.IsTuple ax its := fun h nw N' hm' => ⟨_, (N' _ hm').1, rfl, k, rfl⟩
  have hl := at_ _ _ N hm
  have hlt : ax < s₁.heap.objs.size := Heap.lt_size (N _ hm).1
  refine wpAny_pyIter_tuple hl ?_
  have up : ∀ b o, s₁.heap.get? b = some o → (s₁.heap.push { cls := .type "tuple_iterator", data := .fields #[.ref ax, .int 0 0] }).get? b = some o := fun b o e => Heap.get?_push_of_some _ e
  refine block_U (S := fun nw => (ax, tupO its k) ∈ nw) (Walks.tuple hh s₁.heap.objs.size ax (Nat.ne_of_lt hlt) its) hsz (fun i h st => by obtain ⟨o, e, _⟩ := st.1; exact ⟨o, e⟩)
    (fun i h h' o nw st e e' kp N' hm' => ⟨by obtain ⟨o', q, r⟩ := st.1; rw [e] at q; cases q; exact ⟨o, e', r⟩, at_ _ _ N' hm'⟩) hcell hkind hx ⟨⟨_, Heap.get?_push_size _ rfl, rfl, rfl⟩, hl.push _⟩ (fun b hb => ?_)
    (F.keeps up) (N.grown up) (Nat.ne_of_lt F.ns.lt) (next_is_new F) (fun p hp => Nat.ne_of_lt (Heap.lt_size (N p hp).1)) hm (R _ ⟨_, rfl⟩) ?_
  · show b < (s₁.heap.push _).objs.size
    rw [Heap.size_push]
    rcases List.mem_cons.mp hb with rfl | hb
    · exact Nat.lt_succ_self _
    · rw [List.mem_singleton.mp hb]; exact Nat.lt_succ_of_lt hlt
  · intro D C h tk m' ys news' F' N' o1 hn hC₀ hD₀ hCL hDL hCD offC fin
    refine ⟨m', hn, fun h'' hs'' => fin D h'' tk (F'.change hs'' hCL hC₀) (fun p hp => ?_) o1⟩
    refine ⟨hs''.extBut _ _ ?_ (N' p hp).1, (N' p hp).2⟩
    rcases List.mem_cons.mp hp with rfl | hp
    · exact Ne.symm hCD
    · exact offC p hp
end
end Em
end
section
open PySem PySem.W PyProof.Rows PySem.Calls
namespace Em
theorem em_drop2 {h₀ h : Heap} {L : Addr} {a b : Addr × Obj} {l : List (Addr × Obj)} (N : News h₀ L h (a :: b :: l)) : News h₀ L h l := fun p hp => N p (List.mem_cons_of_mem _ (List.mem_cons_of_mem _ hp))
theorem em_fmt {prog : Program} {w : World} {A : Around} {E : Value → Shared → Prop} {s : Shared} {v : Value} {z : Str} {Q : Value → Shared → Prop} (hv : EndRel v z true) (hn : v ≠ .none) (h : ∀ t k, Q (.str z t) { s with toks := k }) :
    wpAny (model prog w) A (formatField v Str.empty) Q E s := by
  generalize hb : true = b at hv
  cases hv with
  | none => exact absurd rfl hn
  | int n t a b => exact wpAny_formatField_int (shown (N := 2 ^ 1920) (by omega) (by omega) (Int.le_refl _)) (h _ _)
  | bool b => cases hb
  | str x t h => cases hb
  | bytes t => cases hb
local macro_rules | `(tactic| k_room) => `(tactic| ktr_room)
local macro_rules | `(tactic| k_mem) => `(tactic| ((show (_ : Addr × Obj) ∈ (_ : List (Addr × Obj))); ktr_member))
local macro_rules | `(tactic| k_units) => `(tactic| ktr_units)
local macro_rules | `(tactic| k_enter) => `(tactic| cell_enter)
local macro_rules | `(tactic| k_handed) => `(tactic| assumption)
local macro_rules | `(tactic| walk_at "compareOp Is") => `(tactic| (k_here; (with_reducible show wpAny _ _ (compareOp CmpOp.Is _ Value.none) _ _ _); refine em_isNone (EndRel.plainIs (by assumption)) (fun h9 => ?_) (fun h9 => ?_); (focus (subst h9))))
local macro_rules | `(tactic| walk_at "subscriptTail") => `(tactic| (k_here; (with_reducible show wpAny _ _ (subscriptTail _ _ (Value.str (bnd _) _) (Value.int 0 _)) _ _ _); (refine' em_b0 ?_ ?k1 ?k2; (case k1 => with_unfolding_all rfl); (case k2 => intro _; with_unfolding_all rfl); intro hb9)))
local macro_rules | `(tactic| walk_at "subscriptTail") => `(tactic| (k_here; (with_reducible show wpAny _ _ (subscriptTail _ _ (Value.str (bnd _) _) (Value.int 1 _)) _ _ _); (refine' em_b1 ?_ ?k1 ?k2; (case k1 => with_unfolding_all rfl); (case k2 => intro _; with_unfolding_all rfl); intro hb9)))
local macro_rules | `(tactic| walk_at "CompEnd") => `(tactic| ((refine' LCg.CompEnd.intro ?k1 ?k2 _ (fun p9 hp9 => hp9) ?k3 ?k4 ?_); (case k1 => assumption); (case k2 => assumption); (case k3 => first | assumption | (simp only [LCg.Off3, and_true]; assumption)); (case k4 => first | lcg_src | k_mem)))
local macro_rules | `(tactic| walk_at "eval ListComp") => `(tactic| (k_here; (with_reducible show wpAny _ _ (eval (Expr.ListComp _ [Comprehension.mk _ (Expr.Tuple _ _ _) _ _] _ _) _) _ _ _); k_dflt (refine comp_tup (F₀ := by k_asm) (by rfl) (by decide) (by rfl) (by decide) (by rfl) ?_)))
local macro_rules | `(tactic| walk_at "TupSrc") => `(tactic| (k_here; k_dflt (refine TupSrc.of (by rfl) (by k_asm) (by k_asm) (by k_mem) (by exact Nat.le_of_ble_eq_true rfl) ?_); intro g'; lcg_lit))
local macro_rules | `(tactic| walk_at "formatField") => `(tactic| (k_here; (with_reducible show wpAny _ _ (formatField _ PySem.Str.empty) _ _ _); refine em_fmt (by assumption) (by assumption) (fun t9 k9 => ?_)))
set_option maxRecDepth 100000 in
set_option maxHeartbeats 8000000 in
theorem sto_spec (w : World) (news : List (Addr × Obj)) (x d : Addr) (t₁ t₂ t₃ t₄ tb : Tok) (v₁ v₂ : Value) (z₁ z₂ : Str) (r : Int) (e : Bool) (n : Nat)
    (hv₁ : EndRel v₁ z₁ true) (hv₂ : EndRel v₂ z₂ true)
    (hm₁ : (x, instObj 51 d) ∈ news) (hm₂ : (d, rngDict w t₁ t₂ t₃ t₄ v₁ v₂ (.str (bnd r) tb) (.bool e) n) ∈ news)
    (p : Program) (loose : List Str) (mean : ExcName → Option Value) (mg mb : Str → Option Value) (dp un : Nat) (gd : Option (List Code)) (cn : Str) (cs : Scope) (a : Addr) (ccd : Value) (cl : List (Str × Addr)) (outer : List Env) (A₀ : Around) (base h₀ : Heap) (L : Addr) (m : Str → Option Value) (s : Shared) (Q E : Value → Shared → Prop)
    (B : Below A₀ base outer h₀) (F : Fr h₀ L s.heap m) (X : (hd.heap_39 w.params).In h₀) (N : News h₀ L s.heap news) (Tp : Top p loose mean mg mb h₀) (hk : cs.kind = .function)
    (hdp : dp + 10 < recursionLimit) (hu : un + 300 < cLine)
    (hret : ∀ (tz : Tok) (h' : Heap) (tk' : Nat), Fr h₀ L h' m → News h₀ L h' news → Q (.str (if e then Str.ofString "empty" else due r z₁ z₂) tz) { s with heap := h', toks := tk' }) :
    wpAny (model Pr w) (ktrTop dp un gd cn cs L a ccd cl outer) (call (.type "str") [.ref x]) Q E s := by
  w_top off
  have hfill : hd.heap_39 w.params = hd.heap_39 w.params ∧ PySem.Challenge.rw_em5010_01 = PySem.Challenge.rw_em5010_01 := by (k_fill; exact ⟨rfl, rfl⟩)
  clear hfill
  have hMk9 := kstMark
  have hh₁ := hv₁.handed
  have hh₂ := hv₂.handed
  have hl₁ := hv₁.len
  have hl₂ := hv₂.len
  k_steps
  all_goals (first | exact em_one _ | (refine cb_retS hret ?_ (by k_asm) (by first | exact em_drop2 (by assumption) | k_asm)))
  · rename (_ = true) => h; subst h; rfl
  all_goals (rename (_ = false) => h; subst h; rw [if_neg (by decide), ← due_eq])
  · rw [(EndRel.ofNone hv₁).1, (EndRel.ofNone hv₂).1]
  · rw [(EndRel.ofNone hv₁).1]
  · rw [(EndRel.ofNone hv₂).1]
end Em
end
section
open PySem PySem.W PyProof.Rows PySem.Calls
namespace Em
/-- what a turn owes: the library's TbPost under a name of my own, so that the walk stops at it -/
def TurnPosts (h₀ : Heap) (L : Addr) (J : (Str → Option Value) → List (Addr × Obj) → Prop) (own : List (Addr × Obj)) (s₁ : Shared) (Q : Flow → Shared → Prop) (f : Flow) (s₂ : Shared) : Prop := TbPost h₀ L J own s₁ Q f s₂
theorem em_tbOff {own nx : List (Addr × Obj)} (h : OwnOff own (nx.map (·.1))) : TbOff own nx := fun p hp q hq => h p hp q.1 (List.mem_map_of_mem hq)
theorem em_offTb {own nx : List (Addr × Obj)} (h : TbOff own nx) : OwnOff own (nx.map (·.1)) := by
  intro p hp b hb
  rw [List.mem_map] at hb
  obtain ⟨q, hq, e⟩ := hb
  exact e ▸ h p hp q hq
theorem em_at {i n : Nat} {k : Int} (h : (rangeKs 0 n)[i]? = some k) : i < n ∧ k = (i : Int) := by
  unfold rangeKs at h
  rw [List.getElem?_map] at h
  by_cases hi : i < n
  · rw [List.getElem?_range hi] at h
    simp at h
    exact ⟨hi, h.symm⟩
  · rw [List.getElem?_eq_none (by simp; omega)] at h
    cases h
/-- the library's rule for a for over a range whose ledger may grow, at range(n) -/
theorem em_range {prog : Program} {w : World} {A : Around} {E : Value → Shared → Prop} {s : Shared} {env : Env} {h₀ : Heap} {x : Str} {body : List Stmt} {Q : Flow → Shared → Prop}
    {r : Addr} {b : Int} {t₀ u₀ v₀ : Tok} {n : Nat} {m₀ : Str → Option Value} {news : List (Addr × Obj)} (J : Nat → (Str → Option Value) → List (Addr × Obj) → Prop)
    (hh : A.handled = none) (hr : IsRange s.heap r 0 b 1 t₀ u₀ v₀) (hb : b = (n : Int)) (hn4 : n ≤ 1000) (F : Fr h₀ env.locals s.heap m₀) (N : News h₀ env.locals s.heap news) (hj : J 0 m₀ news)
    (turn : ∀ (i : Nat) t m₁ news₁ h tk own, i < n → OwnOff own (news₁.map (·.1)) → J i m₁ news₁ → Fr h₀ env.locals h (fun y => if y = x then some (.int ((i : Nat) : Int) t) else m₁ y) → News h₀ env.locals h (news₁ ++ own) →
      wpAny (model prog w) A (execs body env) (TurnPosts h₀ env.locals (J (i + 1)) own { s with heap := h, toks := tk } Q) E { s with heap := h, toks := tk })
    (done : ∀ m₁ news₁ h tk, J n m₁ news₁ → Fr h₀ env.locals h m₁ → News h₀ env.locals h news₁ → Q .next { s with heap := h, toks := tk }) :
    wpAny (model prog w) A (pyIter (.ref r)) (fun it s₂ => LoopAtV prog w A h₀ env x body Q E it s₂) E s := by
  subst hb
  refine tbr_invG J hh hr (small_one (by omega) (by omega) (by omega) (by omega)) (by rw [rangeSize_nat]; omega) F N hj (fun i k t m₁ nx h tk own hk hoff hJ F₁ N₁ => ?_) done
  obtain ⟨hi, rfl⟩ := em_at hk
  exact turn i t m₁ nx h tk own hi (em_offTb hoff) hJ F₁ N₁
end Em
end
section
open PySem PySem.W PyProof.Rows PySem.Calls
namespace Em
/-- what holds between the turns of the law's loop -/
def EmJ (st lst : Addr) (vs : List Value) (nL nS : Nat) (x : Str) (m₀ : Str → Option Value) (i : Nat) (m : Str → Option Value) (nx : List (Addr × Obj)) : Prop :=
  ∃ (c : Int) (tc : Tok) (T : List (Addr × Obj)), nx = (st, stObj lst c tc nS) :: (lst, listOf vs.toArray nL) :: T ∧ TabSt T ∧ OwnOff T [st, lst] ∧ 0 ≤ c ∧ c ≤ 1 + 10 * (i : Int) ∧ ∀ z, z ≠ x → lawStored.contains z = false → m z = m₀ z
theorem off_sub {l l' : List (Addr × Obj)} {a a' : List Addr} (h : OwnOff l a) (h1 : ∀ p ∈ l', p ∈ l) (h2 : ∀ b ∈ a', b ∈ a) : OwnOff l' a' := fun p hp b hb => h p (h1 p hp) b (h2 b hb)
theorem off_app {l l' : List (Addr × Obj)} {a : List Addr} (h : OwnOff l a) (h' : OwnOff l' a) : OwnOff (l ++ l') a := fun p hp b hb => (List.mem_append.mp hp).elim (fun q => h p q b hb) fun q => h' p q b hb
theorem off_swap {T own : List (Addr × Obj)} (h : OwnOff own (T.map (·.1))) : OwnOff T (own.map (·.1)) := fun p hp b hb => by
  obtain ⟨q, hq, rfl⟩ := List.mem_map.mp hb
  exact fun e => h q hq p.1 (List.mem_map.mpr ⟨p, hp, rfl⟩) e.symm
section
variable {prog : Program} {w : World} {A : Around} {E : Value → Shared → Prop} {s : Shared} {env : Env} {h₀ : Heap} {x : Str} {body : List Stmt} {Q : Flow → Shared → Prop}
theorem em_loop2 {lst st r : Addr} {vs : List Value} {nL nS : Nat} {c : Int} {tc : Tok} {b : Int} {t₀ u₀ v₀ : Tok} {m₀ : Str → Option Value}
    (hh : A.handled = none) (hr : IsRange s.heap r 0 b 1 t₀ u₀ v₀) (hb0 : 0 ≤ b) (hb : b ≤ 4) (F : Fr h₀ env.locals s.heap m₀) (N : News h₀ env.locals s.heap [(st, stObj lst c tc nS), (lst, listOf vs.toArray nL), (106, tabObj #[])]) (hc : c = 1)
    (h1 : (106 : Nat) ≠ st) (h2 : (106 : Nat) ≠ lst)
    (turn : Hold (∀ (c : Int) (tc : Tok) (T : List (Addr × Obj)) (i : Nat) t (u : Str → Option Value) h tk own, i < 4 → TabSt T → OwnOff T [st, lst] → OwnOff own [st, lst] → OwnOff own (T.map (·.1)) → OwnOff (T ++ own) [st] → 0 ≤ c → c ≤ 1 + 10 * (i : Int) →
      Fr h₀ env.locals h (fun y => if y = x then some (.int (i : Int) t) else if lawStored.contains y then u y else m₀ y) → News h₀ env.locals h ((st, stObj lst c tc nS) :: (lst, listOf vs.toArray nL) :: (T ++ own)) →
      wpAny (model prog w) A (execs body env) (TurnPosts h₀ env.locals (EmJ st lst vs nL nS x m₀ (i + 1)) own { s with heap := h, toks := tk } Q) E { s with heap := h, toks := tk }))
    (done : Hold (∀ (T : List (Addr × Obj)) (c : Int) (tc : Tok) (u : Str → Option Value) h tk, TabSt T → Fr h₀ env.locals h (fun y => if y = x then u y else if lawStored.contains y then u y else m₀ y) → News h₀ env.locals h ((st, stObj lst c tc nS) :: (lst, listOf vs.toArray nL) :: T) → Q .next { s with heap := h, toks := tk })) :
    wpAny (model prog w) A (pyIter (.ref r)) (fun it s₂ => LoopAtV prog w A h₀ env x body Q E it s₂) E s := by
  subst hc
  unfold Hold at turn done
  have hoff : OwnOff [(106, tabObj #[])] [st, lst] := fun p hp b hb => by
    rw [List.mem_singleton.mp hp]
    rcases List.mem_cons.mp hb with rfl | hb
    · exact h1
    · rw [List.mem_singleton.mp hb]; exact h2
  refine em_range (n := b.toNat) (EmJ st lst vs nL nS x m₀) hh hr (by omega) (by omega) F N ⟨1, tc, [(106, tabObj #[])], rfl, .fresh, hoff, by decide, by simp, fun _ _ _ => rfl⟩ ?_ ?_
  · rintro i t m₁ news₁ h tk own hi hown ⟨c, tc, T, rfl, hT, hO, hc0, hc1, hm⟩ F₁ N₁
    have ho1 : OwnOff own [st, lst] := off_sub hown (fun _ h => h) (fun b hb => by
      rcases List.mem_cons.mp hb with rfl | hb
      · exact List.mem_cons_self
      · rw [List.mem_singleton.mp hb]; exact List.mem_cons_of_mem _ List.mem_cons_self)
    have ho2 : OwnOff own (T.map (·.1)) := off_sub hown (fun _ h => h) (fun b hb => List.mem_cons_of_mem _ (List.mem_cons_of_mem _ hb))
    have ho3 : OwnOff (T ++ own) [st] := off_sub (off_app hO ho1) (fun _ h => h) (fun b hb => by rw [List.mem_singleton.mp hb]; exact List.mem_cons_self)
    exact turn c tc T i t m₁ h tk own (by omega) hT hO ho1 ho2 ho3 hc0 hc1 (kst_fr (ps := []) (fun _ h => nomatch h) (fun z hz _ hs => hm z hz hs) F₁) N₁
  · rintro m₁ news₁ h tk ⟨c, tc, T, rfl, hT, hO, hc0, hc1, hm⟩ F₁ N₁
    exact done T c tc m₁ h tk hT (kst_frOut (ps := []) (fun _ h => nomatch h) (fun z hz _ hs => hm z hz hs) F₁) N₁
/-- a turn's end -/
theorem em_turnEnd {L st lst : Addr} {vs : List Value} {nL nS i : Nat} {m₀ m' : Str → Option Value} {c : Int} {tc : Tok} {T' own all : List (Addr × Obj)} {s₁ : Shared} {h' : Heap} {tk' : Nat}
    (F : Fr h₀ L h' m') (N : News h₀ L h' all) (h1 : ∀ p ∈ (st, stObj lst c tc nS) :: (lst, listOf vs.toArray nL) :: (T' ++ own), p ∈ all) (hT : TabSt T') (hO : OwnOff T' [st, lst]) (hw : OwnOff own [st, lst]) (hw' : OwnOff own (T'.map (·.1))) (hc0 : 0 ≤ c) (hc : c ≤ 1 + 10 * ((i + 1 : Nat) : Int))
    (hm : ∀ z, z ≠ x → lawStored.contains z = false → m' z = m₀ z) :
    TurnPosts h₀ L (EmJ st lst vs nL nS x m₀ (i + 1)) own s₁ Q .next { s₁ with heap := h', toks := tk' } :=
  ⟨h', tk', m', all, (st, stObj lst c tc nS) :: (lst, listOf vs.toArray nL) :: T', rfl, F, N, fun p hp => h1 p (by
      rcases List.mem_cons.mp hp with rfl | hp
      · exact List.mem_cons_self
      · rcases List.mem_cons.mp hp with rfl | hp
        · exact List.mem_cons_of_mem _ List.mem_cons_self
        · exact List.mem_cons_of_mem _ (List.mem_cons_of_mem _ (List.mem_append.mpr (.inl hp)))),
    fun p hp => h1 p (List.mem_cons_of_mem _ (List.mem_cons_of_mem _ (List.mem_append.mpr (.inr hp)))), em_tbOff (fun p hp b hb => by
      rcases List.mem_cons.mp hb with rfl | hb
      · exact hw p hp _ List.mem_cons_self
      · rcases List.mem_cons.mp hb with rfl | hb
        · exact hw p hp _ (List.mem_cons_of_mem _ List.mem_cons_self)
        · exact hw' p hp b hb), c, tc, T', rfl, hT, hO, hc0, hc, hm⟩
end
theorem em_perm6 {h₀ h : Heap} {L : Addr} {a b c d e f : Addr × Obj} {T own : List (Addr × Obj)} (N : News h₀ L h (a :: b :: c :: d :: e :: f :: (T ++ own))) : News h₀ L h (T ++ (a :: b :: c :: d :: e :: f :: own)) := fun p hp => N p (by
  simp only [List.mem_append, List.mem_cons] at hp ⊢
  rcases hp with h | h | h | h | h | h | h | h <;> simp [h])
theorem em_perm8 {h₀ h : Heap} {L : Addr} {x y a b c d e f : Addr × Obj} {T own : List (Addr × Obj)} (N : News h₀ L h (x :: y :: (T ++ (a :: b :: c :: d :: e :: f :: own)))) : News h₀ L h (x :: y :: a :: b :: c :: d :: e :: f :: (T ++ own)) := fun p hp => N p (by
  simp only [List.mem_append, List.mem_cons] at hp ⊢
  rcases hp with h | h | h | h | h | h | h | h | h | h <;> simp [h])
theorem lt_of_app {d : Addr} {T own : List (Addr × Obj)} (h : AllLt d (T ++ own)) : ∀ p ∈ T, @LT.lt Nat _ p.1 d := fun p hp => kst_ltOf h p (List.mem_append.mpr (.inl hp))
theorem em_off6 {T own : List (Addr × Obj)} {x d st lst x₂ x₁ : Addr} {o1 o2 o3 o4 o5 o6 : Obj} (l2 : @LT.lt Nat _ d x) (lD : @LT.lt Nat _ st d ∧ @LT.lt Nat _ lst d ∧ @LT.lt Nat _ x₂ d ∧ @LT.lt Nat _ x₁ d ∧ AllLt d (T ++ own))
    (lB : @LT.lt Nat _ st x₂ ∧ @LT.lt Nat _ lst x₂ ∧ @LT.lt Nat _ x₁ x₂ ∧ AllLt x₂ (T ++ own)) (lA : @LT.lt Nat _ st x₁ ∧ @LT.lt Nat _ lst x₁ ∧ AllLt x₁ (T ++ own)) (hO : OwnOff T [st, lst]) (ho : OwnOff own (T.map (·.1))) :
    OwnOff ((x, o1) :: (d, o2) :: (st, o3) :: (lst, o4) :: (x₂, o5) :: (x₁, o6) :: own) (T.map (·.1)) := by
  intro p hp b hb
  obtain ⟨q, hq, rfl⟩ := List.mem_map.mp hb
  rcases List.mem_cons.mp hp with rfl | hp
  · exact Nat.ne_of_gt (Nat.lt_trans (lt_of_app lD.2.2.2.2 q hq) l2)
  rcases List.mem_cons.mp hp with rfl | hp
  · exact Nat.ne_of_gt (lt_of_app lD.2.2.2.2 q hq)
  rcases List.mem_cons.mp hp with rfl | hp
  · exact fun e => hO q hq _ List.mem_cons_self e.symm
  rcases List.mem_cons.mp hp with rfl | hp
  · exact fun e => hO q hq _ (List.mem_cons_of_mem _ List.mem_cons_self) e.symm
  rcases List.mem_cons.mp hp with rfl | hp
  · exact Nat.ne_of_gt (lt_of_app lB.2.2.2 q hq)
  rcases List.mem_cons.mp hp with rfl | hp
  · exact Nat.ne_of_gt (lt_of_app lA.2.2 q hq)
  exact ho p hp _ hb
/-- what the six entries' lying off the table says of the state -/
theorem em_offT {T own : List (Addr × Obj)} {a b e f : Addr × Obj} {st lst : Addr} {o3 o4 : Obj} (h : OwnOff (a :: b :: (st, o3) :: (lst, o4) :: e :: f :: own) (T.map (·.1))) : OwnOff T [st, lst] ∧ OwnOff own (T.map (·.1)) := by
  refine ⟨fun p hp c hc => ?_, off_sub h (fun p hp => by simp [hp]) fun _ hb => hb⟩
  have hb : p.1 ∈ T.map (·.1) := List.mem_map.mpr ⟨p, hp, rfl⟩
  rcases List.mem_cons.mp hc with rfl | hc
  · exact fun e => h (_, o3) (by simp) p.1 hb e.symm
  · rw [List.mem_singleton.mp hc]
    exact fun e => h (lst, o4) (by simp) p.1 hb e.symm
end Em
end
section
open PySem PySem.W PyProof.Rows PySem.Calls
namespace Em
theorem EndRel.plain {v : Value} {z : Str} {b : Bool} (h : EndRel v z b) (e : b = true) : EndRel v z true := e ▸ h
/-- the same end, made anew -/
def Same (v v' : Value) (z : Str) : Prop := (v = .none ∧ v' = .none ∧ z = Str.ofString "") ∨ ∃ n t t', v = .int n t ∧ v' = .int n t'
theorem em_pair {v v' : Value} {z : Str} (h : EndRel v z true) (h' : EndRel v' z true) : Same v v' z := by
  generalize hb : true = b at h
  cases h with
  | none =>
    generalize hz : Str.ofString "" = z at h'
    generalize hb' : true = b' at h'
    cases h' with
    | none => exact .inl ⟨rfl, rfl, rfl⟩
    | int n t a b => exact absurd hz (fun e => by have := num_ne n; rw [← e] at this; simp at this)
    | bool b => cases hb'
    | str x t h => cases hb'
    | bytes t => cases hb'
  | int n t a b =>
    generalize hz : Str.ofString (toString n) = z at h'
    generalize hb' : true = b' at h'
    cases h' with
    | none => exact absurd hz (fun e => by have := num_ne n; rw [e] at this; simp at this)
    | int n' t' a' b' =>
      have e1 := num_reads n a b
      have e2 := num_reads n' a' b'
      rw [hz, e2] at e1
      have e3 := Option.some.inj e1
      subst e3
      exact .inr ⟨_, _, _, rfl, rfl⟩
    | bool b => cases hb'
    | str x t h => cases hb'
    | bytes t => cases hb'
  | bool b => cases hb
  | str x t h => cases hb
  | bytes t => cases hb
section
variable {w : World} {p : Program} {loose : List Str} {mean : ExcName → Option Value} {mg mb : Str → Option Value} {dp un : Nat} {gd : Option (List Code)} {cn : Str} {cs : Scope} {a : Addr} {ccd : Value} {cl : List (Str × Addr)} {outer : List Env} {A₀ : Around} {base h₀ : Heap} {L : Addr} {m : Str → Option Value} {s : Shared} {Q E : Value → Shared → Prop} {T rest : List (Addr × Obj)} {td : Tok}
theorem em_rinE (N : News h₀ L s.heap (T ++ rest)) (hT : TabSt T) (hoff : OwnOff rest (T.map (·.1))) (C : CodeHd base 110 106)
    (B : Below A₀ base outer h₀) (F : Fr h₀ L s.heap m) (X : (hd.heap_39 w.params).In h₀) (Tp : Top p loose mean mg mb h₀) (hk : cs.kind = .function)
    (hdp : dp + 20 < recursionLimit) (hu : un + 400 < cLine)
    (hret : ∀ (x d : Addr) (t₁ t₂ t₃ t₄ tb : Tok) (n : Nat) (T' : List (Addr × Obj)) (h' : Heap) (tk' : Nat), TabSt T' → OwnOff rest (T'.map (·.1)) → Fr h₀ L h' m →
        News h₀ L h' ((x, instObj 51 d) :: (d, rngDict w t₁ t₂ t₃ t₄ .none .none (.str (Str.ofString "[)") tb) (.bool true) n) :: (T' ++ rest)) → Q (.ref x) { s with heap := h', toks := tk' }) :
    wpAny (model Pr w) (ktrTop dp un gd cn cs L a ccd cl outer) (call (.ref 118) [.str (Str.ofString "empty") td]) Q E s :=
  rin_empty w T rest td hT hoff p loose mean mg mb dp un gd cn cs a ccd cl outer A₀ base h₀ L m s Q E C B F X N Tp hk hdp hu hret
theorem em_rinD {r : Int} {v₁ v₂ : Value} {z₁ z₂ : Str} {b₁ b₂ : Bool} (N : News h₀ L s.heap (T ++ rest)) (hT : TabSt T) (hoff : OwnOff rest (T.map (·.1))) (C : CodeHd base 110 106)
    (hv₁ : EndRel v₁ z₁ b₁) (hv₂ : EndRel v₂ z₂ b₂) (hb₁ : b₁ = true) (hb₂ : b₂ = true)
    (B : Below A₀ base outer h₀) (F : Fr h₀ L s.heap m) (X : (hd.heap_39 w.params).In h₀) (Tp : Top p loose mean mg mb h₀) (hk : cs.kind = .function)
    (hdp : dp + 20 < recursionLimit) (hu : un + 400 < cLine)
    (hret : ∀ (x d : Addr) (v₁' v₂' : Value) (t₁ t₂ t₃ t₄ tb : Tok) (n : Nat) (T' : List (Addr × Obj)) (h' : Heap) (tk' : Nat), Same v₁ v₁' z₁ → Same v₂ v₂' z₂ → TabSt T' → OwnOff rest (T'.map (·.1)) → Fr h₀ L h' m →
        News h₀ L h' ((x, instObj 51 d) :: (d, rngDict w t₁ t₂ t₃ t₄ v₁' v₂' (.str (bnd r) tb) (.bool false) n) :: (T' ++ rest)) → Q (.ref x) { s with heap := h', toks := tk' }) :
    wpAny (model Pr w) (ktrTop dp un gd cn cs L a ccd cl outer) (call (.ref 118) [.str (due r z₁ z₂) td]) Q E s :=
  rin_due w T rest td r v₁ v₂ z₁ z₂ (hv₁.plain hb₁) (hv₂.plain hb₂) hv₁.len hv₂.len hT hoff p loose mean mg mb dp un gd cn cs a ccd cl outer A₀ base h₀ L m s Q E C B F X N Tp hk hdp hu
    fun x d v₁' v₂' t₁ t₂ t₃ t₄ tb n T' h' tk' e₁ e₂ => hret x d v₁' v₂' t₁ t₂ t₃ t₄ tb n T' h' tk' (em_pair (hv₁.plain hb₁) e₁) (em_pair (hv₂.plain hb₂) e₂)
theorem em_sto {news : List (Addr × Obj)} {x d : Addr} {t₁ t₂ t₃ t₄ tb : Tok} {v₁ v₂ : Value} {z₁ z₂ : Str} {b₁ b₂ : Bool} {r : Int} {e : Bool} {n : Nat} (N : News h₀ L s.heap news)
    (hm₁ : (x, instObj 51 d) ∈ news) (hm₂ : (d, rngDict w t₁ t₂ t₃ t₄ v₁ v₂ (.str (bnd r) tb) (.bool e) n) ∈ news)
    (hv₁ : EndRel v₁ z₁ b₁) (hv₂ : EndRel v₂ z₂ b₂) (hb₁ : b₁ = true) (hb₂ : b₂ = true)
    (B : Below A₀ base outer h₀) (F : Fr h₀ L s.heap m) (X : (hd.heap_39 w.params).In h₀) (Tp : Top p loose mean mg mb h₀) (hk : cs.kind = .function)
    (hdp : dp + 10 < recursionLimit) (hu : un + 300 < cLine)
    (hret : ∀ (tz : Tok) (h' : Heap) (tk' : Nat), Fr h₀ L h' m → News h₀ L h' news → Q (.str (if e then Str.ofString "empty" else due r z₁ z₂) tz) { s with heap := h', toks := tk' }) :
    wpAny (model Pr w) (ktrTop dp un gd cn cs L a ccd cl outer) (call (.type "str") [.ref x]) Q E s :=
  sto_spec w news x d t₁ t₂ t₃ t₄ tb v₁ v₂ z₁ z₂ r e n (hv₁.plain hb₁) (hv₂.plain hb₂) hm₁ hm₂ p loose mean mg mb dp un gd cn cs a ccd cl outer A₀ base h₀ L m s Q E B F X N Tp hk hdp hu hret
end
theorem em_neSame {prog : Program} {w : World} {A : Around} {E : Value → Shared → Prop} {s : Shared} {Q : Value → Shared → Prop} {x y : Str} {t u : Tok} (e : x = y) (h : Q (.bool false) s) : wpAny (model prog w) A (compareOp .NotEq (.str x t) (.str y u)) Q E s :=
  PyProof.Rows.ne_str (by subst e; simpa using h)
end Em
end
section
open PySem PySem.W PyProof.Rows PySem.Calls
set_option maxRecDepth 100000
namespace Em
section
variable {prog : Program} {w : World} {A : Around} {E : Value → Shared → Prop} {s : Shared} {K : Frag} {x C L f : Addr} {h₀ : Heap} {m : Str → Option Value} {ox : Obj} {od : Option Obj} {b tb : Value}
theorem ifBound_ne {M : Model} {args : List Value} {Q : Option Value → Shared → Prop} (X : K.In s.heap) (I : InstAt s.heap x ox C od) (hs : findIn K (.ref C) "__ne__" = some (some (.builtin "object.__ne__")))
    (h : wpAny M A (call (.builtin "object.__ne__") (.ref x :: args)) (fun v => Q (some v)) E s) : wpAny M A (callSpecialIfBound? (.ref x) "__ne__" args) Q E s := by
  simp only [callSpecialIfBound?, bindSpecialIfBound?]
  refine wpAny_holding (wpAny_bind (wpAny_bind (wpAny_bind (I.type.here ((looks_findIn X hs).here ?_)))))
  refine wpAny_bind (wpAny_askSetting (wpAny_ite ?_))
  have fin : wpAny M A (call (.builtin "object.__ne__") ([.ref x] ++ args) >>= fun v => pure (some v)) Q E s := wpAny_bind (wpAny_mono h (fun v s' h' => wpAny_pure h') fun _ _ h' => h')
  dsimp only
  rw [PySem.F.cmp_object.ne.bind]
  split
  · exact wpAny_bind (wpAny_pure (wpAny_pure (by exact fin)))
  · exact wpAny_tryCatch (wpAny_bind (wpAny_pure (wpAny_pure (by exact fin))))
/-- what object.__ne__ makes of the answer -/
def NeBack (Q : Value → Shared → Prop) (v : Value) (s' : Shared) : Prop := match v with
  | .bool c => Q (.bool (!c)) s'
  | _ => False
theorem em_neK {Q : Value → Shared → Prop} (hu : A.units + 1 < cLine) (F : Fr h₀ L s.heap m) (X₀ : K.In h₀) (I : InstAt s.heap x ox C od) (hb : Looks (model prog w) s.heap (typeOf b) tb) (hn : notFirst K C tb = true)
    (hne : findIn K (.ref C) "__ne__" = some (some (.builtin "object.__ne__"))) (hs : findIn K (.ref C) "__eq__" = some (some (.ref f))) (hf : isFn K (.ref f) = true) (hobj : subIn K (.ref C) (.type "object") = some true)
    (h : wpAny (model prog w) A.in1 (call (.ref f) [.ref x, b]) (NeBack Q) E s) : wpAny (model prog w) A (compareOp .NotEq (.ref x) b) Q E s := by
  have X := X₀.keeps F.keep
  have one : wpAny (model prog w) A (tryCompare (.ref x) "__ne__" b) (fun r s' => ∃ c, r = some (.bool c) ∧ Q (.bool c) s') E s := by
    unfold tryCompare
    refine wpAny_bind (ifBound_ne X I hne (wpAny_call (codeAny_call_builtin PySem.F.cmp_object.ne.plain PySem.F.cmpEntry_ne ?_)))
    refine check_slot PySem.F.cmpKind_ne PySem.F.cmpSplit_ne (I.type.andThen (looks_subIn X hobj)) (PySem.F.cmpArgs_ne _ _) ?_
    unfold Builtin.«object.__ne__»
    have sl : slotArgs "__ne__" 1 { pos := [Value.ref x, b], kw := [] } = pure (Value.ref x, [b]) := rfl
    refine wpAny_bind (wpAny_of_eq sl ?_)
    dsimp only
    refine wpAny_bind (wpAny_cRoomFor (A := A.in1) (by exact hu) ?_)
    refine wpAny_bind (m := callSpecialIfBound? (.ref x) (Str.ofString "__eq__") [b]) (ifBound_K X I hs hf (wpAny_mono h (fun r s' hr => ?_) fun _ _ e => e))
    cases r with
    | bool c => ?_
    | _ => exact False.elim hr
    have hq : Q (.bool (!c)) s' := hr
    refine wpAny_bind (m := truthy (.bool _)) (wpAny_truthy_bool ?_)
    exact wpAny_pure (wpAny_pure ⟨_, rfl, hq⟩)
  show wpAny _ _ (richCompare .NotEq (.ref x) b) _ _ _
  unfold richCompare
  simp only [oneThing_ref]
  refine wpAny_holding (wpAny_bind (wpAny_cRoomFor (Nat.lt_of_succ_lt hu) ?_))
  refine wpAny_bind (I.type.here (wpAny_bind (hb.here ?_)))
  split
  · rename_i q
    have e : subIn K tb (.ref C) = some false := by
      rcases Bool.or_eq_true_iff.mp hn with e | e
      · rw [beq_iff_eq.mp e] at q; simp at q
      · exact beq_iff_eq.mp e
    refine wpAny_bind ((looks_subIn X e).here ?_)
    simp only [Bool.false_eq_true, if_false]
    refine wpAny_bind (wpAny_mono one (fun r s' z => ?_) fun _ _ e => e)
    obtain ⟨v, rfl, hq⟩ := z
    exact wpAny_pure hq
  · refine wpAny_bind (wpAny_pure ?_)
    simp only [Bool.false_eq_true, if_false]
    refine wpAny_bind (wpAny_mono one (fun r s' z => ?_) fun _ _ e => e)
    obtain ⟨v, rfl, hq⟩ := z
    exact wpAny_pure hq
theorem em_eqStr {x y : Str} {t u : Tok} {Q : Value → Shared → Prop} (e : x = y) (h : Q (.bool true) s) : wpAny (model prog w) A (compareOp .Eq (.str x t) (.str y u)) Q E s :=
  PyProof.Rows.eq_str (by subst e; simpa using h)
theorem em_eqInt {n : Int} {t u : Tok} {Q : Value → Shared → Prop} (h : Q (.bool true) s) : wpAny (model prog w) A (compareOp .Eq (.int n t) (.int n u)) Q E s :=
  PyProof.Rows.eq_int (by simpa using h)
theorem em_truthyT {r : Int} {Q : Bool → Shared → Prop} (h : r = 1) (hq : Q true s) : wpAny (model prog w) A (truthy (.bool (r == 1))) Q E s := by
  subst h; exact wpAny_truthy_bool hq
theorem em_truthyF {r : Int} {Q : Bool → Shared → Prop} (h : r ≠ 1) (hq : Q false s) : wpAny (model prog w) A (truthy (.bool (r == 1))) Q E s := by
  rw [beq_eq_false_iff_ne.mpr h]; exact wpAny_truthy_bool hq
theorem em_truthyN {r : Int} {Q : Bool → Shared → Prop} (h : r = 1) (hq : Q false s) : wpAny (model prog w) A (truthy (.bool (!(true == (r == 1))))) Q E s := by
  subst h; exact wpAny_truthy_bool hq
theorem em_truthyB {b : Bool} {Q : Bool → Shared → Prop} (h : b = true) (hq : Q true s) : wpAny (model prog w) A (truthy (.bool b)) Q E s := by
  subst h; exact wpAny_truthy_bool hq
theorem em_c1 {r : Int} (h : r = 1) : (r == 1) = true := beq_iff_eq.mpr h
theorem em_c0 {r : Int} (h : r ≠ 1) : ¬ (r == 1) = true := fun e => h (beq_iff_eq.mp e)
theorem due_def (r : Int) (a b : Str) : due r a b = bndL r ++ a ++ Str.ofString "," ++ b ++ bndR r := rfl
theorem bnd_ok (r : Int) : PyData.strOk (bnd r) = true := by
  unfold bnd
  split
  · decide +kernel
  · split
    · decide +kernel
    · split <;> decide +kernel
/-- nothing or an int -/
def Plain (d : PyData) : Prop := d = .none ∨ ∃ n, d = .int n
theorem em_tupNe {a b : Addr} {d₁ d₂ : PyData} {r : Int} {as bs : List Addr} {Q : Value → Shared → Prop} (ra : Reads s.heap (.ref a) (.tuple [d₁, d₂, .str (bnd r), .bool false]) as) (rb : Reads s.heap (.ref b) (.tuple [d₁, d₂, .str (bnd r), .bool false]) bs)
    (h1 : Plain d₁) (h2 : Plain d₂) (hu : A.units + 64 < cLine) (h : Q (.bool false) s) : wpAny (model prog w) A (compareOp .NotEq (.ref a) (.ref b)) Q E s := by
  have hs : SeqAt.shaped (.tuple [d₁, d₂, .str (bnd r), .bool false]) = true := by
    rcases h1 with rfl | ⟨n, rfl⟩ <;> rcases h2 with rfl | ⟨k, rfl⟩ <;> simp [SeqAt.shaped, PyData.canLay0, PyData.canLayAll0, PyData.depth, PyData.depthAll, bnd_ok]
  have he : PyData.eqv (.tuple [d₁, d₂, .str (bnd r), .bool false]) (.tuple [d₁, d₂, .str (bnd r), .bool false]) = true := by
    rcases h1 with rfl | ⟨n, rfl⟩ <;> rcases h2 with rfl | ⟨k, rfl⟩ <;> simp [PyData.eqv, PyData.eqvAll]
  exact ne_dataH ra rb hs hs hu (by rw [he]; exact h)
theorem Same.data {v v' : Value} {z : Str} (h : Same v v' z) (hh : Heap) : ∃ d, Plain d ∧ Reads hh v d [] ∧ Reads hh v' d [] := by
  rcases h with ⟨rfl, rfl, _⟩ | ⟨n, t, t', rfl, rfl⟩
  · exact ⟨.none, .inl rfl, Reads.none, Reads.none⟩
  · exact ⟨.int n, .inr ⟨n, rfl⟩, Reads.int _ _, Reads.int _ _⟩
theorem same_int {n : Int} {t t' : Tok} : ∃ z, Same (.int n t) (.int n t') z := ⟨Str.empty, .inr ⟨n, t, t', rfl, rfl⟩⟩
theorem same_none : ∃ z, Same .none .none z := ⟨_, .inl ⟨rfl, rfl, rfl⟩⟩
/-- two tuples of the ledger that hold the same four things -/
theorem em_tupNe2 {a b : Addr} {news : List (Addr × Obj)} {x₁ x₂ y₁ y₂ : Value} {r : Int} {t t' : Tok} {k k' : Nat} {Q : Value → Shared → Prop} (N : News h₀ L s.heap news)
    (ma : (a, (⟨.type "tuple", none, .seq #[x₁, x₂, .str (bnd r) t, .bool false] k, #[]⟩ : Obj)) ∈ news) (mb : (b, (⟨.type "tuple", none, .seq #[y₁, y₂, .str (bnd r) t', .bool false] k', #[]⟩ : Obj)) ∈ news)
    (h1 : ∃ z, Same y₁ x₁ z) (h2 : ∃ z, Same y₂ x₂ z) (hu : A.units + 64 < cLine) (h : Q (.bool false) s) : wpAny (model prog w) A (compareOp .NotEq (.ref a) (.ref b)) Q E s := by
  obtain ⟨_, h1⟩ := h1
  obtain ⟨_, h2⟩ := h2
  obtain ⟨d₁, p1, r1, r1'⟩ := h1.data s.heap
  obtain ⟨d₂, p2, r2, r2'⟩ := h2.data s.heap
  exact em_tupNe (reads_tuple_at (N.get ma) rfl rfl (.cons r1' (.cons r2' (.cons (Reads.str _ _) (.cons (Reads.bool _) .nil))))) (reads_tuple_at (N.get mb) rfl rfl (.cons r1 (.cons r2 (.cons (Reads.str _ _) (.cons (Reads.bool _) .nil))))) p1 p2 hu h
end
section
variable {h₀ h' : Heap} {L st lst : Addr} {vs : List Value} {nL nS i : Nat} {x : Str} {m₀ m' : Str → Option Value} {c : Int} {tc : Tok} {T' own : List (Addr × Obj)} {s₁ : Shared} {tk' : Nat} {Q : Flow → Shared → Prop} {a1 a2 a3 a4 a5 a6 e f : Addr × Obj}
theorem em_endA (N : News h₀ L h' (a1 :: a2 :: (st, stObj lst c tc nS) :: (lst, listOf vs.toArray nL) :: e :: f :: (T' ++ own))) (F : Fr h₀ L h' m') (hT : TabSt T') (hO : OwnOff T' [st, lst]) (hw : OwnOff own [st, lst]) (hw' : OwnOff own (T'.map (·.1))) (hc0 : 0 ≤ c) (hc : c ≤ 1 + 10 * ((i + 1 : Nat) : Int))
    (hm : ∀ z, z ≠ x → lawStored.contains z = false → m' z = m₀ z) :
    TurnPosts h₀ L (EmJ st lst vs nL nS x m₀ (i + 1)) own s₁ Q .next { s₁ with heap := h', toks := tk' } :=
  em_turnEnd (tc := tc) (T' := T') F N (fun p hp => by
    simp only [List.mem_cons] at hp ⊢
    rcases hp with h | h | h <;> simp [h]) hT hO hw hw' hc0 hc hm
theorem em_endB (N : News h₀ L h' (a1 :: a2 :: a3 :: a4 :: a5 :: a6 :: (st, stObj lst c tc nS) :: (lst, listOf vs.toArray nL) :: e :: f :: (T' ++ own))) (F : Fr h₀ L h' m') (hT : TabSt T') (hO : OwnOff T' [st, lst]) (hw : OwnOff own [st, lst]) (hw' : OwnOff own (T'.map (·.1))) (hc0 : 0 ≤ c) (hc : c ≤ 1 + 10 * ((i + 1 : Nat) : Int))
    (hm : ∀ z, z ≠ x → lawStored.contains z = false → m' z = m₀ z) :
    TurnPosts h₀ L (EmJ st lst vs nL nS x m₀ (i + 1)) own s₁ Q .next { s₁ with heap := h', toks := tk' } :=
  em_turnEnd (tc := tc) (T' := T') F N (fun p hp => by
    simp only [List.mem_cons] at hp ⊢
    rcases hp with h | h | h <;> simp [h]) hT hO hw hw' hc0 hc hm
end
end Em
end
section
open PySem PySem.W PyProof.Rows PySem.Calls
namespace Em
/-- the law's own parts, out of the given row -/
def lawDef : Option Stmt := PySem.Challenge.pw_em5010_01.main.body.getLast?
def lawBody : List Stmt := match lawDef with
  | some (.FunctionDef _ _ (_ :: .For _ _ b _ _ :: _) _ _ _ _ _ _ _) => b
  | _ => []
def lawScope : Scope := match lawDef with
  | some (.FunctionDef _ _ _ _ _ _ sc _ _ _) => sc
  | _ => default
local macro_rules | `(tactic| k_in) => `(tactic| (refine' Frag.In.keeps ?kx (Fr.keep ?kf); (case kf => with_reducible assumption); (case kx => with_reducible assumption)))
local macro_rules | `(tactic| k_room) => `(tactic| ktr_room)
local macro_rules | `(tactic| walk_at "call ref") => `(tactic| (k_here; (with_reducible show wpAny _ _ (call (Value.ref 151) [Value.ref _, Value.int _ _]) _ _ _); k_dflt (refine' em_next ?k1 ?k2 ?k3 ?k4 ?k5 ?k6 ?k7 ?k8 ?k9 ?k10 ?k11 ?k12 ?k13 ?k14 ?k15 ?k16 ?_; (case k1 => k_asm); (case k2 => k_asm); (case k3 => k_asm); (case k4 => k_asm); (case k5 => k_asm); (case k6 => first | exact rfl | assumption); (case k7 => assumption); (case k8 => omega); (case k9 => omega); (case k10 => omega); (case k11 => decide); (case k12 => decide); (case k13 => first | assumption | exact em_offOf (by k_all)); (case k14 => first | assumption | exact em_neOf (by first | assumption | omega)); (case k15 => ktr_room); (case k16 => ktr_units); k_whole; intro r9 tr9 tc9 h9 tk9 hr9 hs9 F9 N9; (try dsimp only); (try k_sweep); (try k_fold))))
local macro_rules | `(tactic| walk_at "call ref") => `(tactic| (k_here; (with_reducible show wpAny _ _ (call (Value.ref 158) [Value.ref _]) _ _ _); k_dflt (refine' em_end ?k1 ?k2 ?k3 ?k4 ?k5 ?k6 ?k7 ?k8 ?k9 ?k10 ?k13 ?k14 ?k15 ?k16 ?_; (case k1 => k_asm); (case k2 => k_asm); (case k3 => k_asm); (case k4 => k_asm); (case k5 => k_asm); (case k6 => first | exact rfl | assumption); (case k7 => assumption); (case k8 => omega); (case k9 => omega); (case k10 => omega); (case k13 => first | assumption | exact em_offOf (by k_all)); (case k14 => first | assumption | exact em_neOf (by first | assumption | omega)); (case k15 => ktr_room); (case k16 => ktr_units); k_whole; intro x9 v9 z9 tz9 b9 k9 c9 tc9 h9 tk9 hc9 hd9 he9 F9 hx9 N9; (try simp only [AllLt] at hx9); (have hzl9 := EndRel.len he9); (try dsimp only); (try k_sweep); (try k_fold))))
local macro_rules | `(tactic| walk_at "call ref") => `(tactic| (k_here; (with_reducible show wpAny _ _ (call (Value.ref 97) [Value.ref _]) _ _ _); k_dflt (refine' em_out ?ka ?kb ?k0 ?kn ?k1 ?k2 ?k3 ?k4 ?k5 ?k6 ?k15 ?k16 ?_; (case k4 => k_asm); (case ka => k_mem); (case kb => k_mem); (case k0 => assumption); (case kn => assumption); (case k1 => k_asm); (case k2 => k_asm); (case k3 => k_asm); (case k5 => k_asm); (case k6 => first | exact rfl | assumption); (case k15 => ktr_room); (case k16 => ktr_units); k_whole; intro tz9 h9 tk9 F9 N9; (try dsimp only); (try k_sweep); (try k_fold))))
local macro_rules | `(tactic| walk_at "call ref") => `(tactic| (k_here; (with_reducible show wpAny _ _ (call (Value.ref 143) [Value.ref 136, Value.ref _]) _ _ _); k_dflt (refine' em_mk ?ka ?kb ?k0 ?kn ?k1 ?k2 ?k3 ?k4 ?k5 ?k6 ?k15 ?k16 ?_; (case k4 => k_asm); (case ka => k_mem); (case kb => k_mem); (case k0 => assumption); (case kn => assumption); (case k1 => k_asm); (case k2 => k_asm); (case k3 => k_asm); (case k5 => k_asm); (case k6 => first | exact rfl | assumption); (case k15 => ktr_room); (case k16 => ktr_units); k_whole; intro tz9 h9 tk9 F9 N9; (try dsimp only); (try k_sweep); (try k_fold))))
local macro_rules | `(tactic| walk_at "call ref") => `(tactic| (k_here; (with_reducible show wpAny _ _ (call (Value.ref 118) [Value.str _ _]) _ _ _); k_dflt (refine' em_rinE ?kN ?kT ?kO ?kC ?k1 ?k2 ?k3 ?k5 ?k6 ?k15 ?k16 ?_; (case kN => exact em_perm6 (by k_asm)); (case kT => assumption); (case kO => exact em_off6 (by assumption) (by assumption) (by assumption) (by assumption) (by assumption) (by assumption)); (case k1 => k_asm); (case kC => assumption); (case k2 => k_asm); (case k3 => k_asm); (case k5 => k_asm); (case k6 => first | exact rfl | assumption); (case k15 => ktr_room); (case k16 => ktr_units); k_whole; intro x9 d9 ta9 tb9 tc9 td9 te9 n9 T9 h9 tk9 hT9 hO9 F9 N9; (obtain ⟨hP9, hR9⟩ := em_offT hO9); (replace N9 := em_perm8 N9); (try dsimp only); (try k_sweep); (try k_fold))))
local macro_rules | `(tactic| walk_at "call ref") => `(tactic| (k_here; (with_reducible show wpAny _ _ (call (Value.ref 118) [Value.str (_ ++ _) _]) _ _ _); k_dflt (refine' em_rinD ?kN ?kT ?kO ?kC ?ka ?kb ?kc ?kd ?k1 ?k2 ?k3 ?k5 ?k6 ?k15 ?k16 ?_; (case kN => exact em_perm6 (by k_asm)); (case kT => assumption); (case kO => exact em_off6 (by assumption) (by assumption) (by assumption) (by assumption) (by assumption) (by assumption)); (case k1 => k_asm); (case kC => assumption); (case ka => assumption); (case kb => assumption); (case kc => assumption); (case kd => assumption); (case k2 => k_asm); (case k3 => k_asm); (case k5 => k_asm); (case k6 => first | exact rfl | assumption); (case k15 => ktr_room); (case k16 => ktr_units); k_whole; intro x9 d9 va9 vb9 ta9 tb9 tc9 td9 te9 n9 T9 h9 tk9 hS9 hU9 hT9 hO9 F9 N9; (obtain ⟨hP9, hR9⟩ := em_offT hO9); (replace N9 := em_perm8 N9); (try dsimp only); (try k_sweep); (rcases hS9 with ⟨hA9, hB9, hY9⟩ | ⟨i9, s9, q9, hA9, hB9⟩) <;> (rcases hU9 with ⟨hC9, hD9, hZ9⟩ | ⟨j9, y9, e9, hC9, hD9⟩) <;> (subst hA9; subst hB9; subst hC9; subst hD9; (try subst hY9); (try subst hZ9); (try k_fold)))))
local macro_rules | `(tactic| walk_at "call type:str") => `(tactic| (k_here; (with_reducible show wpAny _ _ (call (Value.type "str") [Value.ref _]) _ _ _); k_dflt (refine' em_sto ?k4 ?ka ?kb ?kv ?kw ?kx ?ky ?k1 ?k2 ?k3 ?k5 ?k6 ?k15 ?k16 ?_; (case k4 => k_asm); (case ka => k_mem); (case kb => k_mem); (case kv => assumption); (case kw => assumption); (case kx => assumption); (case ky => assumption); (case k1 => k_asm); (case k2 => k_asm); (case k3 => k_asm); (case k5 => k_asm); (case k6 => first | exact rfl | assumption); (case k15 => ktr_room); (case k16 => ktr_units); k_whole; intro tz9 h9 tk9 F9 N9; (try dsimp only); (try k_sweep); (try k_fold))))
local macro_rules | `(tactic| walk_at "compareOp NotEq str str") => `(tactic| (k_here; (with_reducible show wpAny _ _ (compareOp CmpOp.NotEq (Value.str _ _) (Value.str _ _)) _ _ _); (refine' em_neSame ?e ?_; (case e => first | (rw [if_pos (em_c1 (by with_reducible assumption))]; done) | (rw [if_neg (em_c0 (by with_reducible assumption))]; exact due_def _ _ _)))))
local macro_rules | `(tactic| walk_at "subscriptTail") => `(tactic| (k_here; (with_reducible show wpAny _ _ (subscriptTail _ _ (Value.str (bnd _) _) (Value.int 0 _)) _ _ _); (refine' em_b0 ?_ ?k1 ?k2; (case k1 => with_unfolding_all rfl); (case k2 => intro _; with_unfolding_all rfl); intro hb9)))
local macro_rules | `(tactic| walk_at "subscriptTail") => `(tactic| (k_here; (with_reducible show wpAny _ _ (subscriptTail _ _ (Value.str (bnd _) _) (Value.int 1 _)) _ _ _); (refine' em_b1 ?_ ?k1 ?k2; (case k1 => with_unfolding_all rfl); (case k2 => intro _; with_unfolding_all rfl); intro hb9)))
local macro_rules | `(tactic| walk_at "subscriptTail") => `(tactic| (k_here; (with_reducible show wpAny _ _ (subscriptTail _ _ (Value.ref 144) (Value.int _ _)) _ _ _); k_dflt (refine' em_bnd ?k1 ?k2 ?k3 ?k4 ?_ ?k5; (case k1 => k_asm); (case k2 => k_asm); (case k3 => assumption); (case k4 => assumption); (case k5 => with_unfolding_all rfl); k_whole; intro t9)))
local macro_rules | `(tactic| walk_at "compareOp NotEq ref") => `(tactic| (k_here; (with_reducible show wpAny _ _ (compareOp CmpOp.NotEq (Value.ref _) (Value.ref _)) _ _ _); k_dflt (refine' em_neK ?k1 ?k2 ?k3 ?k4 ?k5 ?k6 ?k7 ?k8 ?k9 ?kA ?_; (case k1 => ktr_units); (case k2 => k_asm); (case k3 => k_asm); (case k4 => k_inst); (case k5 => k_typeOf); (case k6 => k_is); (case k7 => k_is); (case k8 => k_is); (case k9 => k_is); (case kA => first | k_is | rfl); k_whole)))
local macro_rules | `(tactic| walk_at "truthy bool") => `(tactic| (k_here; (with_reducible show wpAny _ _ (truthy (Value.bool (_ == _))) _ _ _); first | (refine em_truthyT (by with_reducible assumption) ?_) | (refine em_truthyF (by with_reducible assumption) ?_)))
local macro_rules | `(tactic| walk_at "truthy bool") => `(tactic| (k_here; (with_reducible show wpAny _ _ (truthy (Value.bool (!(true == (_ == _))))) _ _ _); (refine em_truthyN (by with_reducible assumption) ?_)))
local macro_rules | `(tactic| walk_at "compareOp NotEq ref ref") => `(tactic| (k_here; (with_reducible show wpAny _ _ (compareOp CmpOp.NotEq (Value.ref _) (Value.ref _)) _ _ _); k_dflt (refine' em_tupNe2 ?N ?ra ?rb ?ha ?hb ?hu ?_; (case N => k_asm); (case ra => k_mem); (case rb => k_mem); (case ha => first | with_reducible exact same_int | with_reducible exact same_none); (case hb => first | with_reducible exact same_int | with_reducible exact same_none); (case hu => ktr_units); k_whole)))
local macro_rules | `(tactic| walk_at "NeBack") => `(tactic| (dsimp only [NeBack]))
local macro_rules | `(tactic| walk_at "compareOp Eq str str") => `(tactic| (k_here; (with_reducible show wpAny _ _ (compareOp CmpOp.Eq (Value.str (bnd _) _) (Value.str (bnd _) _)) _ _ _); refine em_eqStr rfl ?_))
local macro_rules | `(tactic| walk_at "compareOp Eq int int") => `(tactic| (k_here; (with_reducible show wpAny _ _ (compareOp CmpOp.Eq (Value.int _ _) (Value.int _ _)) _ _ _); refine em_eqInt ?_))
set_option maxRecDepth 100000 in
set_option maxHeartbeats 8000000 in
theorem em_turn (w : World) (lst st : Addr) (vs : List Value) (ns : List Int) (nL nS : Nat) (hi : IntsAre vs ns) (hlen : ns.length ≤ 30) (hne : @LT.lt Nat _ lst st) (m₁ u : Str → Option Value)
    (p : Program) (loose : List Str) (mean : ExcName → Option Value) (mg mb : Str → Option Value) (dp un : Nat) (gd : Option (List Code)) (cn : Str) (fa : Addr) (cd : Value) (outer : List Env) (A₀ : Around) (base h₀ : Heap) (L : Addr) (s : Shared) (Q : Flow → Shared → Prop) (E : Value → Shared → Prop)
    (c : Int) (tc : Tok) (T own : List (Addr × Obj)) (i : Nat) (t : Tok)
    (B : Below A₀ base outer h₀) (X : (hd.heap_39 w.params).In h₀) (Tp : Top p loose mean mg mb h₀) (C : CodeHd base 110 106) (hdp : dp + 30 < recursionLimit) (hu : un + 600 < cLine)
    (hi4 : i < 4) (hT : TabSt T) (hO : OwnOff T [st, lst]) (hw : OwnOff own [st, lst]) (hv : OwnOff own (T.map (·.1))) (hoff : OwnOff (T ++ own) [st]) (hc0 : 0 ≤ c) (hc1 : c ≤ 1 + 10 * (i : Int))
    (F : Fr h₀ L s.heap (fun y => if y = Str.ofString "k" then some (.int (i : Int) t) else if lawStored.contains y then u y else if y = Str.ofString "state" then some (.ref st) else m₁ y))
    (N : News h₀ L s.heap ((st, stObj lst c tc nS) :: (lst, listOf vs.toArray nL) :: (T ++ own))) :
    wpAny (model Pr w) (ktrTop dp un gd cn lawScope L fa cd [] outer) (execs lawBody (envX cn lawScope L fa cd []))
      (TurnPosts h₀ L (EmJ st lst vs nL nS (Str.ofString "k") (fun y => if y = Str.ofString "state" then some (.ref st) else m₁ y) (i + 1)) own s Q) E s := by
  w_top off
  have hfill : hd.heap_39 w.params = hd.heap_39 w.params ∧ PySem.Challenge.rw_em5010_01 = PySem.Challenge.rw_em5010_01 := by (k_fill; exact ⟨rfl, rfl⟩)
  clear hfill
  have hMk9 := kstMark
  have hne2 : lst ≠ st := em_neOf hne
  conv in (occs := *) lawScope => all_goals whnf
  conv in lawBody => whnf
  obtain ⟨h, gens, drawn, toks, os⟩ := s
  dsimp only at F N
  show wpAny _ _ _ _ _ _
  k_fold
  k_steps
  all_goals (first
    | refine em_endB (by k_asm) (by k_asm) (by assumption) (by assumption) (by assumption) (by assumption) (by omega) (by omega) ?_
    | refine em_endA (by k_asm) (by k_asm) (by assumption) (by assumption) (by assumption) (by assumption) (by omega) (by omega) ?_)
  all_goals (intro z hz hs; (have hs0 := hs); simp only [lawStored, List.contains_cons, List.contains_nil, Bool.or_false, Bool.or_eq_false_iff, beq_eq_false_iff_ne, ne_eq] at hs; simp [hz, hs, hs0])
end Em
end
section
open PySem PySem.W PyProof.Rows PySem.Calls
namespace Em
local macro_rules | `(tactic| k_room) => `(tactic| ktr_room)
local macro_rules | `(tactic| walk_at "call ref") => `(tactic| (k_here; (with_reducible show wpAny _ _ (call (Value.ref 151) [Value.ref _, Value.int _ _]) _ _ _); k_dflt (refine' em_next ?k1 ?k2 ?k3 ?k4 ?k5 ?k6 ?k7 ?k8 ?k9 ?k10 ?k11 ?k12 ?k13 ?k14 ?k15 ?k16 ?_; (case k1 => k_asm); (case k2 => k_asm); (case k3 => k_asm); (case k4 => k_asm); (case k5 => k_asm); (case k6 => first | exact rfl | assumption); (case k7 => assumption); (case k8 => omega); (case k9 => omega); (case k10 => omega); (case k11 => decide); (case k12 => decide); (case k13 => first | assumption | exact em_offOf (by k_all)); (case k14 => first | assumption | exact em_neOf (by first | assumption | omega)); (case k15 => ktr_room); (case k16 => ktr_units); k_whole; intro r9 tr9 tc9 h9 tk9 hr9 hs9 F9 N9; (try dsimp only); (try k_sweep); (try k_fold))))
local macro_rules | `(tactic| walk_at "call type:range") => `(tactic| (k_here; (rename Fr _ _ _ _ => F'); (rename News _ _ _ _ => N'); (with_unfolding_all refine range1_rows F' N' ?_); intro h9 tk9 t9 u9 v9 R9 F9 N9 K9; (try k_sweep)))
local macro_rules | `(tactic| walk_at "exec For Name Call cons nil") => `(tactic| (k_here; (rename Fr _ _ _ _ => lF'); (with_unfolding_all refine' For_invVF lF' ?k1 ?k2 ?_; (case k1 => exact rfl); (case k2 => exact rfl); k_whole)))
local macro_rules | `(tactic| walk_at "pyIter ref") => `(tactic| ((with_reducible show wpAny _ _ (pyIter (Value.ref _)) (fun it s₂ => LoopAtV _ _ _ _ _ _ _ _ _ it s₂) _ _); k_here; (rename Fr _ _ _ _ => lF'); (rename News _ _ _ _ => lN'); (rename IsRange _ _ _ _ _ _ _ _ => rgX); with_unfolding_all (refine' em_loop2 ?k1 rgX ?k2 ?k3 lF' lN' ?k4 ?k5 ?k6 ?_ ?_; (case k1 => rfl); (case k2 => omega); (case k3 => omega); (case k4 => omega); (case k5 => exact em_neOf (by omega)); (case k6 => exact em_neOf (by omega)))))
set_option maxRecDepth 100000 in
set_option maxHeartbeats 8000000 in
theorem law_t : PySem.Challenge.rw_em5010_01.Holds := hd (by
  w_top off
  k_go0
  have hMk9 := kstMark
  all_goals try k_fold
  k_steps
  · unfold Hold
    intro c9 tc9 T9 i9 t9 u9 h9 tk9 own9 hi9 hT9 hO9 hw9 hv9 hoff9 hc9 hd9 F9 N9
    refine em_turn _ _ _ _ _ _ _ (by assumption) (by (rw [List.length_take]; exact Nat.min_le_left _ _)) (by omega) _ _ _ _ _ _ _ _ _ _ _ _ _ _ _ _ _ _ _ _ _ _ _ _ _ _ _ (by assumption) (by assumption) (by assumption) (by assumption) (by ktr_room) (by ktr_units) hi9 hT9 hO9 hw9 hv9 hoff9 hc9 hd9 F9 N9
  · unfold Hold
    intro T9 c9 tc9 u9 h9 tk9 hT9 F9 N9
    cases hT9
    all_goals k_steps)
end Em
end
theorem PySem.Challenge.cw_em5010_01_holds : PySem.Challenge.rw_em5010_01.Holds :=
  Em.law_t
