import PyProof.Rows.All
import Wide.All
import OpenK.AllK
import Wide.FinOn
import PySem.Challenge.RW_ew5019_01
open PySem PySem.W PyProof.Rows
set_option Elab.async false
set_option maxRecDepth 100000
set_option maxHeartbeats 8000000
namespace Mine
open_top hd for PySem.Challenge.rw_ew5019_01
end Mine
open PySem.Calls PySem.Builtin PySem.Builtin.Str

-- MA
namespace Mine
theorem calmMA : True := by
  w_top off
  trivial
end Mine
namespace Mine
abbrev Led := List (Addr × Obj)
abbrev Kont := Heap → Addr → (Str → Option Value) → Led → Shared → (Value → Shared → Prop) → Prop
def Claim (w : World) (d : Nat) (f : Addr) (vs : List Value) (pre : Led → Prop) (Ret : Kont) : Prop :=
  ∀ (p : Program) (loose : List Str) (mean : ExcName → Option Value) (mg mb : Str → Option Value) (dp un : Nat) (gd : Option (List Code)) (cn : Str) (cs : Scope) (a : Addr) (ccd : Value) (cl : List (Str × Addr)) (outer : List Env) (A₀ : Around) (base h₀ : Heap) (L : Addr) (m : Str → Option Value) (news : Led) (s : Shared) (Q E : Value → Shared → Prop),
    Below A₀ base outer h₀ → Fr h₀ L s.heap m → (hd.heap_39 w.params).In h₀ → News h₀ L s.heap news → Top p loose mean mg mb h₀ → cs.kind = .function → dp + d < recursionLimit → un + 8 * d + 1000 < cLine → pre news →
    Ret h₀ L m news s Q →
    wpAny (model PySem.Challenge.rw_ew5019_01.row.prog w) (ktrTop dp un gd cn cs L a ccd cl outer) (call (.ref f) vs) Q E s
theorem Claim.use {w : World} {d : Nat} {f : Addr} {vs : List Value} {pre : Led → Prop} {Ret : Kont} (C : Claim w d f vs pre Ret)
  {p : Program} {loose : List Str} {mean : ExcName → Option Value} {mg mb : Str → Option Value} {dp un : Nat} {gd : Option (List Code)} {cn : Str} {cs : Scope} {a : Addr} {ccd : Value} {cl : List (Str × Addr)} {outer : List Env} {A₀ : Around} {base h₀ : Heap} {L : Addr} {m : Str → Option Value} {news : Led} {s : Shared} {Q E : Value → Shared → Prop}
    (B : Below A₀ base outer h₀) (F : Fr h₀ L s.heap m) (X : (hd.heap_39 w.params).In h₀) (N : News h₀ L s.heap news) (T : Top p loose mean mg mb h₀) (hk : cs.kind = .function) (hd : dp + d < recursionLimit) (hu : un + 8 * d + 1000 < cLine) (hp : pre news)
    (hr : Ret h₀ L m news s Q) : wpAny (model PySem.Challenge.rw_ew5019_01.row.prog w) (ktrTop dp un gd cn cs L a ccd cl outer) (call (.ref f) vs) Q E s :=
  C _ _ _ _ _ _ _ _ _ _ _ _ _ _ _ _ _ _ _ _ _ _ _ B F X N T hk hd hu hp hr

def RetPair (x y : Str) : Kont := fun h₀ L m news s Q => ∀ a t1 t2 h' tk', Fr h₀ L h' m → News h₀ L h' ((a, ({cls := .type "tuple", data := .seq #[.str x t1, .str y t2] 0} : Obj)) :: news) → (∀ p ∈ news, p.1 < a) → Q (.ref a) { s with heap := h', toks := tk' }
def RetStr (x : Str) : Kont := fun h₀ L m news s Q => ∀ t h' tk', Fr h₀ L h' m → News h₀ L h' news → Q (.str x t) { s with heap := h', toks := tk' }

def splitF (u : Str) : Str × Str := if 0 ≤ Txt.rfind u (Str.ofString "#") then (Txt.slice u none (some (Txt.rfind u (Str.ofString "#"))), Txt.slice u (some (Txt.rfind u (Str.ofString "#"))) none) else (u, Str.ofString "")

local macro_rules | `(tactic| walk_at "MINE enter") => `(tactic| (refine wpAny_call ?_; k_dflt (refine' code_def ?k1 ?k2 ?k3 ?k4 ?k5 ?kA ?kF ?kK ?k6 ?k7 ?k8 ?k9 ?kB ?_ ?c2 ?c3 ?c4 ?c5; (case kA => exact rfl); (case kF => exact rfl); (case kK => assumption); (case k1 => k_asm); (case k2 => k_asm); (case k3 => k_asm); (case k4 => k_asm); (case k5 => k_asm); (case k6 => k_is); (case k7 => k_is); (case k8 => ktr_room); (case k9 => first | exact BindsTo.of_eq rfl | exact binds_K (by k_in) rfl (by k_is) rfl rfl rfl); (case c5 => decide); (case kB => exact locs rfl); (case c2 => exact rfl); (case c3 => exact rfl); (case c4 => exact rfl); k_whole; intro g' L' h' FG' F' N' B' X' T'; (try dsimp only); (try k_lift B'); (try k_fold))))

theorem split1 (w : World) (u : Str) (tu : Tok) (hu1 : u.length ≤ 65536) : Claim w 1 22 [.str u tu] (fun _ => True) (RetPair (splitF u).1 (splitF u).2) := by
  unfold Claim
  k_fill
  intro p loose mean mg mb dp un gd cn cs a ccd cl outer A₀ base h₀ L m news s Q E B F X N T hk hd hu hpre hret
  walk_at "MINE enter"
  k_steps
  all_goals (first | rw [splitF, if_pos (by assumption)] at hret | rw [splitF, if_neg (by assumption)] at hret)
  all_goals exact hret _ _ _ _ _ (by assumption) (by assumption) (by assumption)
theorem split2 (w : World) (u : Str) (tu : Tok) (hu1 : u.length ≤ 65536) (j : Int) (tj : Tok) : Claim w 1 22 [.str u tu, .int j tj] (fun _ => True) (RetPair (splitF u).1 (splitF u).2) := by
  unfold Claim
  k_fill
  intro p loose mean mg mb dp un gd cn cs a ccd cl outer A₀ base h₀ L m news s Q E B F X N T hk hd hu hpre hret
  walk_at "MINE enter"
  k_steps
  all_goals (first | rw [splitF, if_pos (by assumption)] at hret | rw [splitF, if_neg (by assumption)] at hret)
  all_goals exact hret _ _ _ _ _ (by assumption) (by assumption) (by assumption)

theorem split1e (w : World) (u x y : Str) (tu : Tok) (hu1 : u.length ≤ 65536) (he : splitF u = (x, y)) : Claim w 1 22 [.str u tu] (fun _ => True) (RetPair x y) := by
  have h := split1 w u tu hu1
  rw [he] at h
  exact h
theorem split2e (w : World) (u x y : Str) (tu : Tok) (hu1 : u.length ≤ 65536) (he : splitF u = (x, y)) (j : Int) (tj : Tok) : Claim w 1 22 [.str u tu, .int j tj] (fun _ => True) (RetPair x y) := by
  have h := split2 w u tu hu1 j tj
  rw [he] at h
  exact h
end Mine

-- MC
namespace Mine
theorem calmMC : True := by
  w_top off
  trivial
end Mine
namespace Mine
def Stop (P : Prop) : Prop := P
theorem Stop.out {P : Prop} (h : Stop P) : P := h
theorem Stop.fold {P : Prop} (h : P) : Stop P := h
def defAt (k : Nat) : Option (List Stmt × Scope) := match PySem.Challenge.pw_ew5019_01.main.body.drop k with
  | .FunctionDef _ _ b _ _ _ sc _ _ _ :: _ => some (b, sc)
  | _ => none
def stmtAt (k i : Nat) : Stmt := ((((defAt k).map (·.1)).getD []).drop i).headD (.Pass default)
def scopeAt (k : Nat) : Scope := ((defAt k).map (·.2)).getD { kind := .function, names := [], isGenerator := false, isCoroutine := false, more := [] }

def rfind4 (x y : Str) (i j : Int) : Int := match lastOccurrence x y (fromIndex x.length i) (min (fromIndex x.length j) x.length) with | some k => (k : Int) | none => -1
theorem gives_rfind4 (x y : Str) (i j : Int) (t u v z : Tok) : Gives («str.rfind» ⟨[.str x t, .str y u, .int i v, .int j z], []⟩) (.int (rfind4 x y i j)) := by
  show Gives (match lastOccurrence x y (fromIndex x.length i) (min (fromIndex x.length j) x.length) with | some k => retInt k | none => (do rule "str.rfind.not-found"; retInt (-1))) _
  unfold rfind4
  cases lastOccurrence x y (fromIndex x.length i) (min (fromIndex x.length j) x.length) with
  | none => exact .rule (.of_eq rfl)
  | some k => exact .of_eq rfl
theorem call_rfind4 {prog : Program} {w : World} {A : Around} {E : Value → Shared → Prop} {s : Shared} {x y : Str} {t u v z : Tok} {i j : Int} {Q : Value → Shared → Prop} (hq : Q (.int (rfind4 x y i j) s.toks) { s with toks := s.toks + 1 }) :
    wpAny (model prog w) A (call (.builtin "str.rfind") [.str x t, .str y u, .int i v, .int j z]) Q E s :=
  call_gives F.slot_str_rfind (typeIs_str _ _ _) F.entry_str_rfind (F.args_str_rfind_4 _ _ _ _) (gives_rfind4 x y i j t u v z) hq

/-- a step here, taken off -/
def dotS (p : Str) : Str := if (Txt.slice p none (some 2) == Str.ofString "./") = true then Txt.slice p (some 2) none else p
/-- the while of join, and what is told behind it -/
def loopF : Nat → Int → Str → Str → Int → Str
  | 0, _, h, _, _ => h
  | f + 1, bp, h, p, sl =>
    if (dotS p == Str.ofString ".") = true then loopF f bp h (Str.ofString "") sl
    else if (Txt.slice (dotS p) none (some 3) == Str.ofString "../") = true ∨ (dotS p == Str.ofString "..") = true then
      (if 0 ≤ rfind4 h (Str.ofString "/") bp sl then loopF f bp (Txt.slice h none (some (rfind4 h (Str.ofString "/") bp sl + 1))) (Txt.slice (dotS p) (some 3) none) (rfind4 h (Str.ofString "/") bp sl)
       else loopF f bp h (Txt.slice (dotS p) (some 3) none) sl)
    else Txt.slice h none (some (sl + 1)) ++ dotS p

theorem dotS1 {p : Str} (h : (Txt.slice p none (some 2) == Str.ofString "./") = true) : dotS p = Txt.slice p (some 2) none := if_pos h
theorem dotS2 {p : Str} (h : (Txt.slice p none (some 2) == Str.ofString "./") = false) : dotS p = p := if_neg (by rw [h]; exact Bool.false_ne_true)
theorem dotS_le (p : Str) : (dotS p).length ≤ p.length := by
  unfold dotS
  split
  · exact PyProof.Txt.length_slice_le _ _ _
  · exact Nat.le_refl _
theorem up_less {P : Str} (h : (Txt.slice P none (some 3) == Str.ofString "../") = true ∨ (P == Str.ofString "..") = true) : (Txt.slice P (some 3) none).length < P.length := by
  have h3 := fact_slice_sn P 3
  have h4 := PyProof.Txt.length_slice_le P none (some 3)
  rcases h with h | h
  · rw [eq_of_beq h, show (Str.ofString "../").length = 3 by decide] at h4
    have := h3.1 (by omega) (by omega)
    omega
  · have e : P.length = 2 := by rw [eq_of_beq h]; decide
    have := h3.2 (by omega)
    omega
section
variable {f : Nat} {bp sl : Int} {h p R P : Str} (hP : dotS p = P) (i1 : h.length ≤ 16385) (i2 : p.length ≤ 16384) (i4 : Stop (loopF (f + 1) bp h p sl = R)) (i3 : Stop (p.length < f + 1))
include hP i1 i2 i4 i3
theorem nextA (hc : (P == Str.ofString ".") = true) : (h.length ≤ 16385 ∧ (Str.ofString "").length ≤ 16384 ∧ ∃ f, (Str.ofString "").length < f ∧ loopF f bp h (Str.ofString "") sl = R) ∧ (Str.ofString "").length < p.length := by
  unfold Stop at i3 i4
  subst hP
  have h0 : (Str.ofString "").length = 0 := by decide
  have h1 : (dotS p).length = 1 := by rw [eq_of_beq hc]; decide
  have h2 := dotS_le p
  refine ⟨⟨i1, by omega, f, by omega, ?_⟩, by omega⟩
  rw [loopF, if_pos hc] at i4
  exact i4
theorem nextB (hc : (P == Str.ofString ".") = false) (hd : (Txt.slice P none (some 3) == Str.ofString "../") = true ∨ (P == Str.ofString "..") = true) (hr : 0 ≤ rfind4 h (Str.ofString "/") bp sl) :
    ((Txt.slice h none (some (rfind4 h (Str.ofString "/") bp sl + 1))).length ≤ 16385 ∧ (Txt.slice P (some 3) none).length ≤ 16384 ∧ ∃ f, (Txt.slice P (some 3) none).length < f ∧ loopF f bp (Txt.slice h none (some (rfind4 h (Str.ofString "/") bp sl + 1))) (Txt.slice P (some 3) none) (rfind4 h (Str.ofString "/") bp sl) = R) ∧ (Txt.slice P (some 3) none).length < p.length := by
  unfold Stop at i3 i4
  subst hP
  have h1 := up_less hd
  have h2 := dotS_le p
  have h3 := PyProof.Txt.length_slice_le h none (some (rfind4 h (Str.ofString "/") bp sl + 1))
  refine ⟨⟨by omega, by omega, f, by omega, ?_⟩, by omega⟩
  rw [loopF, if_neg (by rw [hc]; exact Bool.false_ne_true), if_pos hd, if_pos hr] at i4
  exact i4
theorem nextC (hc : (P == Str.ofString ".") = false) (hd : (Txt.slice P none (some 3) == Str.ofString "../") = true ∨ (P == Str.ofString "..") = true) (hr : ¬ 0 ≤ rfind4 h (Str.ofString "/") bp sl) :
    (h.length ≤ 16385 ∧ (Txt.slice P (some 3) none).length ≤ 16384 ∧ ∃ f, (Txt.slice P (some 3) none).length < f ∧ loopF f bp h (Txt.slice P (some 3) none) sl = R) ∧ (Txt.slice P (some 3) none).length < p.length := by
  unfold Stop at i3 i4
  subst hP
  have h1 := up_less hd
  have h2 := dotS_le p
  refine ⟨⟨by omega, by omega, f, by omega, ?_⟩, by omega⟩
  rw [loopF, if_neg (by rw [hc]; exact Bool.false_ne_true), if_pos hd, if_neg hr] at i4
  exact i4
theorem nextD (hc : (P == Str.ofString ".") = false) (hd : (Txt.slice P none (some 3) == Str.ofString "../") = false) (hd2 : (P == Str.ofString "..") = false) : Txt.slice h none (some (sl + 1)) ++ P = R ∧ P.length ≤ 16384 := by
  unfold Stop at i3 i4
  subst hP
  have h2 := dotS_le p
  rw [loopF, if_neg (by rw [hc]; exact Bool.false_ne_true), if_neg (by rw [hd, hd2]; simp)] at i4
  exact ⟨i4, by omega⟩
end

local macro_rules | `(tactic| walk_at "MINE same") => `(tactic| (intro z h2 h3; simp only [List.forall_mem_cons, List.not_mem_nil, false_implies, implies_true, and_true, ne_eq] at h2; simp only [List.contains_cons, List.contains_nil, Bool.or_false, Bool.or_eq_false_iff, beq_eq_false_iff_ne, ne_eq] at h3; simp only [kstB, h2, h3, List.contains_cons, List.contains_nil, Bool.or_false, Bool.or_eq_true, beq_iff_eq, or_self, reduceIte]))
local macro_rules | `(tactic| walk_at "KswEnd") => `(tactic| refine Stop.out ?_)
local macro_rules | `(tactic| walk_at "call builtin:str.rfind") => `(tactic| ((with_reducible show wpAny _ _ (call (Value.builtin "str.rfind") [Value.str _ _, Value.str _ _, Value.int _ _, Value.int _ _]) _ _ _); (refine call_rfind4 ?_)))

theorem join_loop {w : World} {dp un : Nat} {gd : Option (List Code)} {cn : Str} {cs : Scope} {a L : Addr} {ccd : Value} {cl : List (Str × Addr)} {outer : List Env} {L' : Addr} {g : Heap} {p : Program} {loose : List Str} {mean : ExcName → Option Value} {mg mb : Str → Option Value} {m₀ : Str → Option Value} {news : Led} {s : Shared} {Q : Flow → Shared → Prop} {E : Value → Shared → Prop}
  (hdp : dp + 2 < recursionLimit) (hun : un + 8 * 2 + 1000 < cLine) (X : (hd.heap_39 w.params).In g) (T : Top p loose mean mg mb g) (F : Fr g L' s.heap m₀) (N : News g L' s.heap news) {hx px : Str} {sx bp : Int} {th tp ts tb : Tok}
  (h1 : m₀ (Str.ofString "here") = some (.str hx th)) (h2 : m₀ (Str.ofString "path") = some (.str px tp)) (h3 : m₀ (Str.ofString "slashr") = some (.int sx ts)) (h4 : m₀ (Str.ofString "bpath") = some (.int bp tb))
  (l1 : hx.length ≤ 16385) (l2 : px.length ≤ 16384) {f : Nat} (hf : px.length < f)
  (done : ∀ (hy py : Str) (sy : Int) (ty tq tr : Tok) (u : Str → Option Value) h' tk', Txt.slice hy none (some (sy + 1)) ++ py = loopF f bp hx px sx → hy.length ≤ 16385 → py.length ≤ 16384 →
     Fr g L' h' (kstB (fun z => if [Str.ofString "i"].contains z then u z else m₀ z) [(Str.ofString "here", Value.str hy ty), (Str.ofString "path", Value.str py tq), (Str.ofString "slashr", Value.int sy tr), (Str.ofString "bpath", Value.int bp tb)]) → News g L' h' news → Q .next { s with heap := h', toks := tk' })
  (hE : PassesOwn (model PySem.Challenge.rw_ew5019_01.row.prog w) ((ktrTop dp un gd cn cs L a ccd cl outer).deeper (envOf (Str.ofString "join") (scopeAt 2) L' 29 (Value.ref 28))) (envOf (Str.ofString "join") (scopeAt 2) L' 29 (Value.ref 28)) E) :
  wpAny (model PySem.Challenge.rw_ew5019_01.row.prog w) ((ktrTop dp un gd cn cs L a ccd cl outer).deeper (envOf (Str.ofString "join") (scopeAt 2) L' 29 (Value.ref 28))) (exec (stmtAt 2 13) (envOf (Str.ofString "join") (scopeAt 2) L' 29 (Value.ref 28))) Q E s := by
  revert X
  k_fill
  intro X
  generalize hR : loopF f bp hx px sx = R at done
  with_unfolding_all change wpAny _ _ (exec (Stmt.While _ _ _ _) _) _ _ _
  refine ksw_while (σ := Str × Str × Int × Tok × Tok × Tok) (fun _ => news) (fun c => [(Str.ofString "here", Value.str c.1 c.2.2.2.1), (Str.ofString "path", Value.str c.2.1 c.2.2.2.2.1), (Str.ofString "slashr", Value.int c.2.2.1 c.2.2.2.2.2), (Str.ofString "bpath", Value.int bp tb)]) (fun _ => True) [Str.ofString "i"]
    (fun c => c.1.length ≤ 16385 ∧ c.2.1.length ≤ 16384 ∧ ∃ f, c.2.1.length < f ∧ loopF f bp c.1 c.2.1 c.2.2.1 = R) (fun c => c.2.1.length) ⟨hx, px, sx, th, tp, ts⟩ F N trivial ?kk ?kp ?_ hE
  case kk => exact List.forall_mem_cons.mpr ⟨h1, List.forall_mem_cons.mpr ⟨h2, List.forall_mem_cons.mpr ⟨h3, List.forall_mem_cons.mpr ⟨h4, List.forall_mem_nil _⟩⟩⟩⟩
  case kp => exact ⟨l1, l2, f, hf, hR⟩
  clear F N h1 h2 h3 h4 l1 l2 hE hf hR
  rintro ⟨hx, px, sx, th, tp, ts⟩ ux hp1 tk1 - ⟨i1, i2, f, i3, i4⟩ F1 N1
  dsimp only at F1 N1 i1 i2 i3 i4
  k_fold
  obtain ⟨f, rfl⟩ : ∃ f', f = f' + 1 := ⟨f - 1, by omega⟩
  replace i4 := Stop.fold i4
  replace i3 := Stop.fold i3
  k_steps
  all_goals first | have hP := dotS1 (p := px) (by with_reducible assumption) | have hP := dotS2 (p := px) (by with_reducible assumption)
  all_goals (try unfold Stop)
  all_goals (rename Fr _ _ _ _ => lF; rename News _ _ _ _ => lN)
  all_goals first
    | (have hN := nextD hP i1 i2 i4 i3 (by with_reducible assumption) (by with_reducible assumption) (by with_reducible assumption)
       clear i3 i4
       refine' done _ _ _ _ _ _ _ _ _ hN.1 i1 hN.2 (ksw_fr ?zk ?zr lF) lN
       case zk => kst_all
       case zr => walk_at "MINE same")
    | (first
       | have hN := nextA hP i1 i2 i4 i3 (by with_reducible assumption)
       | have hN := nextB hP i1 i2 i4 i3 (by with_reducible assumption) (by first | exact .inl (by with_reducible assumption) | exact .inr (by with_reducible assumption)) (by with_reducible assumption)
       | have hN := nextC hP i1 i2 i4 i3 (by with_reducible assumption) (by first | exact .inl (by with_reducible assumption) | exact .inr (by with_reducible assumption)) (by with_reducible assumption)
       clear i3 i4
       refine' ksw_end (_, _, _, _, _, _) lF lN (fun p hp => hp) trivial ?zk ?zr ?zp ?zm
       case zk => kst_all
       case zr => walk_at "MINE same"
       case zp => dsimp only; with_reducible exact hN.1
       case zm => dsimp only; with_reducible exact hN.2)
end Mine

-- ML
namespace Mine
theorem calmML : True := by
  w_top off
  trivial
end Mine
namespace Mine
section
variable {prog : Program} {w : World} {A : Around} {E : Value → Shared → Prop} {s : Shared} {env : Env} {h₀ : Heap} {x : Str} {body : List Stmt} {Q : Flow → Shared → Prop}
/-- what holds between the turns of a for: the ledger, the named locals, all else as it stood -/
def LJ {σ : Type} (LedF : σ → Led) (ps : σ → List (Str × Value)) (stored : List Str) (P : Nat → σ → Prop) (x : Str) (m₀ : Str → Option Value) (i : Nat) (m : Str → Option Value) (nx : Led) : Prop :=
  ∃ c : σ, nx = LedF c ∧ (∀ p ∈ ps c, m p.1 = some p.2) ∧ (∀ z, z ≠ x → (∀ p ∈ ps c, z ≠ p.1) → stored.contains z = false → m z = m₀ z) ∧ P i c
theorem lj_end {σ : Type} {LedF : σ → Led} {ps : σ → List (Str × Value)} {stored : List Str} {P : Nat → σ → Prop} {m₀ : Str → Option Value} {i : Nat} {L : Addr} {own news' : Led} {m' : Str → Option Value} {s₁ : Shared} {h' : Heap} {tk : Nat} (c : σ)
    (F : Fr h₀ L h' m') (N : News h₀ L h' news') (hn : ∀ p ∈ LedF c, p ∈ news') (ho : ∀ p ∈ own, p ∈ news') (ha : OwnOff own ((LedF c).map (·.1)))
    (hk : ∀ p ∈ ps c, m' p.1 = some p.2) (hr : ∀ z, z ≠ x → (∀ p ∈ ps c, z ≠ p.1) → stored.contains z = false → m' z = m₀ z) (hp : P i c) :
    InvEndG h₀ L (LJ LedF ps stored P x m₀ i) own s₁ { s₁ with heap := h', toks := tk } := InvEndG.intro F N ⟨c, rfl, hk, hr, hp⟩ ha hn ho
theorem loopL {σ : Type} {L : Addr} {l : Addr} {vs : List Value} {nn : Nat} {m₀ : Str → Option Value} (LedF : σ → Led) (ps : σ → List (Str × Value)) (stored : List Str) (P : Nat → σ → Prop) (c₀ : σ)
    (hL : env.locals = L) (hh : A.handled = none) (hl : ∀ c, (l, listOf vs.toArray nn) ∈ LedF c) (F : Fr h₀ L s.heap m₀) (N : News h₀ L s.heap (LedF c₀)) (hk : ∀ p ∈ ps c₀, m₀ p.1 = some p.2) (hp : P 0 c₀)
    (turn : ∀ i v c (u : Str → Option Value) h tk own, vs[i]? = some v → OwnOff own ((LedF c).map (·.1)) → P i c →
      Fr h₀ L h (fun y => if y = x then some v else kstB (fun z => if stored.contains z then u z else m₀ z) (ps c) y) → News h₀ L h (LedF c ++ own) →
      wpAny (model prog w) A (execs body env) (InvPostG h₀ L (LJ LedF ps stored P x m₀ (i + 1)) own { s with heap := h, toks := tk } Q) E { s with heap := h, toks := tk })
    (done : ∀ c (u : Str → Option Value) h tk, P vs.length c → Fr h₀ L h (fun y => if y = x then u y else kstB (fun z => if stored.contains z then u z else m₀ z) (ps c) y) → News h₀ L h (LedF c) → Q .next { s with heap := h, toks := tk }) :
    wpAny (model prog w) A (pyIter (.ref l)) (fun it s₂ => LoopAtV prog w A h₀ env x body Q E it s₂) E s := by
  subst hL
  refine kdl_iter (LJ LedF ps stored P x m₀) hh (hl c₀) F N ⟨c₀, rfl, hk, fun _ _ _ _ => rfl, hp⟩ ?_ ?_
  · rintro i v m₁ nx h tk own hv hoff _ ⟨c, rfl, h1, h2, hp'⟩ F₁ N₁
    refine wpAny_mono (turn i v c m₁ h tk own hv hoff hp' (kst_fr h1 h2 F₁) N₁) (fun f s₂ p => ?_) fun _ _ x => x
    have up : InvEndG h₀ env.locals (LJ LedF ps stored P x m₀ (i + 1)) own { s with heap := h, toks := tk } s₂ →
        InvEndG h₀ env.locals (fun m' nx => (l, listOf vs.toArray nn) ∈ nx ∧ LJ LedF ps stored P x m₀ (i + 1) m' nx) own { s with heap := h, toks := tk } s₂ := by
      rintro ⟨h', tk', m', news', nx', e', F', N', hn', ho', ha, hS⟩
      refine ⟨h', tk', m', news', nx', e', F', N', hn', ho', ha, ?_, hS⟩
      obtain ⟨c', rfl, _⟩ := hS
      exact hl c'
    cases f with
    | ret v => exact p
    | brk => exact p
    | next => exact up p
    | cont => exact up p
  · rintro m₁ nx h tk ⟨c, rfl, h1, h2, hp'⟩ F₁ N₁
    exact done c m₁ h tk hp' (kst_frOut h1 h2 F₁) N₁
theorem loopR {σ : Type} {L : Addr} {r : Addr} {a₀ b₀ d : Int} {t₀ u₀ v₀ : Tok} {n : Nat} {m₀ : Str → Option Value} (LedF : σ → Led) (ps : σ → List (Str × Value)) (stored : List Str) (P : Nat → σ → Prop) (c₀ : σ)
    (hL : env.locals = L) (hh : A.handled = none) (hr : IsRange s.heap r a₀ b₀ d t₀ u₀ v₀) (hsmall : Builtin.Range.small a₀ b₀ d = true) (hsz : Builtin.Range.rangeSize a₀ b₀ d = (n : Int))
    (F : Fr h₀ L s.heap m₀) (N : News h₀ L s.heap (LedF c₀)) (hk : ∀ p ∈ ps c₀, m₀ p.1 = some p.2) (hp : P 0 c₀)
    (turn : ∀ (i : Nat) t c (u : Str → Option Value) h tk own, i < n → OwnOff own ((LedF c).map (·.1)) → P i c →
      Fr h₀ L h (fun y => if y = x then some (.int (a₀ + i * d) t) else kstB (fun z => if stored.contains z then u z else m₀ z) (ps c) y) → News h₀ L h (LedF c ++ own) →
      wpAny (model prog w) A (execs body env) (InvPostG h₀ L (LJ LedF ps stored P x m₀ (i + 1)) own { s with heap := h, toks := tk } Q) E { s with heap := h, toks := tk })
    (done : ∀ c (u : Str → Option Value) h tk, P n c → Fr h₀ L h (fun y => if y = x then u y else kstB (fun z => if stored.contains z then u z else m₀ z) (ps c) y) → News h₀ L h (LedF c) → Q .next { s with heap := h, toks := tk }) :
    wpAny (model prog w) A (pyIter (.ref r)) (fun it s₂ => LoopAtV prog w A h₀ env x body Q E it s₂) E s := by
  subst hL
  refine wpAny_pyIter_range hr hsmall ?_
  have W : Walks prog w A s.heap.objs.size [s.heap.objs.size] [s.heap.objs.size] n (fun i v => i < n ∧ ∃ t, v = .int (a₀ + i * d) t)
      (fun i h => IsRangeIter h s.heap.objs.size (a₀ + (i : Nat) * d) ((n : Int) - (i : Nat)) d) := (Walks.range hh _ a₀ d n).bound
  refine kdr_loop (LJ LedF ps stored P x m₀) W (fun _ h => h) (fun _ h => h) ?_ ?_ ?_ ?_ (by show IsRangeIter _ _ _ _ _; rw [hsz]; simpa using Heap.get?_push_size _ rfl) (F.push _) (fun p hp => ⟨Heap.get?_push_of_some _ (N p hp).1, (N p hp).2⟩) ⟨c₀, rfl, hk, fun _ _ _ _ => rfl, hp⟩ ?_ ?_
  · intro i h hi b hb
    rw [List.mem_singleton.mp hb]
    exact ⟨_, hi⟩
  · intro hm
    exact absurd F.ns.lt ((List.mem_singleton.mp hm) ▸ Nat.lt_irrefl _)
  · intro b hb
    rw [List.mem_singleton.mp hb]
    exact next_is_new F
  · intro p hp hI
    exact absurd (Heap.lt_size (N p hp).1) ((List.mem_singleton.mp hI) ▸ Nat.lt_irrefl _)
  · rintro i v m₁ nx h tk own hi ⟨_, t, rfl⟩ hoff ⟨c, rfl, h1, h2, hp'⟩ F₁ N₁
    exact turn i t c m₁ h tk own hi hoff hp' (kst_fr h1 h2 F₁) N₁
  · rintro m₁ nx h tk ⟨c, rfl, h1, h2, hp'⟩ F₁ N₁
    exact done c m₁ h tk hp' (kst_frOut h1 h2 F₁) N₁
end
end Mine

-- MD
namespace Mine
theorem calmMD : True := by
  w_top off
  trivial
end Mine
namespace Mine
local macro_rules | `(tactic| walk_at "MINE enter") => `(tactic| (refine wpAny_call ?_; k_dflt (refine' code_def ?k1 ?k2 ?k3 ?k4 ?k5 ?kA ?kF ?kK ?k6 ?k7 ?k8 ?k9 ?kB ?_ ?c2 ?c3 ?c4 ?c5; (case kA => exact rfl); (case kF => exact rfl); (case kK => assumption); (case k1 => k_asm); (case k2 => k_asm); (case k3 => k_asm); (case k4 => k_asm); (case k5 => k_asm); (case k6 => k_is); (case k7 => k_is); (case k8 => ktr_room); (case k9 => first | exact BindsTo.of_eq rfl | exact binds_K (by k_in) rfl (by k_is) rfl rfl rfl); (case c5 => decide); (case kB => exact locs rfl); (case c2 => exact rfl); (case c3 => exact rfl); (case c4 => exact rfl); k_whole; intro g' L' h' FG' F' N' B' X' T'; (try dsimp only); (try k_lift B'); (try k_fold))))
theorem RetStr.ret' {x y : Str} {h₀ h' : Heap} {L : Addr} {m : Str → Option Value} {news : Led} {s : Shared} {Q : Value → Shared → Prop} {t : Tok} {tk' : Nat} (h : RetStr x h₀ L m news s Q) (e : x = y) (F : Fr h₀ L h' m) (N : News h₀ L h' news) : Q (.str y t) { s with heap := h', toks := tk' } := by
  subst e
  exact h t h' tk' F N

def textG (t : Str) (fs : List Str) : Str := fs.foldl (fun t f => t ++ (f ++ Str.ofString "/")) t
def textF (op : Str) (fs : List Str) (nm : Str) : Str := textG (op ++ Str.ofString "/") fs ++ nm
theorem textG_snoc (t : Str) (fs : List Str) (f : Str) : textG t (fs ++ [f]) = textG t fs ++ (f ++ Str.ofString "/") := by unfold textG; rw [List.foldl_append]; rfl
def sumLen (fs : List Str) : Nat := (fs.map fun f => f.length + 1).sum
theorem textG_len (fs : List Str) : ∀ t : Str, (textG t fs).length = t.length + sumLen fs := by
  induction fs with
  | nil => intro t; rfl
  | cons f fs ih =>
    intro t
    have e : textG t (f :: fs) = textG (t ++ (f ++ Str.ofString "/")) fs := rfl
    rw [e, ih, Str.length_append, Str.length_append, show (Str.ofString "/").length = 1 by decide]
    simp only [sumLen, List.map_cons, List.sum_cons]
    omega
theorem textG_take {t : Str} {fs : List Str} {i : Nat} {f : Str} (h : fs[i]? = some f) : textG t (fs.take (i + 1)) = textG t (fs.take i) ++ (f ++ Str.ofString "/") := by
  rw [List.take_add_one, h]; exact textG_snoc t _ f
theorem sumLen_take (fs : List Str) (i : Nat) : sumLen (fs.take i) ≤ sumLen fs := by
  have h := List.take_append_drop i fs
  have : sumLen fs = sumLen (fs.take i) + sumLen (fs.drop i) := by
    conv => lhs; rw [← h]
    simp only [sumLen, List.map_append, List.sum_append]
  omega

local macro_rules | `(tactic| walk_at "exec For Name Name cons nil") => `(tactic| (k_here; (rename Fr _ _ _ _ => lF'); (with_unfolding_all refine' For_invVF lF' ?k1 ?k2 ?_; (case k1 => exact rfl); (case k2 => exact rfl); k_whole)))
local macro_rules | `(tactic| walk_at "pyIter ref") => `(tactic| refine Stop.out ?_)
local macro_rules | `(tactic| walk_at "MINE sameX") => `(tactic| (intro z hx h2 h3; simp only [List.forall_mem_cons, List.not_mem_nil, false_implies, implies_true, and_true, ne_eq] at h2; simp only [List.contains_cons, List.contains_nil, Bool.or_false, Bool.or_eq_false_iff, beq_eq_false_iff_ne, ne_eq] at h3; simp only [kstB, hx, h2, h3, List.contains_cons, List.contains_nil, Bool.or_false, Bool.or_eq_true, beq_iff_eq, or_self, Bool.false_eq_true, reduceIte]))
local macro_rules | `(tactic| walk_at "InvEndG") => `(tactic| refine Stop.out ?_)

theorem text1 (w : World) (op nm : Str) (t1 t2 : Tok) (la : Addr) (fs : List Str) (hl : op.length + sumLen fs + nm.length ≤ 8192) : Claim w 1 65 [.str op t1, .ref la, .str nm t2] (fun news => ∃ vs n, (la, listOf vs.toArray n) ∈ news ∧ StrsAre vs fs) (RetStr (textF op fs nm)) := by
  unfold Claim
  k_fill
  intro p loose mean mg mb dp un gd cn cs a ccd cl outer A₀ base h₀ L m news s Q E B F X N T hk hdp hun hpre hret
  obtain ⟨vs, nn, hm, hs⟩ := hpre
  walk_at "MINE enter"
  k_steps
  unfold Stop
  (rename Fr _ _ _ _ => lF; rename News _ _ _ _ => lN)
  refine' loopL (σ := Str × Tok) (l := la) (vs := vs) (nn := nn) (fun _ => news) (fun c => [(Str.ofString "told", Value.str c.1 c.2)]) [] (fun i c => c.1 = textG (op ++ Str.ofString "/") (fs.take i)) (_, _) ?zL ?zh (fun _ => hm) lF lN ?zk ?zp ?zt ?zd
  case zL => exact rfl
  case zh => exact rfl
  case zk => kst_all
  case zp => rfl
  case zt =>
    clear lF lN
    rintro i v ⟨tx, tt⟩ u hz tkz own hv hoff hP F1 N1
    dsimp only at hP F1 N1
    k_fold
    have hi : i < fs.length := by rw [← hs.length]; exact (List.getElem?_eq_some_iff.mp hv).1
    obtain ⟨f, hf⟩ : ∃ f, fs[i]? = some f := ⟨fs[i], List.getElem?_eq_getElem hi⟩
    obtain ⟨tf, hx⟩ := hs.get i f hf
    rw [hv] at hx
    cases hx
    have hP2 := textG_take (t := op ++ Str.ofString "/") hf
    have hl1 := textG_len (fs.take i) (op ++ Str.ofString "/")
    have hl3 := textG_len (fs.take (i + 1)) (op ++ Str.ofString "/")
    have hl2 := sumLen_take fs i
    have hl4 := sumLen_take fs (i + 1)
    rw [← hP] at hP2 hl1
    rw [hP2, Str.length_append, Str.length_append] at hl3
    rw [Str.length_append] at hl1
    k_steps
    unfold Stop
    (rename Fr _ _ _ _ => lF; rename News _ _ _ _ => lN)
    refine' lj_end (_, _) lF lN ?yn ?yo ?ya ?yk ?yr ?yp
    case yn => exact fun p hp => List.mem_append.mpr (.inl hp)
    case yo => exact fun p hp => List.mem_append.mpr (.inr hp)
    case ya => exact hoff
    case yk => kst_all
    case yr => walk_at "MINE sameX"
    case yp => exact hP2.symm
  case zd =>
    clear lF lN
    rintro ⟨tx, tt⟩ u hz tkz hP F1 N1
    dsimp only at hP F1 N1
    dsimp only
    have hl1 := textG_len fs (op ++ Str.ofString "/")
    rw [hs.length, List.take_length] at hP
    rw [← hP, Str.length_append] at hl1
    have e9 : (Str.ofString "/").length = 1 := by decide
    k_steps
    (rename Fr _ _ _ _ => lF; rename News _ _ _ _ => lN)
    exact RetStr.ret' hret (by rw [hP]; rfl) lF lN
end Mine

-- ME
namespace Mine
theorem calmME : True := by
  w_top off
  trivial
end Mine
namespace Mine
local macro_rules | `(tactic| walk_at "MINE enter") => `(tactic| (refine wpAny_call ?_; k_dflt (refine' code_def ?k1 ?k2 ?k3 ?k4 ?k5 ?kA ?kF ?kK ?k6 ?k7 ?k8 ?k9 ?kB ?_ ?c2 ?c3 ?c4 ?c5; (case kA => exact rfl); (case kF => exact rfl); (case kK => assumption); (case k1 => k_asm); (case k2 => k_asm); (case k3 => k_asm); (case k4 => k_asm); (case k5 => k_asm); (case k6 => k_is); (case k7 => k_is); (case k8 => ktr_room); (case k9 => first | exact BindsTo.of_eq rfl | exact binds_K (by k_in) rfl (by k_is) rfl rfl rfl); (case c5 => decide); (case kB => exact locs rfl); (case c2 => exact rfl); (case c3 => exact rfl); (case c4 => exact rfl); k_whole; intro g' L' h' FG' F' N' B' X' T'; (try dsimp only); (try k_lift B'); (try k_fold))))
local macro_rules | `(tactic| walk_at "MINE enterC") => `(tactic| (refine wpAny_call ?_; k_dflt (refine' code_defC ?k1 ?k2 ?k3 ?k4 ?k5 ?kA ?kF ?kK ?k6 ?k7 ?k8 ?k9 ?kB ?kD ?_ ?c2 ?c3 ?c4; (case kA => exact rfl); (case kF => exact rfl); (case kK => assumption); (case k1 => k_asm); (case k2 => k_asm); (case k3 => k_asm); (case k4 => k_asm); (case k5 => k_asm); (case k6 => k_is); (case k7 => k_is); (case k8 => ktr_room); (case k9 => first | exact BindsTo.of_eq rfl | exact binds_K (by k_in) rfl (by k_is) rfl rfl rfl); (case kB => exact rfl); (case kD => decide +kernel); (case c2 => exact rfl); (case c3 => exact rfl); (case c4 => exact rfl); k_whole; intro g' L' h' tk' cells' FG' F' N' Y' B' X' T' l1; (try k_lt l1); k_cells Y'; (try simp only [List.cons_append, List.nil_append] at N'); (try dsimp only); (try k_lift B'); (try k_fold))))
local macro_rules | `(tactic| walk_at "CompSrc") => `(tactic| refine Stop.out ?_)
def FOLD : List Str := [Str.ofString "f", Str.ofString "g.h", Str.ofString "...", Str.ofString "é é"]
def RetList (P : List Str → Prop) : Kont := fun h₀ L m news s Q => ∀ fs vs n a h' tk', P fs → StrsAre vs fs → Fr h₀ L h' m → News h₀ L h' ((a, listOf vs.toArray n) :: news) → (∀ p ∈ news, p.1 ≠ a) → Q (.ref a) { s with heap := h', toks := tk' }
def DownOk (fs : List Str) : Prop := fs.length ≤ 2 ∧ ∀ f ∈ fs, f ∈ FOLD

theorem fold_is {K : Frag} {h : Heap} (X : K.In h) (e : K.lookup 44 = some ⟨.type "list", none, .seq #[.str (Str.ofString "f") 229, .str (Str.ofString "g.h") 230, .str (Str.ofString "...") 231, .str (Str.ofString "é é") 232] 0, #[]⟩) :
    ∃ l : List Value, h.IsList 44 l.toArray ∧ StrsAre l FOLD := ⟨_, lstK (l := [.str (Str.ofString "f") 229, .str (Str.ofString "g.h") 230, .str (Str.ofString "...") 231, .str (Str.ofString "é é") 232]) X e, .cons _ _ (.cons _ _ (.cons _ _ (.cons _ _ .nil)))⟩
theorem item_fold {prog : Program} {w : World} {A : Around} {E : Value → Shared → Prop} {s : Shared} {value slice : Expr} {k : Int} {u : Tok} {Q : Value → Shared → Prop} (X : (hd.heap_39 w.params).In s.heap)
    (h : ∀ t', Q (.str (FOLD.getD (k.fmod 4).toNat Str.empty) t') s)
    (hs : subscripted slice false (.ref 44) (.int (k.fmod 4) u) = operate [.ref 44, .int (k.fmod 4) u] (getItem (.ref 44) (.int (k.fmod 4) u)) := by with_unfolding_all rfl) (hg : ∀ r, letTemporaryGo value (.ref 44) r = pure () := by intro _; with_unfolding_all rfl) :
    wpAny (model prog w) A (subscriptTail value slice (.ref 44) (.int (k.fmod 4) u)) Q E s := by
  obtain ⟨l, h1, h2⟩ := fold_is X (by rfl)
  have h3 : 0 ≤ k.fmod 4 := Int.fmod_nonneg_of_pos k (by decide)
  have h4 : k.fmod 4 < 4 := Int.fmod_lt_of_pos k (by decide)
  exact item_strsA h1 h2 h3 (by show k.fmod 4 < 4; omega) (by omega) h hs hg
local macro_rules | `(tactic| walk_at "subscriptTail Name BinOp ref int") => `(tactic| (k_here; (with_reducible show wpAny _ _ (subscriptTail _ _ (Value.ref 44) (Value.int _ _)) _ _ _); k_dflt (refine' item_fold ?_ ?_; (focus k_in); intro tI)))
theorem fold_mem (k : Int) : FOLD.getD (k.fmod 4).toNat Str.empty ∈ FOLD := by
  have h1 : 0 ≤ k.fmod 4 := Int.fmod_nonneg_of_pos k (by decide)
  have h2 : k.fmod 4 < 4 := Int.fmod_lt_of_pos k (by decide)
  have h3 : (k.fmod 4).toNat < FOLD.length := by
    have : FOLD.length = 4 := rfl
    omega
  rw [List.getD_eq_getElem?_getD, List.getElem?_eq_getElem h3]
  exact List.getElem_mem h3
theorem off1_ne {D : Addr} : ∀ {l : Led}, LCg.Off1 D l → ∀ p ∈ l, p.1 ≠ D
  | [], _, _, h => nomatch h
  | _ :: _, x, p, h => by
    rcases List.mem_cons.mp h with rfl | h
    · exact x.1
    · exact off1_ne x.2 p h
theorem down1 (w : World) (k : Int) (tk : Tok) : Claim w 1 70 [.int k tk] (fun _ => True) (RetList DownOk) := by
  unfold Claim
  k_fill
  intro p loose mean mg mb dp un gd cn cs a ccd cl outer A₀ base h₀ L m news s Q E B F X N T hk hdp hun hpre hret
  walk_at "MINE enterC"
  k_steps
  unfold Stop
  have hf0 : 0 ≤ k.fmod 3 := Int.fmod_nonneg_of_pos k (by decide)
  have hf1 : k.fmod 3 < 3 := Int.fmod_lt_of_pos k (by decide)
  k_dflt refine LCg.CompSrc.range (by rfl) (by k_asm) (by k_asm) (by assumption) (small_one (by decide) (by decide) (by omega) (by omega)) (rangeSize_nat _ _) (by rw [PySem.sizeLine_eq]; omega) ?_
  intro g'
  refine' kct_range (fun j => FOLD.getD ((k + 3 * j).fmod 4).toNat Str.empty) (fun k' t' I' oI' C' oC' D' m' ys' h' tk' E' hlo' hhi' hC' hx' F' N' off' ne' hM' => ?_) ?_
  · k_fold
    k_steps
    refine' LCg.CompEnd.intro (by with_reducible assumption) (by with_reducible assumption) _ ?zs off' trivial ?ze
    case ze => exact kct_el rfl rfl rfl
    case zs => exact fun p hp => hp
  · unfold KPfDone
    intro ys hc hl
    unfold LCg.FinE
    intro D' h9 tk9 F9 N9 o9
    (try dsimp only)
    k_steps
    (rename Fr _ _ _ _ => lF; rename News _ _ _ _ => lN)
    have hc' : CarriedAll ys (((rangeKs 0 (k.fmod 3 - 0).toNat).map fun j => FOLD.getD ((k + 3 * j).fmod 4).toNat Str.empty).map PyData.str) := by
      rw [List.map_map]
      exact hc
    refine hret _ ys ys.length D' _ _ ?_ (StrsAre.of_carried hc') lF (cb_drop lN ?_) fun p hp => off1_ne o9 p (.tail _ hp)
    · refine ⟨by rw [List.length_map, hl]; omega, fun f hf => ?_⟩
      obtain ⟨j, _, rfl⟩ := List.mem_map.mp hf
      exact fold_mem _
    · intro p hp
      rcases List.mem_cons.mp hp with rfl | hp
      · exact .head _
      · exact .tail _ (.tail _ hp)
end Mine

-- MF
namespace Mine
theorem calmMF : True := by
  w_top off
  trivial
end Mine
namespace Mine
local macro_rules | `(tactic| walk_at "MINE enter") => `(tactic| (refine wpAny_call ?_; k_dflt (refine' code_def ?k1 ?k2 ?k3 ?k4 ?k5 ?kA ?kF ?kK ?k6 ?k7 ?k8 ?k9 ?kB ?_ ?c2 ?c3 ?c4 ?c5; (case kA => exact rfl); (case kF => exact rfl); (case kK => assumption); (case k1 => k_asm); (case k2 => k_asm); (case k3 => k_asm); (case k4 => k_asm); (case k5 => k_asm); (case k6 => k_is); (case k7 => k_is); (case k8 => ktr_room); (case k9 => first | exact BindsTo.of_eq rfl | exact binds_K (by k_in) rfl (by k_is) rfl rfl rfl); (case c5 => decide); (case kB => exact locs rfl); (case c2 => exact rfl); (case c3 => exact rfl); (case c4 => exact rfl); k_whole; intro g' L' h' FG' F' N' B' X' T'; (try dsimp only); (try k_lift B'); (try k_fold))))
def NAMES : List Str := [Str.ofString "n", Str.ofString "a.b", Str.ofString "...", Str.ofString "", Str.ofString "é", Str.ofString "..a"]
def FRAGS : List Str := [Str.ofString "", Str.ofString "#", Str.ofString "#x", Str.ofString "#a/b", Str.ofString "#../c", Str.ofString "#?q"]
def OPENS : List Str := [Str.ofString "s://h", Str.ofString "ht.tp://ex.org", Str.ofString "s:", Str.ofString "x-y:", Str.ofString "s://", Str.ofString "s://h:80"]
def PIECES : List Str := [Str.ofString "", Str.ofString "a", Str.ofString "b/c", Str.ofString "d.e", Str.ofString "", Str.ofString "é", Str.ofString "../", Str.ofString "f?g"]
theorem lt_ne {l : Led} {a : Addr} (h : ∀ p ∈ l, p.1 < a) : ∀ p ∈ l, p.1 ≠ a := fun p hp => Nat.ne_of_lt (h p hp)
theorem names1 (w : World) : Claim w 1 43 [] (fun _ => True) (RetList (· = NAMES)) := by
  unfold Claim
  k_fill
  intro p loose mean mg mb dp un gd cn cs a ccd cl outer A₀ base h₀ L m news s Q E B F X N T hk hdp hun hpre hret
  walk_at "MINE enter"
  k_steps
  (rename Fr _ _ _ _ => lF; rename News _ _ _ _ => lN)
  exact hret _ _ _ _ _ _ rfl (.cons _ _ (.cons _ _ (.cons _ _ (.cons _ _ (.cons _ _ (.cons _ _ .nil)))))) lF lN (lt_ne (by with_reducible assumption))
theorem frags1 (w : World) : Claim w 1 51 [] (fun _ => True) (RetList (· = FRAGS)) := by
  unfold Claim
  k_fill
  intro p loose mean mg mb dp un gd cn cs a ccd cl outer A₀ base h₀ L m news s Q E B F X N T hk hdp hun hpre hret
  walk_at "MINE enter"
  k_steps
  (rename Fr _ _ _ _ => lF; rename News _ _ _ _ => lN)
  exact hret _ _ _ _ _ _ rfl (.cons _ _ (.cons _ _ (.cons _ _ (.cons _ _ (.cons _ _ (.cons _ _ .nil)))))) lF lN (lt_ne (by with_reducible assumption))
theorem opens1 (w : World) : Claim w 1 36 [] (fun _ => True) (RetList (· = OPENS)) := by
  unfold Claim
  k_fill
  intro p loose mean mg mb dp un gd cn cs a ccd cl outer A₀ base h₀ L m news s Q E B F X N T hk hdp hun hpre hret
  walk_at "MINE enter"
  k_steps
  (rename Fr _ _ _ _ => lF; rename News _ _ _ _ => lN)
  exact hret _ _ _ _ _ _ rfl (.cons _ _ (.cons _ _ (.cons _ _ (.cons _ _ (.cons _ _ (.cons _ _ .nil)))))) lF lN (lt_ne (by with_reducible assumption))
theorem pieces1 (w : World) : Claim w 1 58 [] (fun _ => True) (RetList (· = PIECES)) := by
  unfold Claim
  k_fill
  intro p loose mean mg mb dp un gd cn cs a ccd cl outer A₀ base h₀ L m news s Q E B F X N T hk hdp hun hpre hret
  walk_at "MINE enter"
  k_steps
  (rename Fr _ _ _ _ => lF; rename News _ _ _ _ => lN)
  exact hret _ _ _ _ _ _ rfl (.cons _ _ (.cons _ _ (.cons _ _ (.cons _ _ (.cons _ _ (.cons _ _ (.cons _ _ (.cons _ _ .nil)))))))) lF lN (lt_ne (by with_reducible assumption))
end Mine

-- MG
namespace Mine
theorem calmMG : True := by
  w_top off
  trivial
end Mine
namespace Mine
theorem item_any {prog : Program} {w : World} {A : Around} {E : Value → Shared → Prop} {s : Shared} {value slice : Expr} {h₀ : Heap} {L a : Addr} {l : List Value} {n : Nat} {news : Led} {ys : List Str} {k : Int} {u : Tok} {Q : Value → Shared → Prop}
    (N : News h₀ L s.heap news) (hm : (a, listOf l.toArray n) ∈ news) (hi : StrsAre l ys) (h0 : 0 ≤ k) (hk : k < ys.length) (hfit : k < 2 ^ 63)
    (h : ∀ x t', x ∈ ys → Q (.str x t') s)
    (hs : subscripted slice false (.ref a) (.int k u) = operate [.ref a, .int k u] (getItem (.ref a) (.int k u)) := by with_unfolding_all rfl) (hg : ∀ r, letTemporaryGo value (.ref a) r = pure () := by intro _; with_unfolding_all rfl) :
    wpAny (model prog w) A (subscriptTail value slice (.ref a) (.int k u)) Q E s := by
  refine item_strsA (N.isList hm) hi h0 hk hfit (fun t' => h _ t' ?_) hs hg
  have h3 : k.toNat < ys.length := by omega
  rw [List.getD_eq_getElem?_getD, List.getElem?_eq_getElem h3]
  exact List.getElem_mem h3
theorem all_len {ys : List Str} {n : Nat} (h : ys.all (fun x => decide (x.length ≤ n)) = true) {x : Str} (hx : x ∈ ys) : x.length ≤ n := by
  have := List.all_eq_true.mp h x hx
  exact of_decide_eq_true this
theorem names_len {x : Str} (h : x ∈ NAMES) : x.length ≤ 3 := all_len (ys := NAMES) (by decide) h
theorem frags_len {x : Str} (h : x ∈ FRAGS) : x.length ≤ 5 := all_len (ys := FRAGS) (by decide) h
theorem fold_len {x : Str} (h : x ∈ FOLD) : x.length ≤ 3 := all_len (ys := FOLD) (by decide) h
theorem down_len {fs : List Str} (h : DownOk fs) : sumLen fs ≤ 8 := by
  obtain ⟨h1, h2⟩ := h
  match fs, h1, h2 with
  | [], _, _ => decide
  | [a], _, h2 => have := fold_len (h2 a (.head _)); simp only [sumLen, List.map_cons, List.map_nil, List.sum_cons, List.sum_nil]; omega
  | [a, b], _, h2 => have := fold_len (h2 a (.head _)); have := fold_len (h2 b (.tail _ (.head _))); simp only [sumLen, List.map_cons, List.map_nil, List.sum_cons, List.sum_nil]; omega
theorem textF_len (op : Str) (fs : List Str) (nm : Str) : (textF op fs nm).length = op.length + 1 + sumLen fs + nm.length := by
  unfold textF
  rw [Str.length_append, textG_len, Str.length_append, show (Str.ofString "/").length = 1 by decide]
def RetTxt (x : Str) (n : Nat) : Kont := fun h₀ L m news s Q => ∀ t h' tk', x.length = n → Fr h₀ L h' m → News h₀ L h' news → Q (.str x t) { s with heap := h', toks := tk' }
theorem text2 (w : World) (op nm : Str) (t1 t2 : Tok) (la : Addr) (fs : List Str) (hl : op.length + sumLen fs + nm.length ≤ 8192) : Claim w 1 65 [.str op t1, .ref la, .str nm t2] (fun news => ∃ vs n, (la, listOf vs.toArray n) ∈ news ∧ StrsAre vs fs) (RetTxt (textF op fs nm) (op.length + 1 + sumLen fs + nm.length)) := by
  intro p loose mean mg mb dp un gd cn cs a ccd cl outer A₀ base h₀ L m news s Q E B F X N T hk hdp hun hpre hret
  exact text1 w op nm t1 t2 la fs hl p loose mean mg mb dp un gd cn cs a ccd cl outer A₀ base h₀ L m news s Q E B F X N T hk hdp hun hpre (fun t h' tk' F' N' => hret t h' tk' (textF_len op fs nm) F' N')
local macro_rules | `(tactic| walk_at "MINE enter") => `(tactic| (refine wpAny_call ?_; k_dflt (refine' code_def ?k1 ?k2 ?k3 ?k4 ?k5 ?kA ?kF ?kK ?k6 ?k7 ?k8 ?k9 ?kB ?_ ?c2 ?c3 ?c4 ?c5; (case kA => exact rfl); (case kF => exact rfl); (case kK => assumption); (case k1 => k_asm); (case k2 => k_asm); (case k3 => k_asm); (case k4 => k_asm); (case k5 => k_asm); (case k6 => k_is); (case k7 => k_is); (case k8 => ktr_room); (case k9 => first | exact BindsTo.of_eq rfl | exact binds_K (by k_in) rfl (by k_is) rfl rfl rfl); (case c5 => decide); (case kB => exact locs rfl); (case c2 => exact rfl); (case c3 => exact rfl); (case c4 => exact rfl); k_whole; intro g' L' h' FG' F' N' B' X' T'; (try dsimp only); (try k_lift B'); (try k_fold))))
local macro_rules | `(tactic| walk_at "MINE use") => `(tactic| (
  (case k1 => first | k_asm | fail "use: the frames below"); (case k2 => first | k_asm | fail "use: the frame"); (case k3 => first | k_asm | fail "use: the written part"); (case k4 => first | k_asm | fail "use: the ledger"); (case k5 => first | k_asm | fail "use: the top");
  (case kK => first | exact rfl | assumption | fail "use: no def"); (case kd => first | ktr_room | fail "use: room"); (case ku => first | ktr_units | fail "use: units")))
local macro_rules | `(tactic| walk_at "call ref") => `(tactic| (k_here; (with_reducible show wpAny _ _ (call (Value.ref 43) _) _ _ _); k_dflt (refine' Claim.use (names1 _) ?k1 ?k2 ?k3 ?k4 ?k5 ?kK ?kd ?ku trivial ?_; walk_at "MINE use"; (intro fs9 vs9 n9 a9 h9 tk9 e9 S9 F9 N9 l9); (try dsimp only at e9); (subst e9); (try k_fold))))
local macro_rules | `(tactic| walk_at "call ref") => `(tactic| (k_here; (with_reducible show wpAny _ _ (call (Value.ref 51) _) _ _ _); k_dflt (refine' Claim.use (frags1 _) ?k1 ?k2 ?k3 ?k4 ?k5 ?kK ?kd ?ku trivial ?_; walk_at "MINE use"; (intro fs9 vs9 n9 a9 h9 tk9 e9 S9 F9 N9 l9); (try dsimp only at e9); (subst e9); (try k_fold))))
local macro_rules | `(tactic| walk_at "call ref") => `(tactic| (k_here; (with_reducible show wpAny _ _ (call (Value.ref 70) [Value.int _ _]) _ _ _); k_dflt (refine' Claim.use (down1 _ _ _) ?k1 ?k2 ?k3 ?k4 ?k5 ?kK ?kd ?ku trivial ?_; walk_at "MINE use"; (intro fs9 vs9 n9 a9 h9 tk9 D9 S9 F9 N9 l9); (have e9 := down_len D9); (try k_fold))))
local macro_rules | `(tactic| walk_at "call ref") => `(tactic| (k_here; (with_reducible show wpAny _ _ (call (Value.ref 65) [Value.str _ _, Value.ref _, Value.str _ _]) _ _ _); k_dflt (refine' Claim.use (text2 _ _ _ _ _ _ _ ?kl) ?k1 ?k2 ?k3 ?k4 ?k5 ?kK ?kd ?ku ?kp ?_; walk_at "MINE use"; (case kp => first | exact ⟨_, _, List.Mem.head _, by assumption⟩ | exact ⟨_, _, List.Mem.tail _ (List.Mem.head _), by assumption⟩ | exact ⟨_, _, List.Mem.tail _ (List.Mem.tail _ (List.Mem.head _)), by assumption⟩ | exact ⟨_, _, List.Mem.tail _ (List.Mem.tail _ (List.Mem.tail _ (List.Mem.head _))), by assumption⟩); (case kl => (try (have eE : Str.length (Str.ofString "") = 0 := by decide)); omega); (intro t9 h9 tk9 eT9 F9 N9); (try k_fold))))
local macro_rules | `(tactic| walk_at "subscriptTail Name BinOp ref int") => `(tactic| (k_here; k_dflt (refine' item_any (ys := NAMES) (by k_asm) (by k_mem) (by assumption) (Int.fmod_nonneg_of_pos _ (by decide)) (Int.fmod_lt_of_pos _ (by decide)) (Int.lt_of_lt_of_le (Int.fmod_lt_of_pos _ (by decide)) (by decide)) ?_ ?h1 ?h2; (case h1 => with_unfolding_all rfl); (case h2 => intro _; with_unfolding_all rfl); intro x9 t9 m9; have e9 := names_len m9)))
local macro_rules | `(tactic| walk_at "subscriptTail Name BinOp ref int") => `(tactic| (k_here; k_dflt (refine' item_any (ys := FRAGS) (by k_asm) (by k_mem) (by assumption) (Int.fmod_nonneg_of_pos _ (by decide)) (Int.fmod_lt_of_pos _ (by decide)) (Int.lt_of_lt_of_le (Int.fmod_lt_of_pos _ (by decide)) (by decide)) ?_ ?h1 ?h2; (case h1 => with_unfolding_all rfl); (case h2 => intro _; with_unfolding_all rfl); intro x9 t9 m9; have e9 := frags_len m9)))

theorem mul_len (k : Int) : (Txt.mul (Str.ofString "../") ((k.fdiv 8).fmod 4)).length ≤ 12 := by
  have h1 := Int.fmod_nonneg_of_pos (k.fdiv 8) (b := 4) (by decide)
  have h2 := Int.fmod_lt_of_pos (k.fdiv 8) (b := 4) (by decide)
  generalize (k.fdiv 8).fmod 4 = j at h1 h2
  rcases (by omega : j = 0 ∨ j = 1 ∨ j = 2 ∨ j = 3) with rfl | rfl | rfl | rfl <;> decide
def RawWay (kd up : Int) (fs : List Str) (nm pa : Str) (j : Int) : Prop :=
  (kd = 0 ∧ up = 0 ∧ fs = [] ∧ nm = Str.ofString "" ∧ pa = Str.ofString "") ∨
  (kd = 1 ∧ up = j ∧ pa = Txt.mul (Str.ofString "../") j ++ Txt.slice (textF (Str.ofString "") fs nm) (some 1) none) ∨
  (kd = 2 ∧ up = j ∧ pa = Str.ofString "./" ++ Txt.mul (Str.ofString "../") j ++ Txt.slice (textF (Str.ofString "") fs nm) (some 1) none) ∨
  (kd = 3 ∧ up = j + 1 ∧ fs = [] ∧ nm = Str.ofString "" ∧ pa = Txt.mul (Str.ofString "../") j ++ Str.ofString "..") ∨
  (kd = 4 ∧ up = 0 ∧ fs = [] ∧ nm = Str.ofString "" ∧ pa = Str.ofString ".") ∨
  (kd = 5 ∧ up = 0 ∧ pa = Str.ofString "/" ++ Txt.slice (textF (Str.ofString "") fs nm) (some 1) none) ∨
  (kd = 6 ∧ up = 0 ∧ pa = Str.ofString "//o.th/" ++ Txt.slice (textF (Str.ofString "") fs nm) (some 1) none) ∨
  (kd ≠ 0 ∧ kd ≠ 1 ∧ kd ≠ 2 ∧ kd ≠ 3 ∧ kd ≠ 4 ∧ kd ≠ 5 ∧ kd ≠ 6 ∧ up = j ∧ pa = Txt.mul (Str.ofString "../") j ++ Str.ofString "./" ++ Txt.slice (textF (Str.ofString "") fs nm) (some 1) none)
def RawRef (kd up : Int) (fs : List Str) (nm fr pa : Str) : Prop := DownOk fs ∧ nm ∈ NAMES ∧ fr ∈ FRAGS ∧ ∃ j : Int, 0 ≤ j ∧ j < 4 ∧ RawWay kd up fs nm pa j
theorem downNil : DownOk [] := ⟨Nat.zero_le _, fun _ h => nomatch h⟩
theorem nameNil : Str.ofString "" ∈ NAMES := .tail _ (.tail _ (.tail _ (.head _)))
def RetRef : Kont := fun h₀ L m news s Q => ∀ (kd up : Int) (fs : List Str) (nm fr pa : Str) (vs : List Value) (n : Nat) (ld a : Addr) (t1 t2 t3 t4 t5 : Tok) h' tk', RawRef kd up fs nm fr pa → StrsAre vs fs → Fr h₀ L h' m →
  News h₀ L h' ((a, ({ cls := .type "tuple", data := .seq #[.int kd t1, .int up t2, .ref ld, .str nm t3, .str fr t4, .str pa t5] 0 } : Obj)) :: (ld, listOf vs.toArray n) :: news) → Q (.ref a) { s with heap := h', toks := tk' }
local macro_rules | `(tactic| walk_at "MINE sub") => `(tactic| (intro p hp; rcases List.mem_cons.mp hp with hp | hp; (focus (subst hp; exact List.Mem.head _)); rcases List.mem_cons.mp hp with hp | hp; (focus (subst hp; first | exact List.Mem.tail _ (List.Mem.head _) | exact List.Mem.tail _ (List.Mem.tail _ (List.Mem.head _)) | exact List.Mem.tail _ (List.Mem.tail _ (List.Mem.tail _ (List.Mem.head _))))); (first | exact List.Mem.tail _ (List.Mem.tail _ (List.Mem.tail _ (List.Mem.tail _ hp))) | exact List.Mem.tail _ (List.Mem.tail _ (List.Mem.tail _ (List.Mem.tail _ (List.Mem.tail _ hp)))))))
theorem ref1 (w : World) (k : Int) (tk : Tok) : Claim w 2 84 [.int k tk] (fun _ => True) RetRef := by
  unfold Claim
  k_fill
  intro p loose mean mg mb dp un gd cn cs a ccd cl outer A₀ base h₀ L m news s Q E B F X N T hk hdp hun hpre hret
  have hM := mul_len k
  have hM1 : Str.length (Str.ofString "./") = 2 := by decide
  have hM2 : Str.length (Str.ofString "..") = 2 := by decide
  have hM3 : Str.length (Str.ofString "//o.th/") = 7 := by decide
  have hM4 : Str.length (Str.ofString "/") = 1 := by decide
  have hM5 : Str.length (Str.ofString "") = 0 := by decide
  have j0 := Int.fmod_nonneg_of_pos (k.fdiv 8) (b := 4) (by decide)
  have j1 := Int.fmod_lt_of_pos (k.fdiv 8) (b := 4) (by decide)
  walk_at "MINE enter"
  k_steps
  all_goals (rename Fr _ _ _ _ => lF; rename News _ _ _ _ => lN)
  all_goals first
    | exact hret _ _ [] _ _ _ [] 0 _ _ _ _ _ _ _ _ _ ⟨downNil, nameNil, by with_reducible assumption, _, j0, j1, .inl ⟨by with_reducible assumption, rfl, rfl, rfl, rfl⟩⟩ .nil lF (cb_drop lN (by walk_at "MINE sub"))
    | exact hret _ _ _ _ _ _ _ _ _ _ _ _ _ _ _ _ _ ⟨by with_reducible assumption, by with_reducible assumption, by with_reducible assumption, _, j0, j1, .inr (.inl ⟨by with_reducible assumption, rfl, rfl⟩)⟩ (by with_reducible assumption) lF (cb_drop lN (by walk_at "MINE sub"))
    | exact hret _ _ _ _ _ _ _ _ _ _ _ _ _ _ _ _ _ ⟨by with_reducible assumption, by with_reducible assumption, by with_reducible assumption, _, j0, j1, .inr (.inr (.inl ⟨by with_reducible assumption, rfl, rfl⟩))⟩ (by with_reducible assumption) lF (cb_drop lN (by walk_at "MINE sub"))
    | exact hret _ _ [] _ _ _ [] 0 _ _ _ _ _ _ _ _ _ ⟨downNil, nameNil, by with_reducible assumption, _, j0, j1, .inr (.inr (.inr (.inl ⟨by with_reducible assumption, rfl, rfl, rfl, rfl⟩)))⟩ .nil lF (cb_drop lN (by walk_at "MINE sub"))
    | exact hret _ _ [] _ _ _ [] 0 _ _ _ _ _ _ _ _ _ ⟨downNil, nameNil, by with_reducible assumption, _, j0, j1, .inr (.inr (.inr (.inr (.inl ⟨by with_reducible assumption, rfl, rfl, rfl, rfl⟩))))⟩ .nil lF (cb_drop lN (by walk_at "MINE sub"))
    | exact hret _ _ _ _ _ _ _ _ _ _ _ _ _ _ _ _ _ ⟨by with_reducible assumption, by with_reducible assumption, by with_reducible assumption, _, j0, j1, .inr (.inr (.inr (.inr (.inr (.inl ⟨by with_reducible assumption, rfl, rfl⟩)))))⟩ (by with_reducible assumption) lF (cb_drop lN (by walk_at "MINE sub"))
    | exact hret _ _ _ _ _ _ _ _ _ _ _ _ _ _ _ _ _ ⟨by with_reducible assumption, by with_reducible assumption, by with_reducible assumption, _, j0, j1, .inr (.inr (.inr (.inr (.inr (.inr (.inl ⟨by with_reducible assumption, rfl, rfl⟩))))))⟩ (by with_reducible assumption) lF (cb_drop lN (by walk_at "MINE sub"))
    | exact hret _ _ _ _ _ _ _ _ _ _ _ _ _ _ _ _ _ ⟨by with_reducible assumption, by with_reducible assumption, by with_reducible assumption, _, j0, j1, .inr (.inr (.inr (.inr (.inr (.inr (.inr ⟨by with_reducible assumption, by with_reducible assumption, by with_reducible assumption, by with_reducible assumption, by with_reducible assumption, by with_reducible assumption, by with_reducible assumption, rfl, rfl⟩))))))⟩ (by with_reducible assumption) lF (cb_drop lN (by walk_at "MINE sub"))
end Mine

-- MS
namespace Mine
theorem calmMS : True := by
  w_top off
  trivial
end Mine
namespace Mine
theorem pick_from1 (vs : List Value) : slicePick vs.toArray (some 1) none none = (vs.drop 1).toArray := by
  rw [kms_pick_eq]
  congr 1
  show (vs.drop (kms_lo (some 1) vs.length)).take (kms_hi none vs.length - kms_lo (some 1) vs.length) = vs.drop 1
  have e1 : kms_lo (some 1) vs.length = min 1 vs.length := rfl
  have e2 : kms_hi none vs.length = vs.length := rfl
  rw [e1, e2, kmk_drop_min, List.take_of_length_le (by rw [List.length_drop]; omega)]
theorem pick_to (vs : List Value) (y : Int) (h : 0 ≤ y) : slicePick vs.toArray none (some y) none = (vs.take y.toNat).toArray := by
  rw [kms_pick_eq]
  congr 1
  show (vs.drop (kms_lo none vs.length)).take (kms_hi (some y) vs.length - kms_lo none vs.length) = vs.take y.toNat
  have e1 : kms_lo none vs.length = 0 := rfl
  have e2 : kms_hi (some y) vs.length = min y.toNat vs.length := if_neg (by omega)
  rw [e1, e2, List.drop_zero, Nat.sub_zero, kmk_take_min]
def hashG (t : Str) (fs : List Str) : Str := fs.foldl (fun t f => t ++ (Str.ofString "#" ++ f)) t
theorem hashG_snoc (t : Str) (fs : List Str) (f : Str) : hashG t (fs ++ [f]) = hashG t fs ++ (Str.ofString "#" ++ f) := by unfold hashG; rw [List.foldl_append]; rfl
theorem hashG_len (fs : List Str) : ∀ t : Str, (hashG t fs).length = t.length + sumLen fs := by
  induction fs with
  | nil => intro t; rfl
  | cons f fs ih =>
    intro t
    have e : hashG t (f :: fs) = hashG (t ++ (Str.ofString "#" ++ f)) fs := rfl
    rw [e, ih, Str.length_append, Str.length_append, show (Str.ofString "#").length = 1 by decide]
    simp only [sumLen, List.map_cons, List.sum_cons]
    omega
theorem hashG_take {t : Str} {fs : List Str} {i : Nat} {f : Str} (h : fs[i]? = some f) : hashG t (fs.take (i + 1)) = hashG t (fs.take i) ++ (Str.ofString "#" ++ f) := by
  rw [List.take_add_one, h]; exact hashG_snoc t _ f
theorem pieces_len {x : Str} (h : x ∈ PIECES) : x.length ≤ 3 := all_len (ys := PIECES) (by decide) h
theorem sumLen_le {fs : List Str} {n : Nat} (h : ∀ x ∈ fs, x.length ≤ n) : sumLen fs ≤ (n + 1) * fs.length := by
  induction fs with
  | nil => exact Nat.zero_le _
  | cons f fs ih =>
    have h1 := h f (.head _)
    have h2 := ih fun x hx => h x (.tail _ hx)
    simp only [sumLen, List.map_cons, List.sum_cons, List.length_cons] at *
    rw [Nat.mul_succ]
    omega
end Mine

-- MQ
namespace Mine
theorem calmMQ : True := by
  w_top off
  trivial
end Mine
namespace Mine
abbrev L (x : Str) : List Nat := x.cps.toList
theorem L_len (x : Str) : x.length = (L x).length := by simp [Str.length]
theorem L_app (x y : Str) : L (x ++ y) = L x ++ L y := by
  show (x ++ y).cps.toList = _
  rw [Str.cps_append, Array.toList_append]
theorem L_ext {x y : Str} (h : L x = L y) : x = y := by
  apply Str.ext'
  exact Array.toList_inj.mp h
theorem last4 (x y : Str) (lo hi : Nat) : (lastOccurrence x y lo hi = none ∧ ∀ i, lo ≤ i → ¬ StrLaws.At x y hi i) ∨ ∃ i, lastOccurrence x y lo hi = some i ∧ lo ≤ i ∧ StrLaws.At x y hi i ∧ ∀ k, i < k → ¬ StrLaws.At x y hi k := by
  rw [StrLaws.last_eq]
  have key := StrLaws.last_run x y hi (List.range' lo (hi + 1 - lo)) [] none (fun _ h => nomatch h) (fun _ h => nomatch h) (by simpa using List.pairwise_lt_range' (s := lo) (n := hi + 1 - lo))
  have mem : ∀ i, lo ≤ i → StrLaws.At x y hi i → i ∈ [] ++ List.range' lo (hi + 1 - lo) := fun i h0 hi => by
    have := hi.1
    rw [List.nil_append, List.mem_range'_1]
    omega
  cases hr : (forIn (List.range' lo (hi + 1 - lo)) none (StrLaws.lastBody x y hi)).run with
  | none => rw [hr] at key; exact .inl ⟨rfl, fun i h0 hi => key i (mem i h0 hi) hi⟩
  | some a =>
    rw [hr] at key
    refine .inr ⟨a, rfl, ?_, key.1, fun k hk hA => ?_⟩
    · rcases Nat.lt_or_ge a lo with h | h
      · exfalso
        have hall : ∀ (l : List Nat) (st : Option Nat), (forIn l st (StrLaws.lastBody x y hi)).run = some a → st = some a ∨ a ∈ l := by
          intro l
          induction l with
          | nil => intro st h; exact .inl (by simpa using h)
          | cons b l ih =>
            intro st h
            rw [List.forIn_cons] at h
            unfold StrLaws.lastBody at h
            by_cases hc : b + y.length ≤ hi ∧ subAt x y b = true
            · rw [if_pos hc] at h
              rcases ih (some b) h with h | h
              · cases h; exact .inr (.head _)
              · exact .inr (.tail _ h)
            · rw [if_neg hc] at h
              rcases ih st h with h | h
              · exact .inl h
              · exact .inr (.tail _ h)
        rcases hall _ _ hr with h1 | h1
        · cases h1
        · rw [List.mem_range'_1] at h1; omega
      · exact h
    · rcases Nat.lt_or_ge k lo with h | h
      · have : lo ≤ a := by
          have hall : ∀ (l : List Nat) (st : Option Nat), (forIn l st (StrLaws.lastBody x y hi)).run = some a → st = some a ∨ a ∈ l := by
            intro l
            induction l with
            | nil => intro st h; exact .inl (by simpa using h)
            | cons b l ih =>
              intro st h
              rw [List.forIn_cons] at h
              unfold StrLaws.lastBody at h
              by_cases hc : b + y.length ≤ hi ∧ subAt x y b = true
              · rw [if_pos hc] at h
                rcases ih (some b) h with h | h
                · cases h; exact .inr (.head _)
                · exact .inr (.tail _ h)
              · rw [if_neg hc] at h
                rcases ih st h with h | h
                · exact .inl h
                · exact .inr (.tail _ h)
          rcases hall _ _ hr with h1 | h1
          · cases h1
          · rw [List.mem_range'_1] at h1; omega
        omega
      · exact key.2 k (mem k h hA) hk hA
theorem at_one (x : Str) (c hi i : Nat) (hh : hi ≤ x.length) : StrLaws.At x ⟨#[c]⟩ hi i ↔ i < hi ∧ (L x)[i]? = some c := by
  have h1 := StrLaws.subAt_one x c i
  have e : (⟨#[c]⟩ : Str).length = 1 := rfl
  unfold StrLaws.At
  rw [e] at h1 ⊢
  constructor
  · intro h
    exact ⟨by omega, h1.mp ⟨by omega, h.2⟩⟩
  · intro h
    exact ⟨by omega, (h1.mpr h.2).2⟩
theorem rfind_hit {x : Str} {c : Nat} {a b : List Nat} (h : L x = a ++ c :: b) (hb : c ∉ b) : Txt.rfind x ⟨#[c]⟩ = (a.length : Int) := by
  have hlen := L_len x
  rw [h, List.length_append, List.length_cons] at hlen
  unfold Txt.rfind
  rcases StrLaws.last_spec x ⟨#[c]⟩ with ⟨e, hn⟩ | ⟨i, e, hi, hn⟩
  · exfalso
    refine hn a.length ((at_one x c x.length a.length (Nat.le_refl _)).mpr ⟨by omega, by rw [h]; simp⟩)
  · rw [e]
    have hi' := (at_one x c x.length i (Nat.le_refl _)).mp hi
    have h1 : ¬ i < a.length := fun hlt => hn a.length hlt ((at_one x c x.length a.length (Nat.le_refl _)).mpr ⟨by omega, by rw [h]; simp⟩)
    have h2 : ¬ a.length < i := fun hlt => by
      rw [h, List.getElem?_append_right (by omega)] at hi'
      obtain ⟨j, hj⟩ : ∃ j, i - a.length = j + 1 := ⟨i - a.length - 1, by omega⟩
      rw [hj, List.getElem?_cons_succ] at hi'
      exact hb (List.mem_of_getElem? hi'.2)
    show ((i : Nat) : Int) = _
    omega
theorem rfind_miss {x : Str} {c : Nat} (h : c ∉ L x) : Txt.rfind x ⟨#[c]⟩ = -1 := by
  unfold Txt.rfind
  rcases StrLaws.last_spec x ⟨#[c]⟩ with ⟨e, hn⟩ | ⟨i, e, hi, hn⟩
  · rw [e]
  · exact absurd (List.mem_of_getElem? ((at_one x c x.length i (Nat.le_refl _)).mp hi).2) h
theorem find_hit {x : Str} {c : Nat} {a b : List Nat} (h : L x = a ++ c :: b) (ha : c ∉ a) : Txt.find x ⟨#[c]⟩ = (a.length : Int) := by
  have hlen := L_len x
  rw [h, List.length_append, List.length_cons] at hlen
  have h0 : StrLaws.At x ⟨#[c]⟩ x.length a.length := (at_one x c x.length a.length (Nat.le_refl _)).mpr ⟨by omega, by rw [h]; simp⟩
  unfold Txt.find
  rcases StrLaws.occ_head x ⟨#[c]⟩ 1 (Nat.le_refl 1) with ⟨e, hn⟩ | ⟨i, r, e, hi, hn⟩
  · exact absurd h0 (hn _)
  · rw [e]
    have hi' := (at_one x c x.length i (Nat.le_refl _)).mp hi
    have h1 : ¬ a.length < i := fun hlt => hn _ hlt h0
    have h2 : ¬ i < a.length := fun hlt => by
      rw [h, List.getElem?_append_left hlt] at hi'
      exact ha (List.mem_of_getElem? hi'.2)
    show ((i : Nat) : Int) = _
    omega
theorem find_miss {x : Str} {c : Nat} (h : c ∉ L x) : Txt.find x ⟨#[c]⟩ = -1 := by
  unfold Txt.find
  rcases StrLaws.occ_head x ⟨#[c]⟩ 1 (Nat.le_refl 1) with ⟨e, hn⟩ | ⟨i, r, e, hi, hn⟩
  · rw [e]
  · exact absurd (List.mem_of_getElem? ((at_one x c x.length i (Nat.le_refl _)).mp hi).2) h
theorem from_nat (n i : Nat) : fromIndex n (i : Int) = i := by
  unfold fromIndex
  rw [if_neg (by omega)]
  omega
theorem getD_L {x : Str} {k c : Nat} (hk : k < x.length) (h : x.cps.getD k 0 = c) : (L x)[k]? = some c := StrLaws.getElem?_of_getD hk h
theorem getD_L' {x : Str} {k c : Nat} (h : (L x)[k]? = some c) : x.cps.getD k 0 = c := StrLaws.getD_of_getElem? h
theorem find3_hit {x : Str} {c i : Nat} {a b : List Nat} (h : L x = a ++ c :: b) (hi : i ≤ a.length) (ha : ∀ v, i ≤ v → v < a.length → a[v]? ≠ some c) : Txt.find3 x ⟨#[c]⟩ (i : Int) = (a.length : Int) := by
  have hlen := L_len x
  rw [h, List.length_append, List.length_cons] at hlen
  have h0 : (L x)[a.length]? = some c := by rw [h]; simp
  rcases StrLaws.find3_spec x c (i : Int) with ⟨_, hn⟩ | ⟨k, e, h1, h2, h3, hn⟩
  · rw [from_nat] at hn
    exact absurd (getD_L' h0) (hn a.length hi (by omega))
  · rw [from_nat] at h1 hn
    rw [e]
    have h4 : ¬ a.length < k := fun hlt => hn _ hi hlt (getD_L' h0)
    have h5 : ¬ k < a.length := fun hlt => by
      have := getD_L h2 h3
      rw [h, List.getElem?_append_left hlt] at this
      exact ha k h1 hlt this
    omega
theorem find3_miss {x : Str} {c i : Nat} (h : ∀ v, i ≤ v → (L x)[v]? ≠ some c) : Txt.find3 x ⟨#[c]⟩ (i : Int) = -1 := by
  rcases StrLaws.find3_spec x c (i : Int) with ⟨e, hn⟩ | ⟨k, e, h1, h2, h3, hn⟩
  · exact e
  · rw [from_nat] at h1
    exact absurd (getD_L h2 h3) (h k h1)
theorem rfind4_hit {x : Str} {c i j : Nat} {a b d : List Nat} (h : L x = a ++ c :: (b ++ d)) (hb : c ∉ b) (hi : i ≤ a.length) (hj : j = a.length + 1 + b.length) : rfind4 x ⟨#[c]⟩ (i : Int) (j : Int) = (a.length : Int) := by
  have hlen := L_len x
  rw [h, List.length_append, List.length_cons, List.length_append] at hlen
  unfold rfind4
  rw [from_nat, from_nat, Nat.min_eq_left (by omega)]
  have h0 : StrLaws.At x ⟨#[c]⟩ j a.length := (at_one x c j a.length (by omega)).mpr ⟨by omega, by rw [h]; simp⟩
  rcases last4 x ⟨#[c]⟩ i j with ⟨e, hn⟩ | ⟨k, e, h1, h2, hn⟩
  · exact absurd h0 (hn _ hi)
  · rw [e]
    have h3 := (at_one x c j k (by omega)).mp h2
    have h4 : ¬ k < a.length := fun hlt => hn _ hlt h0
    have h5 : ¬ a.length < k := fun hlt => by
      rw [h, List.getElem?_append_right (by omega)] at h3
      obtain ⟨q, hq⟩ : ∃ q, k - a.length = q + 1 := ⟨k - a.length - 1, by omega⟩
      rw [hq, List.getElem?_cons_succ, List.getElem?_append_left (by omega)] at h3
      exact hb (List.mem_of_getElem? h3.2)
    show ((k : Nat) : Int) = _
    omega
theorem rfind4_miss {x : Str} {c i j : Nat} (hj : j ≤ x.length) (h : ∀ v, i ≤ v → v < j → (L x)[v]? ≠ some c) : rfind4 x ⟨#[c]⟩ (i : Int) (j : Int) = -1 := by
  unfold rfind4
  rw [from_nat, from_nat, Nat.min_eq_left hj]
  rcases last4 x ⟨#[c]⟩ i j with ⟨e, hn⟩ | ⟨k, e, h1, h2, hn⟩
  · rw [e]
  · have h3 := (at_one x c j k hj).mp h2
    exact absurd h3.2 (h k h1 h3.1)
theorem slice_to (x : Str) (n : Nat) : L (Txt.slice x none (some (n : Int))) = (L x).take n := by
  rcases Nat.le_total n x.length with h | h
  · rw [eq_of_beq (slice_closes_toL (by omega) (by omega))]
    simp
  · rw [slice_to_beyond (by omega), eq_of_beq (slice_closes_toL (by omega) (by omega))]
    show ((L x).drop 0).take (((x.length : Int) - 0).toNat) = _
    have e1 : ((x.length : Int) - 0).toNat = x.length := by omega
    rw [e1, List.drop_zero]
    rw [L_len] at h ⊢
    rw [List.take_of_length_le h, List.take_of_length_le (Nat.le_refl _)]
theorem slice_from (x : Str) (n : Nat) : L (Txt.slice x (some (n : Int)) none) = (L x).drop n := by
  rcases Nat.le_total n x.length with h | h
  · rw [eq_of_beq (slice_closes_fromL (by omega) (by omega) rfl)]
    show ((L x).drop ((n : Int).toNat)).take (((x.length : Int) - n).toNat) = _
    have e1 : ((n : Int)).toNat = n := by omega
    have e2 : (((x.length : Int) - n).toNat) = x.length - n := by omega
    rw [e1, e2, List.take_of_length_le (by rw [List.length_drop, L_len]; exact Nat.le_refl _)]
  · rw [slice_from_beyond (by omega)]
    rw [L_len] at h
    rw [List.drop_of_length_le h]
theorem slice_mid (x : Str) {a b : Nat} (h1 : a ≤ b) (h2 : b ≤ x.length) : L (Txt.slice x (some (a : Int)) (some (b : Int))) = ((L x).drop a).take (b - a) := by
  rw [eq_of_beq (slice_closesL (by omega) (by omega) (by omega))]
  show ((L x).drop ((a : Int).toNat)).take (((b : Int) - a).toNat) = _
  have e1 : ((a : Int)).toNat = a := by omega
  have e2 : (((b : Int) - a).toNat) = b - a := by omega
  rw [e1, e2]
theorem hash_is : Str.ofString "#" = ⟨#[35]⟩ := by decide
theorem slash_is : Str.ofString "/" = ⟨#[47]⟩ := by decide
theorem colon_is : Str.ofString ":" = ⟨#[58]⟩ := by decide
theorem splitF_hit {x y : Str} {b : List Nat} (hy : L y = 35 :: b) (hb : 35 ∉ b) : splitF (x ++ y) = (x, y) := by
  have h : L (x ++ y) = L x ++ 35 :: b := by rw [L_app, hy]
  have e := rfind_hit h hb
  unfold splitF
  rw [hash_is, e, if_pos (by omega)]
  refine Prod.ext (L_ext ?_) (L_ext ?_)
  · rw [slice_to, L_app, List.take_left]
  · rw [slice_from, L_app, List.drop_left]
theorem splitF_miss {x : Str} (h : 35 ∉ L x) : splitF x = (x, Str.ofString "") := by
  unfold splitF
  rw [hash_is, rfind_miss h, if_neg (by decide)]

end Mine

-- MX
namespace Mine
theorem calmMX : True := by
  w_top off
  trivial
end Mine
namespace Mine
/-- every sign is a code point -/
def cpOk (x : Str) : Bool := (L x).all fun c => decide (c < 0x110000)
theorem strOk_of {x : Str} (h : cpOk x = true) : PyData.strOk x = true := by
  show x.cps.all _ = true
  rw [← Array.all_toList]
  exact h
theorem shaped_pair {x y : Str} (hx : cpOk x = true) (hy : cpOk y = true) : PySem.SeqAt.shaped (.tuple [.str x, .str y]) = true := by
  unfold PySem.SeqAt.shaped
  simp [PyData.canLay0, PyData.canLayAll0, strOk_of hx, strOk_of hy, PyData.depth, PyData.depthAll]
theorem cpOk_app {x y : Str} (hx : cpOk x = true) (hy : cpOk y = true) : cpOk (x ++ y) = true := by
  unfold cpOk at *
  rw [L_app, List.all_append, hx, hy]
  rfl
theorem all_ok {ys : List Str} (h : ys.all cpOk = true) {x : Str} (hx : x ∈ ys) : cpOk x = true := List.all_eq_true.mp h x hx
theorem all_no {ys : List Str} {c : Nat} (h : ys.all (fun x => !(L x).contains c) = true) {x : Str} (hx : x ∈ ys) : c ∉ L x := by
  have := List.all_eq_true.mp h x hx
  intro hc
  rw [List.contains_iff_mem.mpr hc] at this
  cases this
end Mine

-- MP
namespace Mine
theorem calmMP : True := by
  w_top off
  trivial
end Mine
namespace Mine
local macro_rules | `(tactic| walk_at "MINE enter") => `(tactic| (refine wpAny_call ?_; k_dflt (refine' code_def ?k1 ?k2 ?k3 ?k4 ?k5 ?kA ?kF ?kK ?k6 ?k7 ?k8 ?k9 ?kB ?_ ?c2 ?c3 ?c4 ?c5; (case kA => exact rfl); (case kF => exact rfl); (case kK => assumption); (case k1 => k_asm); (case k2 => k_asm); (case k3 => k_asm); (case k4 => k_asm); (case k5 => k_asm); (case k6 => k_is); (case k7 => k_is); (case k8 => ktr_room); (case k9 => first | exact BindsTo.of_eq rfl | exact binds_K (by k_in) rfl (by k_is) rfl rfl rfl); (case c5 => decide); (case kB => exact locs rfl); (case c2 => exact rfl); (case c3 => exact rfl); (case c4 => exact rfl); k_whole; intro g' L' h' FG' F' N' B' X' T'; (try dsimp only); (try k_lift B'); (try k_fold))))
local macro_rules | `(tactic| walk_at "MINE use") => `(tactic| (
  (case k1 => first | k_asm | fail "use: the frames below"); (case k2 => first | k_asm | fail "use: the frame"); (case k3 => first | k_asm | fail "use: the written part"); (case k4 => first | k_asm | fail "use: the ledger"); (case k5 => first | k_asm | fail "use: the top");
  (case kK => first | exact rfl | assumption | fail "use: no def"); (case kd => first | ktr_room | fail "use: room"); (case ku => first | ktr_units | fail "use: units")))
local macro_rules | `(tactic| walk_at "MINE sameX") => `(tactic| (intro z hx h2 h3; simp only [List.forall_mem_cons, List.not_mem_nil, false_implies, implies_true, and_true, ne_eq] at h2; simp only [List.contains_cons, List.contains_nil, Bool.or_false, Bool.or_eq_false_iff, beq_eq_false_iff_ne, ne_eq] at h3; simp only [kstB, hx, h2, h3, List.contains_cons, List.contains_nil, Bool.or_false, Bool.or_eq_true, beq_iff_eq, or_self, Bool.false_eq_true, reduceIte]))
local macro_rules | `(tactic| walk_at "call ref") => `(tactic| (k_here; (with_reducible show wpAny _ _ (call (Value.ref 22) [Value.str _ _]) _ _ _); k_dflt (refine' Claim.use (split1e _ _ _ _ _ ?kl ?ke) ?k1 ?k2 ?k3 ?k4 ?k5 ?kK ?kd ?ku trivial ?_; (case kl => first | assumption | omega); (case ke => first | assumption | fail "use: what splitFragP gives"); walk_at "MINE use"; (intro a9 t9 u9 h9 tk9 F9 N9 l9); (try k_fold))))
local macro_rules | `(tactic| walk_at "call ref") => `(tactic| (k_here; (with_reducible show wpAny _ _ (call (Value.ref 22) [Value.str _ _, Value.int _ _]) _ _ _); k_dflt (refine' Claim.use (split2e _ _ _ _ _ ?kl ?ke _ _) ?k1 ?k2 ?k3 ?k4 ?k5 ?kK ?kd ?ku trivial ?_; (case kl => first | assumption | omega); (case ke => first | assumption | fail "use: what splitFragP gives"); walk_at "MINE use"; (intro a9 t9 u9 h9 tk9 F9 N9 l9); (try k_fold))))
local macro_rules | `(tactic| walk_at "call ref") => `(tactic| (k_here; (with_reducible show wpAny _ _ (call (Value.ref 58) _) _ _ _); k_dflt (refine' Claim.use (pieces1 _) ?k1 ?k2 ?k3 ?k4 ?k5 ?kK ?kd ?ku trivial ?_; walk_at "MINE use"; (intro fs9 vs9 n9 a9 h9 tk9 e9 S9 F9 N9 l9); (try dsimp only at e9); (subst e9); (try k_fold))))
local macro_rules | `(tactic| walk_at "exec For Name Call cons nil") => `(tactic| (k_here; (rename Fr _ _ _ _ => lF'); (with_unfolding_all refine' For_invVF lF' ?k1 ?k2 ?_; (case k1 => exact rfl); (case k2 => exact rfl); k_whole)))
local macro_rules | `(tactic| walk_at "exec For Name Name cons nil") => `(tactic| (k_here; (rename Fr _ _ _ _ => lF'); (with_unfolding_all refine' For_invVF lF' ?k1 ?k2 ?_; (case k1 => exact rfl); (case k2 => exact rfl); k_whole)))
local macro_rules | `(tactic| walk_at "exec For Name Subscript cons nil") => `(tactic| (k_here; (rename Fr _ _ _ _ => lF'); (with_unfolding_all refine' For_invVF lF' ?k1 ?k2 ?_; (case k1 => exact rfl); (case k2 => exact rfl); k_whole)))
local macro_rules | `(tactic| walk_at "call type:range") => `(tactic| (k_here; (rename Fr _ _ _ _ => F'); (rename News _ _ _ _ => N'); first
  | (k_dflt refine range1_rows F' N' ?_; intro h' tk' t1 u1 v1 R' F' N' K'; (try k_sweep))
  | (k_dflt refine range3_rows F' N' (by decide) ?_; intro h' tk' t1 u1 v1 R' F' N' K'; (try k_sweep))))
local macro_rules | `(tactic| walk_at "pyIter ref") => `(tactic| refine Stop.out ?_)
local macro_rules | `(tactic| walk_at "InvEndG") => `(tactic| refine Stop.out ?_)
local macro_rules | `(tactic| walk_at "call builtin:list.append") => `(tactic| refine Stop.out ?_)
local macro_rules | `(tactic| walk_at "subscriptTail Name BinOp ref int") => `(tactic| (k_here; k_dflt (refine' item_any (ys := PIECES) (by k_asm) (by k_mem) (by assumption) (Int.fmod_nonneg_of_pos _ (by decide)) (Int.fmod_lt_of_pos _ (by decide)) (Int.lt_of_lt_of_le (Int.fmod_lt_of_pos _ (by decide)) (by decide)) ?_ ?h1 ?h2; (case h1 => with_unfolding_all rfl); (case h2 => intro _; with_unfolding_all rfl); intro x9 t9 m9)))
theorem item_at {prog : Program} {w : World} {A : Around} {E : Value → Shared → Prop} {s : Shared} {value slice : Expr} {h₀ : Heap} {L a : Addr} {l : List Value} {n : Nat} {news : Led} {ys : List Str} {k : Int} {g : Str} {u : Tok} {Q : Value → Shared → Prop}
    (N : News h₀ L s.heap news) (hm : (a, listOf l.toArray n) ∈ news) (hi : StrsAre l ys) (h0 : 0 ≤ k) (hfit : k < 2 ^ 63) (hx : ys[k.toNat]? = some g)
    (h : ∀ t', Q (.str g t') s)
    (hs : subscripted slice false (.ref a) (.int k u) = operate [.ref a, .int k u] (getItem (.ref a) (.int k u)) := by with_unfolding_all rfl) (hg : ∀ r, letTemporaryGo value (.ref a) r = pure () := by intro _; with_unfolding_all rfl) :
    wpAny (model prog w) A (subscriptTail value slice (.ref a) (.int k u)) Q E s := by
  obtain ⟨t, ht⟩ := hi.at hx
  exact item_listL (N.isList hm) h0 hfit ht (h t) hs hg
theorem pieces_no {x : Str} (h : x ∈ PIECES) : 35 ∉ L x := all_no (ys := PIECES) (by decide) h
theorem L_hash (f : Str) : L (Str.ofString "#" ++ f) = 35 :: L f := by rw [L_app, show L (Str.ofString "#") = [35] by decide]; rfl
theorem peel_cut {lf g tx : Str} (h : tx = lf ++ (Str.ofString "#" ++ g)) (hg : 35 ∉ L g) : splitF tx = (Txt.slice tx none (some ((tx.length : Int) - (g.length : Int) - 1)), Str.ofString "#" ++ g) ∧ Txt.slice tx none (some ((tx.length : Int) - (g.length : Int) - 1)) = lf := by
  have e1 : tx.length = lf.length + (1 + g.length) := by rw [h, Str.length_append, Str.length_append, show (Str.ofString "#").length = 1 by decide]
  have e2 : (tx.length : Int) - (g.length : Int) - 1 = (lf.length : Int) := by omega
  have e3 : Txt.slice tx none (some (lf.length : Int)) = lf := by
    apply L_ext
    rw [slice_to, h, L_app, L_len, List.take_left]
  rw [e2, e3]
  refine ⟨?_, rfl⟩
  rw [h]
  exact splitF_hit (L_hash g) hg
theorem pieces_ok {x : Str} (h : x ∈ PIECES) : cpOk x = true := all_ok (ys := PIECES) (by decide) h
theorem hash_ok {g : Str} (h : cpOk g = true) : cpOk (Str.ofString "#" ++ g) = true := cpOk_app (by decide) h
theorem hashG_ok {fs : List Str} : ∀ {t : Str}, cpOk t = true → (∀ f ∈ fs, cpOk f = true) → cpOk (hashG t fs) = true := by
  induction fs with
  | nil => intro t h _; exact h
  | cons f fs ih => intro t h hf; exact ih (cpOk_app h (hash_ok (hf f (.head _)))) fun x hx => hf x (.tail _ hx)
local macro_rules | `(tactic| walk_at "subscriptTail Name Constant ref int") => `(tactic| (k_here; k_dflt (refine' item_at (by k_asm) (by k_mem) (by assumption) (by decide) ?ha ?hx ?_ ?h1 ?h2; (case hx => assumption); (case ha => decide); (case h1 => with_unfolding_all rfl); (case h2 => intro _; with_unfolding_all rfl); intro t9)))
local macro_rules | `(tactic| walk_at "subscriptTail Name Name ref int") => `(tactic| (k_here; k_dflt (refine' item_at (by k_asm) (by k_mem) (by assumption) (Int.ofNat_nonneg _) ?ha ?hx ?_ ?h1 ?h2; (case hx => assumption); (case ha => omega); (case h1 => with_unfolding_all rfl); (case h2 => intro _; with_unfolding_all rfl); intro t9)))
local macro_rules | `(tactic| walk_at "newTuple") => `(tactic| (k_here; k_dflt (refine' kup_newTuple ?F ?N ?_ ?z; (case F => k_asm); (case N => k_asm); (case z => kmk_size)); intro D' h' F' N' l1; (try k_sweep)))
local macro_rules | `(tactic| walk_at "MINE tup") => `(tactic| exact reads_tuple_at (News.get (by k_asm) (by k_mem)) rfl rfl (ReadsAll.cons (Reads.str _ _) (ReadsAll.cons (Reads.str _ _) ReadsAll.nil)))
local macro_rules | `(tactic| walk_at "compareOp NotEq ref ref") => `(tactic| (k_here; k_dflt (refine' ne_dataH ?r1 ?r2 ?r3 ?r4 ?r5 ?_; (case r1 => walk_at "MINE tup"); (case r2 => walk_at "MINE tup"); (case r3 => exact shaped_pair (by assumption) (by assumption)); (case r4 => exact shaped_pair (by assumption) (by assumption)); (case r5 => ktr_units)); (try simp only [PyData.eqv, PyData.eqvAll, beq_self_eq_true, Bool.and_true, Bool.true_and, Bool.and_false, Bool.false_and, Bool.not_true, Bool.not_false, decide_true, decide_false])))
local macro_rules | `(tactic| walk_at "compareOp Eq ref ref") => `(tactic| (k_here; k_dflt (refine' eq_dataH ?r1 ?r2 ?r3 ?r4 ?r5 ?_; (case r1 => walk_at "MINE tup"); (case r2 => walk_at "MINE tup"); (case r3 => exact shaped_pair (by assumption) (by assumption)); (case r4 => exact shaped_pair (by assumption) (by assumption)); (case r5 => ktr_units)); (try simp only [PyData.eqv, PyData.eqvAll, beq_self_eq_true, Bool.and_true, Bool.true_and, Bool.and_false, Bool.false_and, Bool.not_true, Bool.not_false, decide_true, decide_false])))
local macro_rules | `(tactic| walk_at "MINE memL") => `(tactic| first | exact List.mem_append.mpr (.inl (by assumption)) | (refine List.Mem.tail _ ?_; walk_at "MINE memL"))
local macro_rules | `(tactic| walk_at "MINE memR") => `(tactic| first | exact List.mem_append.mpr (.inr (by assumption)) | (refine List.Mem.tail _ ?_; walk_at "MINE memR"))
local macro_rules | `(tactic| walk_at "MINE memT") => `(tactic| first | assumption | (refine List.Mem.tail _ ?_; walk_at "MINE memT"))
theorem sub_head {p₀ : Addr × Obj} {news own rest : Led} (h : rest = news ++ own) : ∀ p ∈ p₀ :: news, p ∈ p₀ :: rest := by
  intro p hp
  rcases List.mem_cons.mp hp with rfl | hp
  · exact .head _
  · exact .tail _ (by rw [h]; exact List.mem_append.mpr (.inl hp))
theorem snoc_all {ss : List Str} {x : Str} {P : Str → Prop} (h : ∀ y ∈ ss, P y) (hx : P x) : ∀ y ∈ ss ++ [x], P y := by
  intro y hy
  rcases List.mem_append.mp hy with hy | hy
  · exact h y hy
  · rw [List.mem_singleton.mp hy]; exact hx
theorem ne_rest {pa : Addr} {o : Obj} {news own rest : Led} (h1 : ∀ p ∈ news, p.1 < pa) (h2 : OwnOff own (((pa, o) :: news).map (·.1))) (hr : rest = news ++ own) : ∀ p ∈ rest, p.1 ≠ pa := by
  intro p hp
  rw [hr] at hp
  rcases List.mem_append.mp hp with hp | hp
  · exact Nat.ne_of_lt (h1 p hp)
  · exact h2 p hp _ (.head _)
def RetTrue : Kont := fun h₀ L m news s Q => ∀ h' tk', Fr h₀ L h' m → News h₀ L h' news → Q (.bool true) { s with heap := h', toks := tk' }
theorem peel1 (w : World) (k o : Int) (tk tko : Tok) : Claim w 2 77 [.int k tk, .int o tko] (fun _ => True) RetTrue := by
  unfold Claim
  k_fill
  intro p loose mean mg mb dp un gd cn cs a ccd cl outer A₀ base h₀ L m news s Q E B F X N T hk hdp hun hpre hret
  have j0 := Int.fmod_nonneg_of_pos k (b := 4) (by decide)
  have j1 := Int.fmod_lt_of_pos k (b := 4) (by decide)
  walk_at "MINE enter"
  k_steps
  unfold Stop
  (rename ∀ (p : Addr × Obj), p ∈ news → p.fst < _ => hl1)
  (rename Fr _ _ _ _ => lF; rename News _ _ _ _ => lN; rename IsRange _ _ _ _ _ _ _ _ => lR)
  refine' loopR (σ := List Value × List Str × Nat) (n := (3 + k.fmod 4).toNat) (fun c => (_, listOf c.1.toArray c.2.2) :: news) (fun _ => []) [] (fun i c => StrsAre c.1 c.2.1 ∧ c.2.1.length = i ∧ ∀ x ∈ c.2.1, x ∈ PIECES) ([], [], 0) ?zL ?zh lR ?zs ?zn lF lN ?zk ?zp ?zt ?zd
  case zL => exact rfl
  case zh => exact rfl
  case zs => exact small_one (by decide) (by decide) (by omega) (by omega)
  case zn => rw [rangeSize_nat]; simp
  case zk => exact List.forall_mem_nil _
  case zp => exact ⟨.nil, rfl, fun _ h => nomatch h⟩
  case zt =>
    clear lF lN lR
    rintro i t ⟨vs, ss, n⟩ u hz tkz own hi hoff ⟨p1, p2, p3⟩ F1 N1
    dsimp only at hoff p1 p2 p3 F1 N1
    k_fold
    have hi7 : (i : Int) < 7 := by omega
    have N2 : News _ _ hz ((_, listOf vs.toArray n) :: (news ++ own)) := N1
    clear N1
    obtain ⟨rest, hrest⟩ : ∃ r, r = news ++ own := ⟨_, rfl⟩
    rw [← hrest] at N2
    have hne := ne_rest hl1 hoff hrest
    k_steps
    unfold Stop
    (rename Fr _ _ _ _ => lF; rename News _ _ _ _ => lN)
    have hsz : vs.toArray.size ≤ PySem.sizeLine := by rw [List.size_toArray, p1.length, PySem.sizeLine_eq]; omega
    refine append_K lF (cb_drop lN fun p hp => .tail _ hp) (Upd.head hne) ?_ hsz
    clear lF lN
    intro h5 F5 N5
    rw [List.push_toArray] at N5
    (try dsimp only)
    k_steps
    unfold Stop
    (rename Fr _ _ _ _ => lF; rename News _ _ _ _ => lN)
    refine' lj_end (_, _, _) lF lN (sub_head hrest) ?yo hoff (List.forall_mem_nil _) ?yr ⟨kct_snoc p1, by rw [List.length_append, p2]; rfl, snoc_all p3 (by with_reducible assumption)⟩
    case yo => exact fun p hp => .tail _ (by rw [hrest]; exact List.mem_append.mpr (.inr hp))
    case yr => walk_at "MINE sameX"
  case zd =>
    clear lF lN lR
    rintro ⟨vs, ss, n⟩ u hz tkz ⟨p1, p2, p3⟩ F1 N1
    dsimp only at p1 p2 p3 F1 N1
    obtain ⟨s0, r, rfl⟩ : ∃ s0 r, ss = s0 :: r := by
      cases ss with
      | nil => rw [List.length_nil] at p2; omega
      | cons a b => exact ⟨a, b, rfl⟩
    have q1 := Stop.fold p1
    have hx0 : (s0 :: r)[(0 : Int).toNat]? = some s0 := rfl
    have hlr : r.length ≤ 5 := by rw [List.length_cons] at p2; omega
    have hs0 := pieces_len (p3 s0 (.head _))
    have hsr : sumLen r ≤ 20 := Nat.le_trans (sumLen_le (n := 3) fun x hx => pieces_len (p3 x (.tail _ hx))) (by omega)
    have hls : vs.toArray.size ≤ PySem.sizeLine := by rw [List.size_toArray, p1.length, PySem.sizeLine_eq, List.length_cons]; omega
    dsimp only
    k_steps
    unfold Stop
    (rename Fr _ _ _ _ => lF; rename News _ _ _ _ => lN)
    rw [pick_from1] at lN
    refine' loopL (σ := Str × Tok) (vs := vs.drop 1) (nn := 0) (fun _ => (_, listOf (vs.drop 1).toArray 0) :: (_, listOf vs.toArray n) :: news) (fun c => [(Str.ofString "text", Value.str c.1 c.2)]) [] (fun i c => c.1 = hashG s0 (r.take i)) (_, _) ?zL ?zh (fun _ => .head _) lF lN ?zk ?zp ?zt ?zd
    case zL => exact rfl
    case zh => exact rfl
    case zk => kst_all
    case zp => rfl
    case zt =>
      clear lF lN
      rintro i v ⟨tx, tt⟩ u hz tkz own hv hoff hP F1 N1
      dsimp only at hP F1 N1
      k_fold
      have hs : StrsAre (vs.drop 1) r := StrsAre.drop' q1 1
      have hi : i < r.length := by rw [← hs.length]; exact (List.getElem?_eq_some_iff.mp hv).1
      obtain ⟨f, hf⟩ : ∃ f, r[i]? = some f := ⟨r[i], List.getElem?_eq_getElem hi⟩
      obtain ⟨tf, hx⟩ := hs.get i f hf
      rw [hv] at hx
      cases hx
      have hP2 := hashG_take (t := s0) hf
      have hl1 := hashG_len (r.take i) s0
      have hl3 := hashG_len (r.take (i + 1)) s0
      have hl2 := sumLen_take r i
      have hl4 := sumLen_take r (i + 1)
      rw [← hP] at hP2 hl1
      rw [hP2, Str.length_append, Str.length_append] at hl3
      k_steps
      unfold Stop
      (rename Fr _ _ _ _ => lF; rename News _ _ _ _ => lN)
      refine' lj_end (_, _) lF lN ?yn ?yo ?ya ?yk ?yr ?yp
      case yn => exact fun p hp => List.mem_append.mpr (.inl hp)
      case yo => exact fun p hp => List.mem_append.mpr (.inr hp)
      case ya => exact hoff
      case yk => kst_all
      case yr => walk_at "MINE sameX"
      case yp => exact hP2.symm
    case zd =>
      clear lF lN
      rintro ⟨tx, tt⟩ u hz tkz hP F1 N1
      dsimp only at hP F1 N1
      have hP1 : tx = hashG s0 r := by
        rw [hP, (StrsAre.drop' q1 1).length]
        exact congrArg _ (List.take_length ..)
      clear hP
      have hP2 := hashG_len r s0
      rw [← hP1] at hP2
      dsimp only
      k_steps
      unfold Stop
      (rename Fr _ _ _ _ => lF; rename News _ _ _ _ => lN; rename IsRange _ _ _ _ _ _ _ _ => lR)
      refine' loopR (σ := Str × Tok) (n := r.length) (fun _ => (_, listOf vs.toArray n) :: news) (fun c => [(Str.ofString "text", Value.str c.1 c.2)]) [Str.ofString "left"] (fun i c => c.1 = hashG s0 (r.take (r.length - i))) (_, _) ?zL ?zh lR ?zs ?zn lF (cb_drop lN fun p hp => .tail _ hp) ?zk ?zp ?zt ?zd
      case zL => exact rfl
      case zh => exact rfl
      case zs => exact small_down (by rw [List.length_cons]; omega) (by rw [List.length_cons]; omega) (by decide) (by decide)
      case zn => rw [rangeSize_downNat, List.length_cons]; omega
      case zk => kst_all
      case zp => rw [Nat.sub_zero, List.take_length]; exact hP1
      case zt =>
        clear lF lN lR
        rintro i t ⟨tx, tt⟩ u hz tkz own hi hoff hP F1 N1
        dsimp only at hP F1 N1
        k_fold
        obtain ⟨q, hq⟩ : ∃ q, r.length - i = q + 1 := ⟨r.length - i - 1, by omega⟩
        have eF : (((s0 :: r).length : Int) - 1 + (i : Int) * (-1)) = ((q + 1 : Nat) : Int) := by rw [List.length_cons]; omega
        rw [eF] at F1
        rw [hq] at hP
        obtain ⟨g, hg⟩ : ∃ g, r[q]? = some g := ⟨r[q], List.getElem?_eq_getElem (by omega)⟩
        have hgm := p3 g (.tail _ (List.mem_of_getElem? hg))
        have hg3 := pieces_len hgm
        have hg9 : (s0 :: r)[(((q + 1 : Nat) : Int)).toNat]? = some g := hg
        have hq5 : q + 1 ≤ 5 := by omega
        rw [hashG_take hg] at hP
        have hL1 := hashG_len (r.take q) s0
        have hL2 := sumLen_take r q
        have hL3 : tx.length ≤ 30 := by rw [hP, Str.length_append, Str.length_append, show (Str.ofString "#").length = 1 by decide]; omega
        have hcut := peel_cut hP (pieces_no hgm)
        have hsp := hcut.1
        have hcut2 := Stop.fold hcut.2
        clear hcut
        have hok1 : cpOk (Txt.slice tx none (some ((tx.length : Int) - (g.length : Int) - 1))) = true := by
          unfold Stop at hcut2
          rw [hcut2]
          exact hashG_ok (pieces_ok (p3 s0 (.head _))) fun f hf => pieces_ok (p3 f (.tail _ (List.mem_of_mem_take hf)))
        have hok2 := hash_ok (pieces_ok hgm)
        replace hP := Stop.fold hP
        k_steps
        unfold Stop
        (rename Fr _ _ _ _ => lF; rename News _ _ _ _ => lN)
        refine' lj_end (_, _) lF lN ?yn ?yo ?ya ?yk ?yr ?yp
        case yn => intro p hp; walk_at "MINE memL"
        case yo => intro p hp; walk_at "MINE memR"
        case ya => exact hoff
        case yk => kst_all
        case yr => walk_at "MINE sameX"
        case yp =>
          unfold Stop at hcut2
          show _ = hashG s0 (r.take (r.length - (i + 1)))
          rw [show r.length - (i + 1) = q by omega]
          exact hcut2
      case zd =>
        clear lF lN lR
        rintro ⟨tx, tt⟩ u hz tkz hP F1 N1
        dsimp only at hP F1 N1
        rw [Nat.sub_self, List.take_zero] at hP
        have hP' : tx = s0 := hP
        clear hP
        subst hP'
        have hm0 := p3 tx (.head _)
        have hsp := splitF_miss (pieces_no hm0)
        have hok1 := pieces_ok hm0
        have hok2 : cpOk (Str.ofString "") = true := by decide
        dsimp only
        k_steps
        all_goals (try rw [beq_self_eq_true])
        all_goals (rename Fr _ _ _ _ => lF; rename News _ _ _ _ => lN)
        all_goals exact hret _ _ lF (cb_drop lN fun p hp => by walk_at "MINE memT")

end Mine

-- MB
namespace Mine
theorem calmMB : True := by
  w_top off
  trivial
end Mine
namespace Mine
local macro_rules | `(tactic| walk_at "MINE enter") => `(tactic| (refine wpAny_call ?_; k_dflt (refine' code_def ?k1 ?k2 ?k3 ?k4 ?k5 ?kA ?kF ?kK ?k6 ?k7 ?k8 ?k9 ?kB ?_ ?c2 ?c3 ?c4 ?c5; (case kA => exact rfl); (case kF => exact rfl); (case kK => assumption); (case k1 => k_asm); (case k2 => k_asm); (case k3 => k_asm); (case k4 => k_asm); (case k5 => k_asm); (case k6 => k_is); (case k7 => k_is); (case k8 => ktr_room); (case k9 => first | exact BindsTo.of_eq rfl | exact binds_K (by k_in) rfl (by k_is) rfl rfl rfl); (case c5 => decide); (case kB => exact locs rfl); (case c2 => exact rfl); (case c3 => exact rfl); (case c4 => exact rfl); k_whole; intro g' L' h' FG' F' N' B' X' T'; (try dsimp only); (try k_lift B'); (try k_fold))))
local macro_rules | `(tactic| walk_at "MINE use") => `(tactic| (
  (case k1 => first | k_asm | fail "use: the frames below"); (case k2 => first | k_asm | fail "use: the frame"); (case k3 => first | k_asm | fail "use: the written part"); (case k4 => first | k_asm | fail "use: the ledger"); (case k5 => first | k_asm | fail "use: the top");
  (case kK => first | exact rfl | assumption | fail "use: no def"); (case kd => first | ktr_room | fail "use: room"); (case ku => first | ktr_units | fail "use: units")))
local macro_rules | `(tactic| walk_at "call ref") => `(tactic| (k_here; (with_reducible show wpAny _ _ (call (Value.ref 22) [Value.str _ _]) _ _ _); k_dflt (refine' Claim.use (split1e _ _ _ _ _ ?kl ?ke) ?k1 ?k2 ?k3 ?k4 ?k5 ?kK ?kd ?ku trivial ?_; (case kl => first | assumption | omega); (case ke => first | assumption | fail "use: what splitFragP gives"); walk_at "MINE use"; (intro a9 t9 u9 h9 tk9 F9 N9 l9); (try k_lt l9); (try k_fold))))
local macro_rules | `(tactic| walk_at "exec While Constant cons nil") => `(tactic| refine Stop.out ?_)

theorem RetStr.ret {x y : Str} {h₀ h' : Heap} {L : Addr} {m : Str → Option Value} {news : Led} {s : Shared} {Q : Value → Shared → Prop} {t : Tok} {tk' : Nat} (h : RetStr x h₀ L m news s Q) (e : x = y) (F : Fr h₀ L h' m) (N : News h₀ L h' news) : Q (.str y t) { s with heap := h', toks := tk' } := by
  subst e
  exact h t h' tk' F N

def bpF (here : Str) : Int := if (Txt.slice here (some (Txt.find here (Str.ofString ":") + 1)) (some (Txt.find here (Str.ofString ":") + 3)) == Str.ofString "//") = true then Txt.find3 here (Str.ofString "/") (Txt.find here (Str.ofString ":") + 3) else Txt.find here (Str.ofString ":") + 1
def joinG (here : Str) (b bp : Int) (there pth frg : Str) : Str :=
  if (Txt.slice there none (some 2) == Str.ofString "//") = true then Txt.slice here none (some (b + 1)) ++ there
  else if (Txt.slice there none (some 1) == Str.ofString "/") = true then Txt.slice here none (some bp) ++ there
  else loopF (pth.length + 1) bp here pth (Txt.rfind here (Str.ofString "/")) ++ frg
def joinF (here there pth frg : Str) : Str :=
  if pth.length = 0 then here ++ frg
  else if bpF here < 0 then joinG (here ++ Str.ofString "/") (Txt.find here (Str.ofString ":")) (here.length : Int) there pth frg
  else joinG here (Txt.find here (Str.ofString ":")) (bpF here) there pth frg

section
variable {here there pth frg : Str} {P : Prop}
theorem joinE0 (h : (pth.length : Int) = 0) : joinF here there pth frg = here ++ frg := if_pos (by omega)
theorem joinE1 (h : ¬ (pth.length : Int) = 0) (h2 : (Txt.slice here (some (Txt.find here (Str.ofString ":") + 1)) (some (Txt.find here (Str.ofString ":") + 3)) == Str.ofString "//") = true) (h3 : Txt.find3 here (Str.ofString "/") (Txt.find here (Str.ofString ":") + 3) < 0) :
    joinF here there pth frg = joinG (here ++ Str.ofString "/") (Txt.find here (Str.ofString ":")) (here.length : Int) there pth frg := by
  unfold joinF bpF; rw [if_neg (by omega), if_pos h2, if_pos h3]
theorem joinE2 (h : ¬ (pth.length : Int) = 0) (h2 : (Txt.slice here (some (Txt.find here (Str.ofString ":") + 1)) (some (Txt.find here (Str.ofString ":") + 3)) == Str.ofString "//") = true) (h3 : ¬ Txt.find3 here (Str.ofString "/") (Txt.find here (Str.ofString ":") + 3) < 0) :
    joinF here there pth frg = joinG here (Txt.find here (Str.ofString ":")) (Txt.find3 here (Str.ofString "/") (Txt.find here (Str.ofString ":") + 3)) there pth frg := by
  unfold joinF bpF; rw [if_neg (by omega), if_pos h2, if_neg h3]
theorem joinE3 (h : ¬ (pth.length : Int) = 0) (h2 : (Txt.slice here (some (Txt.find here (Str.ofString ":") + 1)) (some (Txt.find here (Str.ofString ":") + 3)) == Str.ofString "//") = false) (h3 : 0 ≤ Txt.find here (Str.ofString ":")) :
    joinF here there pth frg = joinG here (Txt.find here (Str.ofString ":")) (Txt.find here (Str.ofString ":") + 1) there pth frg := by
  have e : bpF here = Txt.find here (Str.ofString ":") + 1 := by unfold bpF; rw [if_neg (by rw [h2]; exact Bool.false_ne_true)]
  unfold joinF; rw [e, if_neg (by omega), if_neg (by omega)]
variable {b bp : Int}
theorem joinG1 (h : (Txt.slice there none (some 2) == Str.ofString "//") = true) : joinG here b bp there pth frg = Txt.slice here none (some (b + 1)) ++ there := if_pos h
theorem joinG2 (h : (Txt.slice there none (some 2) == Str.ofString "//") = false) (h2 : (Txt.slice there none (some 1) == Str.ofString "/") = true) : joinG here b bp there pth frg = Txt.slice here none (some bp) ++ there := by
  unfold joinG; rw [if_neg (by rw [h]; exact Bool.false_ne_true), if_pos h2]
theorem joinG3 (h : (Txt.slice there none (some 2) == Str.ofString "//") = false) (h2 : (Txt.slice there none (some 1) == Str.ofString "/") = false) : joinG here b bp there pth frg = loopF (pth.length + 1) bp here pth (Txt.rfind here (Str.ofString "/")) ++ frg := by
  unfold joinG; rw [if_neg (by rw [h]; exact Bool.false_ne_true), if_neg (by rw [h2]; exact Bool.false_ne_true)]
end

theorem join1 (w : World) (here there : Str) (t1 t2 : Tok) (hh : here.length ≤ 16384) (ht : there.length ≤ 16384)
   {pth frg : Str} (hsp : splitF there = (pth, frg)) (hpl : pth.length ≤ 16384) (hfl : frg.length ≤ 16384) (h1 : Txt.find there (Str.ofString ":") = -1) (h2 : 0 ≤ Txt.find here (Str.ofString ":"))
   (h3 : Txt.slice here (some (Txt.find here (Str.ofString ":") + 1)) (some (Txt.find here (Str.ofString ":") + 2)) = Str.ofString "/") : Claim w 2 29 [.str here t1, .str there t2] (fun _ => True) (RetStr (joinF here there pth frg)) := by
  unfold Claim
  k_fill
  intro p loose mean mg mb dp un gd cn cs a ccd cl outer A₀ base h₀ L m news s Q E B F X N T hk hdp hun hpre hret
  walk_at "MINE enter"
  k_steps
  all_goals try (exfalso; simp only [h3] at *; contradiction)
  all_goals first
    | (have hJ := joinE0 (here := here) (there := there) (pth := pth) (frg := frg) (by with_reducible assumption))
    | (have hJ := joinE1 (here := here) (there := there) (pth := pth) (frg := frg) (by with_reducible assumption) (by with_reducible assumption) (by with_reducible assumption))
    | (have hJ := joinE2 (here := here) (there := there) (pth := pth) (frg := frg) (by with_reducible assumption) (by with_reducible assumption) (by with_reducible assumption))
    | (have hJ := joinE3 (here := here) (there := there) (pth := pth) (frg := frg) (by with_reducible assumption) (by with_reducible assumption) (by with_reducible assumption))
  all_goals first
    | (rw [joinG1 (by with_reducible assumption)] at hJ)
    | (rw [joinG2 (by with_reducible assumption) (by with_reducible assumption)] at hJ)
    | (rw [joinG3 (by with_reducible assumption) (by with_reducible assumption)] at hJ)
    | skip
  all_goals (rename Fr _ _ _ _ => lF; rename News _ _ _ _ => lN)
  all_goals try exact RetStr.ret hret hJ lF (cb_drop lN fun p hp => .tail _ hp)
  all_goals unfold Stop
  all_goals (
    k_dflt refine' join_loop (news := news) (f := pth.length + 1) hdp hun ?kX ?kT lF ?kN ?q1 ?q2 ?q3 ?q4 ?q5 ?q6 (Nat.lt_succ_self _) ?q7 ?q8
    case kX => k_asm
    case kT => k_asm
    case kN => exact cb_drop lN fun p hp => .tail _ hp
    case q1 => with_unfolding_all rfl
    case q2 => with_unfolding_all rfl
    case q3 => with_unfolding_all rfl
    case q4 => with_unfolding_all rfl
    case q5 =>
      have e9 : Str.length (Str.ofString "/") = 1 := by decide
      omega
    case q6 => omega
    case q8 => passes_own
    case q7 =>
      clear lF lN
      intro hy py sy ty tq tr u9 h9 tk9 e1 b1 b2 F9 N9
      rw [← e1] at hJ
      (try dsimp only)
      (try k_fold)
      k_steps
      (rename Fr _ _ _ _ => lF; rename News _ _ _ _ => lN)
      exact RetStr.ret hret hJ lF lN)
end Mine

-- MJ
namespace Mine
theorem calmMJ : True := by
  w_top off
  trivial
end Mine
namespace Mine
/-! ### the plain law of join -/
theorem slice_hi_beyond {x : Str} {i j : Int} (h : (x.length : Int) ≤ j) : Txt.slice x (some i) (some j) = Txt.slice x (some i) (some (x.length : Int)) := by
  have a1 : ¬ j < 0 := by omega
  have a2 : ¬ ((x.length : Int) < 0) := by omega
  have e1 : max (0 : Int) (min j (x.length : Int)) = x.length := by omega
  have e2 : max (0 : Int) (min (x.length : Int) (x.length : Int)) = x.length := by omega
  have e : strSliceIndices (some i) (some j) 1 x.length = strSliceIndices (some i) (some (x.length : Int)) 1 x.length := by
    simp [strSliceIndices, a1, a2, e1, e2]
  unfold Txt.slice
  rw [e]
theorem slice_cut (x : Str) {a b : Nat} (h1 : a ≤ b) (h0 : a ≤ x.length) : L (Txt.slice x (some (a : Int)) (some (b : Int))) = ((L x).drop a).take (b - a) := by
  rcases Nat.le_total b x.length with h | h
  · exact slice_mid x h1 h
  · rw [slice_hi_beyond (by omega), slice_mid x h0 (Nat.le_refl _)]
    rw [List.take_of_length_le (by rw [List.length_drop, ← L_len]; exact Nat.le_refl _), List.take_of_length_le (by rw [List.length_drop, ← L_len]; omega)]
theorem beq_true {x y : Str} (h : L x = L y) : (x == y) = true := by rw [L_ext h]; exact beq_self_eq_true y
theorem beq_false {x y : Str} (h : L x ≠ L y) : (x == y) = false := by
  cases e : x == y with
  | false => rfl
  | true => exact absurd (congrArg L (eq_of_beq e)) h
theorem slice_to1 (x : Str) : L (Txt.slice x none (some 1)) = (L x).take 1 := slice_to x 1
theorem slice_to2 (x : Str) : L (Txt.slice x none (some 2)) = (L x).take 2 := slice_to x 2
theorem slice_to3 (x : Str) : L (Txt.slice x none (some 3)) = (L x).take 3 := slice_to x 3
theorem slice_from1 (x : Str) : L (Txt.slice x (some 1) none) = (L x).drop 1 := slice_from x 1
theorem slice_from2 (x : Str) : L (Txt.slice x (some 2) none) = (L x).drop 2 := slice_from x 2
theorem slice_from3 (x : Str) : L (Txt.slice x (some 3) none) = (L x).drop 3 := slice_from x 3
def catL (fs : List Str) : List Nat := fs.flatMap fun f => L f ++ [47]
theorem catL_app (a b : List Str) : catL (a ++ b) = catL a ++ catL b := List.flatMap_append ..
theorem catL_cons (f : Str) (r : List Str) : catL (f :: r) = L f ++ 47 :: catL r := by
  show (L f ++ [47]) ++ catL r = _
  rw [List.append_assoc]; rfl
theorem L_slash : L (Str.ofString "/") = [47] := by decide
theorem L_textG (fs : List Str) : ∀ t : Str, L (textG t fs) = L t ++ catL fs := by
  induction fs with
  | nil => intro t; exact (List.append_nil _).symm
  | cons f fs ih =>
    intro t
    have e : textG t (f :: fs) = textG (t ++ (f ++ Str.ofString "/")) fs := rfl
    rw [e, ih, L_app, L_app, L_slash, catL_cons]
    simp
def pref (op : Str) (fs : List Str) : List Nat := L op ++ 47 :: catL fs
theorem L_textF (op : Str) (fs : List Str) (nm : Str) : L (textF op fs nm) = pref op fs ++ L nm := by
  unfold textF pref
  rw [L_app, L_textG, L_app, L_slash]
  simp
def restF (fs : List Str) (nm : Str) : Str := Txt.slice (textF (Str.ofString "") fs nm) (some 1) none
theorem L_rest (fs : List Str) (nm : Str) : L (restF fs nm) = catL fs ++ L nm := by
  have h := slice_from1 (textF (Str.ofString "") fs nm)
  unfold restF
  refine h.trans ?_
  rw [L_textF]
  unfold pref
  rw [show L (Str.ofString "") = [] by decide]
  rfl
/-- an opening: what stands ahead of the colon, and a host behind two slashes or nothing -/
structure OpOk (op : Str) (sch r : List Nat) : Prop where
  eq : L op = sch ++ 58 :: r
  noC : 58 ∉ sch
  noH1 : 35 ∉ sch
  noH2 : 35 ∉ r
  ok : cpOk op = true
  len1 : sch.length ≤ 8
  len2 : op.length ≤ 20
  host : r = [] ∨ ∃ h, r = 47 :: 47 :: h ∧ 47 ∉ h
def Bare (op : Str) (fs : List Str) (nm base : Str) : Prop := base = textF op fs nm ∨ (base = op ∧ fs = [] ∧ nm = Str.ofString "" ∧ ∃ sch h, OpOk op sch (47 :: 47 :: h) ∧ 47 ∉ h)
theorem fold_no {c : Nat} (hc : c = 47 ∨ c = 35 ∨ c = 58) {f : Str} (h : f ∈ FOLD) : c ∉ L f := by
  rcases hc with rfl | rfl | rfl
  · exact all_no (ys := FOLD) (by decide) h
  · exact all_no (ys := FOLD) (by decide) h
  · exact all_no (ys := FOLD) (by decide) h
theorem name_no {c : Nat} (hc : c = 47 ∨ c = 35 ∨ c = 58) {f : Str} (h : f ∈ NAMES) : c ∉ L f := by
  rcases hc with rfl | rfl | rfl
  · exact all_no (ys := NAMES) (by decide) h
  · exact all_no (ys := NAMES) (by decide) h
  · exact all_no (ys := NAMES) (by decide) h
theorem catL_no {c : Nat} (hc : c = 35 ∨ c = 58) {fs : List Str} (h : ∀ f ∈ fs, f ∈ FOLD) : c ∉ catL fs := by
  intro hm
  obtain ⟨f, hf, hm⟩ := List.mem_flatMap.mp hm
  rcases List.mem_append.mp hm with hm | hm
  · exact fold_no (by omega) (h f hf) hm
  · have := List.mem_singleton.mp hm; omega
theorem catL_snoc (fs : List Str) (f : Str) : catL (fs ++ [f]) = catL fs ++ (L f ++ [47]) := by
  rw [catL_app, catL_cons]; rfl
theorem pref_snoc (op : Str) (fs : List Str) (f : Str) : pref op (fs ++ [f]) = pref op fs ++ (L f ++ [47]) := by
  unfold pref; rw [catL_snoc]; simp
/-- a told place's path ends with a slash -/
theorem pref_end (op : Str) (fs : List Str) : ∃ a, pref op fs = a ++ [47] ∧ op.length ≤ a.length := by
  rcases List.eq_nil_or_concat fs with rfl | ⟨r, f, rfl⟩
  · exact ⟨L op, by unfold pref; rfl, by rw [L_len]; exact Nat.le_refl _⟩
  · refine ⟨pref op r ++ L f, by rw [List.concat_eq_append, pref_snoc, List.append_assoc], ?_⟩
    unfold pref
    simp only [List.length_append, L_len]
    omega
/-- what may stand at the end of a reference's path: no step -/
def EndOk (p : List Nat) : Prop := p.take 2 ≠ [46, 47] ∧ p ≠ [46] ∧ p.take 3 ≠ [46, 46, 47] ∧ p ≠ [46, 46]
theorem L_of (s : String) {l : List Nat} (h : L (Str.ofString s) = l) {x : Str} (e : L x = l) : (x == Str.ofString s) = true := beq_true (e.trans h.symm)
theorem dot_same {p : Str} (h : (L p).take 2 ≠ [46, 47]) : dotS p = p := by
  refine dotS2 (beq_false ?_)
  have e := slice_to2 p
  rw [show L (Str.ofString "./") = [46, 47] by decide]
  intro h2
  exact h (e.symm.trans h2)
theorem dot_cut {p : Str} {q : List Nat} (h : L p = 46 :: 47 :: q) : L (dotS p) = q := by
  have e := slice_to2 p
  have e2 := slice_from2 p
  rw [dotS1 (beq_true ?_)]
  · refine e2.trans ?_
    rw [h]; rfl
  · rw [show L (Str.ofString "./") = [46, 47] by decide]
    refine e.trans ?_
    rw [h]; rfl
section
variable {f : Nat} {bp : Int} {h p : Str} {sl : Int}
theorem loop_end (hp : EndOk (L (dotS p))) : loopF (f + 1) bp h p sl = Txt.slice h none (some (sl + 1)) ++ dotS p := by
  obtain ⟨h1, h2, h3, h4⟩ := hp
  have e1 : (dotS p == Str.ofString ".") = false := beq_false (by rw [show L (Str.ofString ".") = [46] by decide]; exact h2)
  have e2 : (Txt.slice (dotS p) none (some 3) == Str.ofString "../") = false := beq_false (by
    have e := slice_to3 (dotS p)
    rw [show L (Str.ofString "../") = [46, 46, 47] by decide]
    intro h5; exact h3 (e.symm.trans h5))
  have e3 : (dotS p == Str.ofString "..") = false := beq_false (by rw [show L (Str.ofString "..") = [46, 46] by decide]; exact h4)
  rw [loopF, e1, e2, e3]
  simp
theorem loop_dot (hp : L (dotS p) = [46]) : loopF (f + 1) bp h p sl = loopF f bp h (Str.ofString "") sl := by
  rw [loopF, if_pos (beq_true (by rw [hp]; decide))]
theorem loop_up (h0 : L (dotS p) ≠ [46]) (hp : (L (dotS p)).take 3 = [46, 46, 47] ∨ L (dotS p) = [46, 46]) :
    loopF (f + 1) bp h p sl = if 0 ≤ rfind4 h (Str.ofString "/") bp sl then loopF f bp (Txt.slice h none (some (rfind4 h (Str.ofString "/") bp sl + 1))) (Txt.slice (dotS p) (some 3) none) (rfind4 h (Str.ofString "/") bp sl)
       else loopF f bp h (Txt.slice (dotS p) (some 3) none) sl := by
  have e1 : (dotS p == Str.ofString ".") = false := beq_false (by rw [show L (Str.ofString ".") = [46] by decide]; exact h0)
  have hc : (Txt.slice (dotS p) none (some 3) == Str.ofString "../") = true ∨ (dotS p == Str.ofString "..") = true := by
    rcases hp with hp | hp
    · have e3 : L (Txt.slice (dotS p) none (some 3)) = L (Str.ofString "../") := by
        rw [slice_to3, hp]; decide
      exact .inl (beq_true e3)
    · have e3 : L (dotS p) = L (Str.ofString "..") := by rw [hp]; decide
      exact .inr (beq_true e3)
  rw [loopF, e1, if_neg Bool.false_ne_true, if_pos hc]
end
/-- where the loop stands: the text is the path so far and a tail without a slash -/
def At (op : Str) (fs : List Str) (h : Str) (sl : Int) : Prop := (∃ x, L h = pref op fs ++ x ∧ 47 ∉ x) ∧ sl = ((pref op fs).length : Int) - 1
theorem pref_len (op : Str) (fs : List Str) : op.length + 1 ≤ (pref op fs).length := by
  unfold pref; rw [List.length_append, List.length_cons, L_len]; omega
theorem at_end {op : Str} {fs : List Str} {h : Str} {sl : Int} (A : At op fs h sl) : L (Txt.slice h none (some (sl + 1))) = pref op fs := by
  obtain ⟨⟨x, e, _⟩, rfl⟩ := A
  rw [show ((pref op fs).length : Int) - 1 + 1 = ((pref op fs).length : Int) by omega, slice_to, e, List.take_left]
theorem at_up {op : Str} {fs : List Str} {h : Str} {sl : Int} (hf : ∀ f ∈ fs, f ∈ FOLD) (A : At op fs h sl) {f : Nat} {p : Str} (h0 : L (dotS p) ≠ [46]) (hp : (L (dotS p)).take 3 = [46, 46, 47] ∨ L (dotS p) = [46, 46]) :
    ∃ h' sl', At op fs.dropLast h' sl' ∧ loopF (f + 1) (op.length : Int) h p sl = loopF f (op.length : Int) h' (Txt.slice (dotS p) (some 3) none) sl' := by
  obtain ⟨⟨x, e, hx⟩, rfl⟩ := A
  rw [loop_up h0 hp]
  rcases List.eq_nil_or_concat fs with rfl | ⟨r, g, rfl⟩
  · have e1 : ((pref op []).length : Int) - 1 = (op.length : Int) := by unfold pref; rw [List.length_append, L_len]; simp [catL]
    have e2 : rfind4 h (Str.ofString "/") (op.length : Int) (((pref op []).length : Int) - 1) = -1 := by
      rw [e1, slash_is]
      refine rfind4_miss ?_ fun v h1 h2 => absurd h2 (by omega)
      rw [L_len h, e, List.length_append]
      have := pref_len op []
      omega
    rw [e2, if_neg (by decide)]
    exact ⟨h, _, ⟨⟨x, e, hx⟩, rfl⟩, rfl⟩
  · rw [List.concat_eq_append] at *
    obtain ⟨a, ea, la⟩ := pref_end op r
    have hg : g ∈ FOLD := hf g (List.mem_append.mpr (.inr (.head _)))
    have e3 : L h = a ++ 47 :: (L g ++ (47 :: x)) := by rw [e, pref_snoc, ea]; simp
    have e4 : (((pref op (r ++ [g])).length : Int) - 1) = ((a.length + 1 + (L g).length : Nat) : Int) := by
      rw [pref_snoc, ea]; simp only [List.length_append, List.length_cons, List.length_nil]; omega
    have e2 : rfind4 h (Str.ofString "/") (op.length : Int) (((pref op (r ++ [g])).length : Int) - 1) = (a.length : Int) := by
      rw [e4, slash_is]
      exact rfind4_hit e3 (fold_no (.inl rfl) hg) la rfl
    rw [e2, if_pos (by omega)]
    refine ⟨_, _, ⟨⟨[], ?_, by simp⟩, ?_⟩, rfl⟩
    · rw [List.dropLast_concat, show ((a.length : Int) + 1) = ((a.length + 1 : Nat) : Int) by omega, slice_to, e3, ea]
      rw [List.append_nil, List.take_append, List.take_of_length_le (by omega)]
      simp
    · rw [List.dropLast_concat, ea, List.length_append]
      simp only [List.length_cons, List.length_nil]
      omega
def ups : Nat → List Nat
  | 0 => []
  | j + 1 => 46 :: 46 :: 47 :: ups j
theorem take_drop_last (fs : List Str) (j : Nat) : fs.dropLast.take (fs.dropLast.length - j) = fs.take (fs.length - (j + 1)) := by
  rw [List.dropLast_eq_take, List.take_take, List.length_take]
  congr 1
  omega
theorem dropLast_fold {fs : List Str} (hf : ∀ f ∈ fs, f ∈ FOLD) : ∀ f ∈ fs.dropLast, f ∈ FOLD := fun f h => hf f (List.dropLast_subset fs h)
theorem loop_ups {op : Str} (j : Nat) : ∀ {f : Nat} {fs : List Str} {h p : Str} {sl : Int} {q : List Nat}, (∀ f ∈ fs, f ∈ FOLD) → At op fs h sl → L p = ups j ++ q →
    ∃ h' sl' p', At op (fs.take (fs.length - j)) h' sl' ∧ L p' = q ∧ loopF (f + j) (op.length : Int) h p sl = loopF f (op.length : Int) h' p' sl' := by
  induction j with
  | zero =>
    intro f fs h p sl q hf A hp
    exact ⟨h, sl, p, by rw [Nat.sub_zero, List.take_length]; exact A, hp, rfl⟩
  | succ j ih =>
    intro f fs h p sl q hf A hp
    have hp' : L p = 46 :: 46 :: 47 :: (ups j ++ q) := hp
    have hd : dotS p = p := dot_same (by rw [hp']; simp)
    obtain ⟨h1, sl1, A1, e1⟩ := at_up hf A (f := f + j) (p := p) (by rw [hd, hp']; simp) (.inl (by rw [hd, hp']; rfl))
    rw [hd] at e1
    have hp1 : L (Txt.slice p (some 3) none) = ups j ++ q := by rw [slice_from3, hp']; rfl
    obtain ⟨h2, sl2, p2, A2, e2, e3⟩ := ih (f := f) (dropLast_fold hf) A1 hp1
    rw [take_drop_last] at A2
    exact ⟨h2, sl2, p2, A2, e2, by rw [← e3, ← e1]; rfl⟩
theorem loop_strip {f : Nat} {bp : Int} {h p : Str} {sl : Int} (hd : dotS (dotS p) = dotS p) : loopF (f + 1) bp h p sl = loopF (f + 1) bp h (dotS p) sl := by
  rw [loopF, loopF, hd]
theorem L_nil : L (Str.ofString "") = [] := by decide
theorem end_nil : EndOk [] := by unfold EndOk; decide
theorem rest_end {fs : List Str} {nm : Str} (hf : ∀ f ∈ fs, f ∈ FOLD) (hn : nm ∈ NAMES) : EndOk (catL fs ++ L nm) := by
  cases fs with
  | nil =>
    have : NAMES.all (fun x => decide ((L x).take 2 ≠ [46, 47] ∧ L x ≠ [46] ∧ (L x).take 3 ≠ [46, 46, 47] ∧ L x ≠ [46, 46])) = true := by decide
    have h1 := of_decide_eq_true (List.all_eq_true.mp this nm hn)
    rw [show catL [] = [] from rfl, List.nil_append]
    exact h1
  | cons f r =>
    have : FOLD.all (fun x => decide (L x = [102] ∨ L x = [103, 46, 104] ∨ L x = [46, 46, 46] ∨ L x = [233, 32, 233])) = true := by decide
    have h1 := of_decide_eq_true (List.all_eq_true.mp this f (hf f (.head _)))
    rw [catL_cons, List.append_assoc]
    generalize (47 :: catL r ++ L nm) = t
    unfold EndOk
    rcases h1 with e | e | e | e <;> rw [e] <;> simp
section
variable {op : Str} {fs : List Str} {h p : Str} {sl : Int} {j : Nat} {q : List Nat} (hf : ∀ f ∈ fs, f ∈ FOLD) (A : At op fs h sl)
include hf A
/-- steps up, then a path down -/
theorem loopA {F : Nat} (hp : L p = ups j ++ q) (hq : EndOk q) (hF : j < F) : L (loopF F (op.length : Int) h p sl) = pref op (fs.take (fs.length - j)) ++ q := by
  obtain ⟨f, rfl⟩ : ∃ f, F = (f + 1) + j := ⟨F - j - 1, by omega⟩
  obtain ⟨h1, sl1, p1, A1, e1, e2⟩ := loop_ups j (f := f + 1) hf A hp
  have hd : dotS p1 = p1 := dot_same (by rw [e1]; exact hq.1)
  rw [e2, loop_end (by rw [hd, e1]; exact hq), L_app, at_end A1, hd, e1]
/-- a step here ahead of the steps up -/
theorem loopB {F : Nat} (hp : L p = 46 :: 47 :: (ups j ++ q)) (hq : EndOk q) (hF : j < F) : L (loopF F (op.length : Int) h p sl) = pref op (fs.take (fs.length - j)) ++ q := by
  have hc := dot_cut hp
  obtain ⟨f, rfl⟩ : ∃ f, F = f + 1 := ⟨F - 1, by omega⟩
  rw [loop_strip (dot_same (by
    rw [hc]
    cases j with
    | zero => exact hq.1
    | succ j => simp [ups]))]
  exact loopA hf A hc hq hF
/-- steps up, the last without its slash -/
theorem loopC {F : Nat} (hp : L p = ups j ++ [46, 46]) (hF : j + 1 < F) : L (loopF F (op.length : Int) h p sl) = pref op (fs.take (fs.length - (j + 1))) := by
  obtain ⟨f, rfl⟩ : ∃ f, F = (f + 1 + 1) + j := ⟨F - j - 2, by omega⟩
  obtain ⟨h1, sl1, p1, A1, e1, e2⟩ := loop_ups j (f := f + 1 + 1) hf A hp
  have hd : dotS p1 = p1 := dot_same (by rw [e1]; decide)
  have hf1 : ∀ g ∈ fs.take (fs.length - j), g ∈ FOLD := fun g hg => hf g (List.mem_of_mem_take hg)
  obtain ⟨h2, sl2, A2, e3⟩ := at_up hf1 A1 (f := f + 1) (p := p1) (by rw [hd, e1]; decide) (.inr (by rw [hd, e1]))
  have e4 : L (Txt.slice (dotS p1) (some 3) none) = [] := by rw [slice_from3, hd, e1]; rfl
  have hd2 : dotS (Txt.slice (dotS p1) (some 3) none) = Txt.slice (dotS p1) (some 3) none := dot_same (by rw [e4]; decide)
  rw [e2, e3]
  generalize hpz : Txt.slice (dotS p1) (some 3) none = pz at e4 hd2
  rw [loop_end (by rw [hd2, e4]; exact end_nil), L_app, at_end A2, hd2, e4, List.append_nil]
  have e5 : (fs.take (fs.length - j)).dropLast = fs.take (fs.length - (j + 1)) := by
    rw [List.dropLast_eq_take, List.take_take, List.length_take]
    congr 1
    omega
  rw [e5]
/-- a point alone -/
theorem loopD {F : Nat} (hp : L p = [46]) (hF : 1 < F) : L (loopF F (op.length : Int) h p sl) = pref op fs := by
  obtain ⟨f, rfl⟩ : ∃ f, F = f + 1 + 1 := ⟨F - 2, by omega⟩
  have hd : dotS p = p := dot_same (by rw [hp]; decide)
  have hd2 : dotS (Str.ofString "") = Str.ofString "" := dot_same (by rw [L_nil]; decide)
  rw [loop_dot (by rw [hd, hp]), loop_end (by rw [hd2, L_nil]; exact end_nil), L_app, at_end A, hd2, L_nil, List.append_nil]
/-- a step here behind the steps up -/
theorem loopE {F : Nat} (hp : L p = ups j ++ (46 :: 47 :: q)) (hq : EndOk q) (hF : j < F) : L (loopF F (op.length : Int) h p sl) = pref op (fs.take (fs.length - j)) ++ q := by
  obtain ⟨f, rfl⟩ : ∃ f, F = (f + 1) + j := ⟨F - j - 1, by omega⟩
  obtain ⟨h1, sl1, p1, A1, e1, e2⟩ := loop_ups j (f := f + 1) hf A hp
  have hc := dot_cut e1
  rw [e2, loop_end (by rw [hc]; exact hq), L_app, at_end A1, hc]
end

end Mine

-- MK
namespace Mine
theorem calmMK : True := by
  w_top off
  trivial
end Mine
namespace Mine
theorem mul_ups {j : Int} (h0 : 0 ≤ j) (h4 : j < 4) : L (Txt.mul (Str.ofString "../") j) = ups j.toNat := by
  rcases (by omega : j = 0 ∨ j = 1 ∨ j = 2 ∨ j = 3) with rfl | rfl | rfl | rfl <;> decide
theorem op_len {op : Str} {sch r : List Nat} (O : OpOk op sch r) : op.length = sch.length + 1 + r.length := by
  rw [L_len, O.eq, List.length_append, List.length_cons]; omega
/-- what stands behind the opening's slash does not begin with one -/
theorem tail_no {fs : List Str} {nm : Str} (hf : ∀ f ∈ fs, f ∈ FOLD) (hn : nm ∈ NAMES) {u : List Nat} (hu : u.take 1 ≠ [47]) : (catL fs ++ L nm ++ u).take 1 ≠ [47] := by
  cases fs with
  | nil =>
    rw [show catL [] = [] from rfl, List.nil_append]
    have h47 := name_no (.inl rfl) hn
    cases e : L nm with
    | nil => exact hu
    | cons a t =>
      intro h
      have : a = 47 := by simpa using h
      subst this
      rw [e] at h47
      exact h47 (.head _)
  | cons f r =>
    have : FOLD.all (fun x => decide (L x = [102] ∨ L x = [103, 46, 104] ∨ L x = [46, 46, 46] ∨ L x = [233, 32, 233])) = true := by decide
    have h1 := of_decide_eq_true (List.all_eq_true.mp this f (hf f (.head _)))
    rw [catL_cons]
    rcases h1 with e | e | e | e <;> rw [e] <;> simp
section
variable {op : Str} {sch r : List Nat} {fs : List Str} {nm base : Str} (O : OpOk op sch r) (hf : ∀ f ∈ fs, f ∈ FOLD) (hn : nm ∈ NAMES) (B : Bare op fs nm base)
include O hf hn B
theorem base_cases : (base = textF op fs nm ∧ L base = sch ++ 58 :: (r ++ 47 :: (catL fs ++ L nm))) ∨ (∃ h, r = 47 :: 47 :: h ∧ 47 ∉ h ∧ base = op ∧ textF op fs nm = op ++ Str.ofString "/" ∧ fs = [] ∧ nm = Str.ofString "") := by
  rcases B with B | ⟨rfl, rfl, rfl, sch', h, O', h47⟩
  · refine .inl ⟨B, ?_⟩
    rw [B, L_textF]
    unfold pref
    rw [O.eq]
    simp
  · refine .inr ⟨h, ?_, h47, rfl, ?_, rfl, rfl⟩
    · -- the same text is cut at its first colon
      have e := O.eq.symm.trans O'.eq
      have hl : sch.length = sch'.length := by
        rcases Nat.lt_trichotomy sch.length sch'.length with hlt | heq | hlt
        · exfalso
          have h1 : (sch ++ 58 :: r)[sch.length]? = some 58 := by simp
          rw [e, List.getElem?_append_left hlt] at h1
          exact O'.noC (List.mem_of_getElem? h1)
        · exact heq
        · exfalso
          have h1 : (sch' ++ 58 :: 47 :: 47 :: h)[sch'.length]? = some 58 := by simp
          rw [← e, List.getElem?_append_left hlt] at h1
          exact O.noC (List.mem_of_getElem? h1)
      have := List.append_inj e hl
      exact (List.cons.inj this.2).2
    · apply L_ext
      rw [L_textF, L_app, L_nil, L_slash]
      unfold pref
      simp [catL]
theorem base_len : base.length ≤ 24 + sumLen fs := by
  have h1 := O.len2
  have h2 := names_len hn
  rcases B with B | ⟨rfl, rfl, rfl, _⟩
  · rw [B, textF_len]; omega
  · omega
theorem base_find : Txt.find base (Str.ofString ":") = (sch.length : Int) := by
  rw [colon_is]
  rcases base_cases O hf hn B with ⟨_, e⟩ | ⟨h, e1, _, rfl, _⟩
  · exact find_hit e O.noC
  · exact find_hit O.eq O.noC
theorem base_slash : Txt.slice base (some (Txt.find base (Str.ofString ":") + 1)) (some (Txt.find base (Str.ofString ":") + 2)) = Str.ofString "/" := by
  rw [base_find O hf hn B]
  apply L_ext
  rw [L_slash, show ((sch.length : Int) + 1) = ((sch.length + 1 : Nat) : Int) by omega, show ((sch.length : Int) + 2) = ((sch.length + 2 : Nat) : Int) by omega]
  rcases base_cases O hf hn B with ⟨_, e⟩ | ⟨h, e1, _, rfl, _⟩
  · rw [slice_cut base (by omega) (by rw [L_len, e]; simp), e]
    rcases O.host with rfl | ⟨h, rfl, _⟩ <;> simp
  · rw [slice_cut base (by omega) (by rw [L_len, O.eq]; simp), O.eq, e1]
    simp
theorem join_open {there pth frg : Str} (hp : pth.length ≠ 0) : joinF base there pth frg = joinG (textF op fs nm) (sch.length : Int) (op.length : Int) there pth frg := by
  have hfd := base_find O hf hn B
  have e1 : ((sch.length : Int) + 1) = ((sch.length + 1 : Nat) : Int) := by omega
  have e3 : ((sch.length : Int) + 3) = ((sch.length + 3 : Nat) : Int) := by omega
  have hol := op_len O
  have hss : L (Str.ofString "//") = [47, 47] := by decide
  unfold joinF
  rw [if_neg hp]
  rcases base_cases O hf hn B with ⟨eb, e⟩ | ⟨h, er, h47, eb, et, _, _⟩
  · have hbp : bpF base = (op.length : Int) := by
      unfold bpF
      rw [hfd, e1, e3]
      rcases O.host with hr | ⟨h, hr, h47⟩
      · rw [if_neg]
        · rw [hr, List.length_nil] at hol; omega
        · rw [beq_false]
          · decide
          · rw [slice_cut base (by omega) (by rw [L_len, e]; simp), e, hr, hss]
            have ht := tail_no hf hn (u := []) (by decide)
            rw [List.append_nil] at ht
            have h5 : (sch ++ 58 :: ([] ++ 47 :: (catL fs ++ L nm))).drop (sch.length + 1) = 47 :: (catL fs ++ L nm) := by
              rw [List.drop_append]; simp
            rw [h5, show sch.length + 3 - (sch.length + 1) = 1 + 1 by omega, List.take_succ_cons]
            intro h6
            exact ht (List.cons.inj h6).2
      · rw [if_pos]
        · have ea : L base = L op ++ 47 :: (catL fs ++ L nm) := by rw [e, O.eq]; simp
          rw [slash_is, find3_hit ea (by rw [← L_len, hol, hr]; simp only [List.length_cons]; omega) ?_, L_len]
          intro v h1 h2 h3
          rw [O.eq, hr, List.getElem?_append_right (by omega)] at h3
          obtain ⟨q, hq⟩ : ∃ q, v - sch.length = q + 3 := ⟨v - sch.length - 3, by omega⟩
          rw [hq] at h3
          exact h47 (List.mem_of_getElem? h3)
        · refine beq_true ?_
          rw [slice_cut base (by omega) (by rw [L_len, e]; simp), e, hr, hss]
          have h5 : (sch ++ 58 :: ((47 :: 47 :: h) ++ 47 :: (catL fs ++ L nm))).drop (sch.length + 1) = 47 :: 47 :: (h ++ 47 :: (catL fs ++ L nm)) := by
            rw [List.drop_append]; simp
          rw [h5, show sch.length + 3 - (sch.length + 1) = 1 + 1 by omega, List.take_succ_cons]
          rfl
    rw [hbp, if_neg (by omega), hfd, eb]
  · have hbp : bpF base = -1 := by
      unfold bpF
      rw [hfd, e1, e3, if_pos]
      · rw [slash_is]
        refine find3_miss fun v h1 h3 => ?_
        rw [eb, O.eq, er, List.getElem?_append_right (by omega)] at h3
        obtain ⟨q, hq⟩ : ∃ q, v - sch.length = q + 3 := ⟨v - sch.length - 3, by omega⟩
        rw [hq] at h3
        exact h47 (List.mem_of_getElem? h3)
      · refine beq_true ?_
        rw [eb, slice_cut op (by omega) (by rw [L_len, O.eq]; simp), O.eq, er, hss]
        have h5 : (sch ++ 58 :: (47 :: 47 :: h)).drop (sch.length + 1) = 47 :: 47 :: h := by
          rw [List.drop_append]; simp
        rw [h5, show sch.length + 3 - (sch.length + 1) = 1 + 1 by omega, List.take_succ_cons]
        rfl
    rw [hbp, if_pos (by decide), hfd, et, eb]
end
end Mine

-- MR
namespace Mine
theorem calmMR : True := by
  w_top off
  trivial
end Mine
namespace Mine
def newOp (kd : Int) (op : Str) : Str := if kd = 6 then Txt.slice op none (some (Txt.find op (Str.ofString ":") + 1)) ++ Str.ofString "//o.th" else op
def newFs (kd up : Int) (fs down : List Str) : List Str := if kd = 5 then down else if kd = 6 then down else fs.take (fs.length - up.toNat) ++ down
/-- what a reference's path is, sign by sign -/
def WayL (kd up : Int) (down : List Str) (nm : Str) (pa : List Nat) (J : Nat) : Prop :=
  (kd = 0 ∧ pa = []) ∨
  (kd = 1 ∧ up.toNat = J ∧ pa = ups J ++ (catL down ++ L nm)) ∨
  (kd = 2 ∧ up.toNat = J ∧ pa = 46 :: 47 :: (ups J ++ (catL down ++ L nm))) ∨
  (kd = 3 ∧ up.toNat = J + 1 ∧ down = [] ∧ nm = Str.ofString "" ∧ pa = ups J ++ [46, 46]) ∨
  (kd = 4 ∧ up.toNat = 0 ∧ down = [] ∧ nm = Str.ofString "" ∧ pa = [46]) ∨
  (kd = 5 ∧ pa = 47 :: (catL down ++ L nm)) ∨
  (kd = 6 ∧ pa = 47 :: 47 :: 111 :: 46 :: 116 :: 104 :: 47 :: (catL down ++ L nm)) ∨
  (kd ≠ 5 ∧ kd ≠ 6 ∧ up.toNat = J ∧ pa = ups J ++ (46 :: 47 :: (catL down ++ L nm)))
theorem wayL_of {kd up : Int} {down : List Str} {nm pa : Str} {j : Int} (h0 : 0 ≤ j) (h4 : j < 4) (W : RawWay kd up down nm pa j) : WayL kd up down nm (L pa) j.toNat := by
  have hm := mul_ups h0 h4
  have hr := L_rest down nm
  unfold restF at hr
  rcases W with ⟨h1, _, _, _, rfl⟩ | ⟨h1, h2, rfl⟩ | ⟨h1, h2, rfl⟩ | ⟨h1, h2, h3, h5, rfl⟩ | ⟨h1, h2, h3, h5, rfl⟩ | ⟨h1, h2, rfl⟩ | ⟨h1, h2, rfl⟩ | ⟨_, _, _, _, _, h1, h3, h2, rfl⟩
  · exact .inl ⟨h1, by decide⟩
  · exact .inr (.inl ⟨h1, by rw [h2], by rw [L_app, hm, hr]⟩)
  · refine .inr (.inr (.inl ⟨h1, by rw [h2], ?_⟩))
    rw [L_app, L_app, hm, hr, show L (Str.ofString "./") = [46, 47] by decide]
    simp
  · refine .inr (.inr (.inr (.inl ⟨h1, by omega, h3, h5, ?_⟩)))
    rw [L_app, hm, show L (Str.ofString "..") = [46, 46] by decide]
  · exact .inr (.inr (.inr (.inr (.inl ⟨h1, by rw [h2]; rfl, h3, h5, by decide⟩))))
  · refine .inr (.inr (.inr (.inr (.inr (.inl ⟨h1, ?_⟩)))))
    rw [L_app, hr, L_slash]; rfl
  · refine .inr (.inr (.inr (.inr (.inr (.inr (.inl ⟨h1, ?_⟩))))))
    rw [L_app, hr, show L (Str.ofString "//o.th/") = [47, 47, 111, 46, 116, 104, 47] by decide]; rfl
  · refine .inr (.inr (.inr (.inr (.inr (.inr (.inr ⟨h1, h3, by rw [h2], ?_⟩))))))
    rw [L_app, L_app, hm, hr, show L (Str.ofString "./") = [46, 47] by decide]
    simp
theorem ups_no {c : Nat} (hc : c = 35 ∨ c = 58) : ∀ J : Nat, c ∉ ups J
  | 0 => by simp [ups]
  | J + 1 => by
    intro h
    simp only [ups, List.mem_cons] at h
    rcases h with h | h | h | h
    · omega
    · omega
    · omega
    · exact ups_no hc J h
theorem rest_no {c : Nat} (hc : c = 35 ∨ c = 58) {fs : List Str} {nm : Str} (hf : ∀ f ∈ fs, f ∈ FOLD) (hn : nm ∈ NAMES) : c ∉ catL fs ++ L nm := by
  intro h
  rcases List.mem_append.mp h with h | h
  · exact catL_no hc hf h
  · exact name_no (by omega) hn h
theorem way_no {c : Nat} (hc : c = 35 ∨ c = 58) {kd up : Int} {down : List Str} {nm : Str} {pa : List Nat} {J : Nat} (hf : ∀ f ∈ down, f ∈ FOLD) (hn : nm ∈ NAMES) (W : WayL kd up down nm pa J) : c ∉ pa := by
  have hr := rest_no hc hf hn
  have hu := ups_no hc J
  rcases W with ⟨_, rfl⟩ | ⟨_, _, rfl⟩ | ⟨_, _, rfl⟩ | ⟨_, _, _, _, rfl⟩ | ⟨_, _, _, _, rfl⟩ | ⟨_, rfl⟩ | ⟨_, rfl⟩ | ⟨_, _, _, rfl⟩ <;> intro h <;> simp only [List.mem_cons, List.mem_append, List.not_mem_nil, or_false] at h hr
  · exact (not_or.mp hr).elim fun _ _ => (by rcases h with h | h; exact hu h; exact hr h)
  · rcases h with h | h | h | h
    · omega
    · omega
    · exact hu h
    · exact hr h
  · rcases h with h | h | h
    · exact hu h
    · omega
    · omega
  · omega
  · rcases h with h | h
    · omega
    · exact hr h
  · rcases h with h | h | h | h | h | h | h | h
    any_goals omega
    exact hr h
  · rcases h with h | h | h | h
    · exact hu h
    · omega
    · omega
    · exact hr h
theorem ups_len : ∀ J : Nat, (ups J).length = 3 * J
  | 0 => rfl
  | J + 1 => by simp only [ups, List.length_cons, ups_len J]; omega
section
variable {op : Str} {sch r : List Nat} {fs down : List Str} {nm named base pa fr : Str} {kd up : Int} {J : Nat}
theorem at_start (hn : nm ∈ NAMES) : At op fs (textF op fs nm) (Txt.rfind (textF op fs nm) (Str.ofString "/")) := by
  obtain ⟨a, ea, _⟩ := pref_end op fs
  refine ⟨⟨L nm, L_textF op fs nm, name_no (.inl rfl) hn⟩, ?_⟩
  have e : L (textF op fs nm) = a ++ 47 :: L nm := by rw [L_textF, ea]; simp
  rw [slash_is, rfind_hit e (name_no (.inl rfl) hn), ea, List.length_append]
  simp only [List.length_cons, List.length_nil]
  omega
theorem join_res (O : OpOk op sch r) (hf : ∀ f ∈ fs, f ∈ FOLD) (hn : nm ∈ NAMES) (B : Bare op fs nm base) (hd : ∀ f ∈ down, f ∈ FOLD) (hm : named ∈ NAMES)
    (W : WayL kd up down named (L pa) J) (hpa : pa.length ≠ 0) (hfr : (L fr).take 1 ≠ [47]) : joinF base (pa ++ fr) pa fr = textF (newOp kd op) (newFs kd up fs down) named ++ fr := by
  rw [join_open O hf hn B hpa]
  have hre := rest_end hd hm
  have htn := tail_no hd hm hfr
  have hA := at_start (op := op) (fs := fs) hn
  have hss : L (Str.ofString "//") = [47, 47] := by decide
  have hlen : pa.length = (L pa).length := L_len pa
  -- the walk up and down
  have go : kd ≠ 5 → kd ≠ 6 → (L pa).take 1 ≠ [47] → L (loopF (pa.length + 1) (op.length : Int) (textF op fs nm) pa (Txt.rfind (textF op fs nm) (Str.ofString "/"))) = pref op (newFs kd up fs down) ++ L named →
      joinG (textF op fs nm) (sch.length : Int) (op.length : Int) (pa ++ fr) pa fr = textF (newOp kd op) (newFs kd up fs down) named ++ fr := by
    intro h5 h6 h1 hl
    have hne : L pa ≠ [] := by intro h; rw [hlen, h] at hpa; exact hpa rfl
    obtain ⟨c, t, e⟩ : ∃ c t, L pa = c :: t := by
      cases e : L pa with
      | nil => exact absurd e hne
      | cons c t => exact ⟨c, t, rfl⟩
    have hc : c ≠ 47 := by intro h; rw [e, h] at h1; exact h1 rfl
    rw [joinG3]
    · apply L_ext
      rw [L_app, L_app, hl, L_textF, newOp, if_neg h6]
    · refine beq_false ?_
      rw [slice_to2, L_app, e, hss]
      intro h
      exact hc (List.cons.inj h).1
    · refine beq_false ?_
      rw [slice_to1, L_app, e, L_slash]
      intro h
      exact hc (List.cons.inj h).1
  have pa_app : ∀ a b : List Str, ∀ x : List Nat, pref op (a ++ b) ++ x = pref op a ++ (catL b ++ x) := by
    intro a b x
    unfold pref
    rw [catL_app]
    simp
  have up_ne : ∀ (K : Nat) (x : List Nat), x.take 1 ≠ [47] → (ups K ++ x).take 1 ≠ [47] := by
    intro K x hx
    cases K with
    | zero => exact hx
    | succ K => simp [ups]
  have htn0 := tail_no hd hm (u := []) (by decide)
  rw [List.append_nil] at htn0
  rcases W with ⟨_, e⟩ | ⟨h1, h2, e⟩ | ⟨h1, h2, e⟩ | ⟨h1, h2, h3, h4, e⟩ | ⟨h1, h2, h3, h4, e⟩ | ⟨h1, e⟩ | ⟨h1, e⟩ | ⟨h5, h6, h2, e⟩
  · rw [hlen, e] at hpa; exact absurd rfl hpa
  · refine go (by omega) (by omega) (by rw [e]; exact up_ne J _ htn0) ?_
    rw [loopA hf hA e hre (by rw [hlen, e, List.length_append, ups_len]; omega), newFs, if_neg (by omega), if_neg (by omega), pa_app, h2]
  · refine go (by omega) (by omega) (by rw [e]; simp) ?_
    rw [loopB hf hA e hre (by rw [hlen, e]; simp only [List.length_cons, List.length_append, ups_len]; omega), newFs, if_neg (by omega), if_neg (by omega), pa_app, h2]
  · refine go (by omega) (by omega) (by rw [e]; exact up_ne J _ (by decide)) ?_
    rw [loopC hf hA e (by rw [hlen, e]; simp only [List.length_cons, List.length_append, ups_len, List.length_nil]; omega), newFs, if_neg (by omega), if_neg (by omega), h2, h3, h4, L_nil, List.append_nil, List.append_nil]
  · refine go (by omega) (by omega) (by rw [e]; decide) ?_
    rw [loopD hf hA e (by rw [hlen, e]; decide), newFs, if_neg (by omega), if_neg (by omega), h2, h3, h4, L_nil, List.append_nil, List.append_nil, Nat.sub_zero, List.take_length]
  · -- from the root
    rw [joinG2]
    · apply L_ext
      rw [newOp, if_neg (by omega), newFs, if_pos h1]
      rw [L_app, L_app, L_app, slice_to, L_textF, L_textF, e]
      have h7 : (pref op fs ++ L nm).take op.length = L op := by
        unfold pref
        rw [L_len, List.append_assoc, List.take_left]
      rw [h7]
      unfold pref
      simp
    · refine beq_false ?_
      rw [slice_to2, L_app, e, hss]
      intro h
      rw [List.cons_append, List.take_succ_cons] at h
      exact htn (List.cons.inj h).2
    · refine beq_true ?_
      rw [slice_to1, L_app, e, L_slash]
      rfl
  · -- another host
    rw [joinG1]
    · apply L_ext
      have h8 : Txt.find op (Str.ofString ":") = (sch.length : Int) := by rw [colon_is]; exact find_hit O.eq O.noC
      rw [newOp, if_pos h1, newFs, if_neg (by omega), if_pos h1, h8]
      rw [L_app, L_app, L_app, L_textF, show ((sch.length : Int) + 1) = ((sch.length + 1 : Nat) : Int) by omega, slice_to, L_textF, e]
      unfold pref
      rw [L_app, slice_to, O.eq, show L (Str.ofString "//o.th") = [47, 47, 111, 46, 116, 104] by decide]
      have h9 : ∀ x : List Nat, (sch ++ 58 :: x).take (sch.length + 1) = sch ++ [58] := by
        intro x
        rw [List.take_append, List.take_of_length_le (by omega)]
        simp
      rw [h9]
      have h10 : ((sch ++ 58 :: r ++ 47 :: catL fs) ++ L nm).take (sch.length + 1) = sch ++ [58] := by
        rw [show (sch ++ 58 :: r ++ 47 :: catL fs) ++ L nm = sch ++ 58 :: (r ++ 47 :: (catL fs ++ L nm)) by simp]
        exact h9 _
      rw [h10]
      simp
    · refine beq_true ?_
      rw [slice_to2, L_app, e, hss]
      rfl
  · refine go h5 h6 (by rw [e]; exact up_ne J _ (by simp)) ?_
    rw [loopE hf hA e hre (by rw [hlen, e]; simp only [List.length_cons, List.length_append, ups_len]; omega), newFs, if_neg h5, if_neg h6, pa_app, h2]
end
end Mine

-- MT
namespace Mine
theorem calmMT : True := by
  w_top off
  trivial
end Mine
namespace Mine
/-- where the law stands between two references -/
def Good (n : Nat) (op : Str) (fs : List Str) (nm base : Str) : Prop := (∃ sch r, OpOk op sch r) ∧ (∀ f ∈ fs, f ∈ FOLD) ∧ nm ∈ NAMES ∧ Bare op fs nm base ∧ fs.length ≤ 2 + 2 * n
theorem fold_ok {x : Str} (h : x ∈ FOLD) : cpOk x = true := all_ok (ys := FOLD) (by decide) h
theorem names_ok {x : Str} (h : x ∈ NAMES) : cpOk x = true := all_ok (ys := NAMES) (by decide) h
theorem frags_ok {x : Str} (h : x ∈ FRAGS) : cpOk x = true := all_ok (ys := FRAGS) (by decide) h
theorem textG_ok {fs : List Str} : ∀ {t : Str}, cpOk t = true → (∀ f ∈ fs, cpOk f = true) → cpOk (textG t fs) = true := by
  induction fs with
  | nil => intro t h _; exact h
  | cons f fs ih => intro t h hf; exact ih (cpOk_app h (cpOk_app (hf f (.head _)) (by decide))) fun x hx => hf x (.tail _ hx)
section
variable {n : Nat} {op : Str} {fs : List Str} {nm base : Str} (G : Good n op fs nm base)
include G
theorem good_ok : cpOk base = true := by
  obtain ⟨⟨sch, r, O⟩, hf, hn, B, _⟩ := G
  rcases B with rfl | ⟨rfl, _⟩
  · exact cpOk_app (textG_ok (cpOk_app O.ok (by decide)) fun f h => fold_ok (hf f h)) (names_ok hn)
  · exact O.ok
theorem good_no : 35 ∉ L base := by
  obtain ⟨⟨sch, r, O⟩, hf, hn, B, _⟩ := G
  have ho : 35 ∉ L op := by
    rw [O.eq]
    intro h
    rcases List.mem_append.mp h with h | h
    · exact O.noH1 h
    · rcases List.mem_cons.mp h with h | h
      · omega
      · exact O.noH2 h
  rcases B with rfl | ⟨rfl, _⟩
  · rw [L_textF]
    unfold pref
    intro h
    rcases List.mem_append.mp h with h | h
    · rcases List.mem_append.mp h with h | h
      · exact ho h
      · rcases List.mem_cons.mp h with h | h
        · omega
        · exact catL_no (.inl rfl) hf h
    · exact name_no (.inr (.inl rfl)) hn h
  · exact ho
theorem good_len : base.length ≤ 32 + 8 * n := by
  obtain ⟨⟨sch, r, O⟩, hf, hn, B, hl⟩ := G
  have h1 := base_len O hf hn B
  have h2 := sumLen_le (n := 3) fun f h => fold_len (hf f h)
  omega
theorem good_op : op.length ≤ 20 := G.1.elim fun _ h => h.elim fun _ O => O.len2
theorem good_sum : sumLen fs ≤ 8 + 8 * n := by
  have h2 := sumLen_le (n := 3) fun f h => fold_len (G.2.1 f h)
  have := G.2.2.2.2
  omega
theorem good_find : 0 ≤ Txt.find base (Str.ofString ":") := by
  obtain ⟨⟨sch, r, O⟩, hf, hn, B, _⟩ := G
  rw [base_find O hf hn B]
  omega
theorem good_slash : Txt.slice base (some (Txt.find base (Str.ofString ":") + 1)) (some (Txt.find base (Str.ofString ":") + 2)) = Str.ofString "/" := by
  obtain ⟨⟨sch, r, O⟩, hf, hn, B, _⟩ := G
  exact base_slash O hf hn B
end
theorem frag_way {fr : Str} (h : fr ∈ FRAGS) : fr = Str.ofString "" ∨ ∃ b, L fr = 35 :: b ∧ 35 ∉ b := by
  have : FRAGS.all (fun x => decide (x = Str.ofString "" ∨ (L x).take 1 = [35] ∧ 35 ∉ (L x).drop 1)) = true := by decide
  rcases of_decide_eq_true (List.all_eq_true.mp this fr h) with h1 | ⟨h1, h2⟩
  · exact .inl h1
  · refine .inr ⟨(L fr).drop 1, ?_, h2⟩
    have := List.take_append_drop 1 (L fr)
    rw [h1] at this
    exact this.symm
theorem frag_colon {fr : Str} (h : fr ∈ FRAGS) : 58 ∉ L fr := all_no (ys := FRAGS) (by decide) h
theorem frag_head {fr : Str} (h : fr ∈ FRAGS) : (L fr).take 1 ≠ [47] := by
  have : FRAGS.all (fun x => decide ((L x).take 1 ≠ [47])) = true := by decide
  exact of_decide_eq_true (List.all_eq_true.mp this fr h)
theorem app_nil (x : Str) : x ++ Str.ofString "" = x := by apply L_ext; rw [L_app, L_nil, List.append_nil]
theorem nil_app (x : Str) : Str.ofString "" ++ x = x := by apply L_ext; rw [L_app, L_nil]; rfl
theorem split_frag {x fr : Str} (hx : 35 ∉ L x) (h : fr ∈ FRAGS) : splitF (x ++ fr) = (x, fr) := by
  rcases frag_way h with rfl | ⟨b, hb, hn⟩
  · rw [app_nil]; exact splitF_miss hx
  · exact splitF_hit hb hn
theorem split_hash {x : Str} (hx : 35 ∉ L x) : splitF (x ++ Str.ofString "#") = (x, Str.ofString "#") := splitF_hit (b := []) (by decide) (by simp)
def JoinGives (here there res : Str) : Prop := here.length ≤ 16384 ∧ there.length ≤ 16384 ∧ ∃ pth frg, splitF there = (pth, frg) ∧ pth.length ≤ 16384 ∧ frg.length ≤ 16384 ∧ Txt.find there (Str.ofString ":") = -1 ∧ 0 ≤ Txt.find here (Str.ofString ":") ∧
  Txt.slice here (some (Txt.find here (Str.ofString ":") + 1)) (some (Txt.find here (Str.ofString ":") + 2)) = Str.ofString "/" ∧ joinF here there pth frg = res
theorem join2 (w : World) (here there res : Str) (t1 t2 : Tok) (h : JoinGives here there res) : Claim w 2 29 [.str here t1, .str there t2] (fun _ => True) (RetStr res) := by
  obtain ⟨h1, h2, pth, frg, h3, h4, h5, h6, h7, h8, rfl⟩ := h
  exact join1 w here there t1 t2 h1 h2 h3 h4 h5 h6 h7 h8
theorem find_none {x : Str} (h : 58 ∉ L x) : Txt.find x (Str.ofString ":") = -1 := by rw [colon_is]; exact find_miss h
section
variable {n : Nat} {op : Str} {fs : List Str} {nm base : Str} (G : Good n op fs nm base) (hn : n ≤ 8)
include G hn
theorem gives_frag {fr : Str} (h : fr ∈ FRAGS) : JoinGives base fr (base ++ fr) := by
  have hl := good_len G
  have hfl := frags_len h
  have hs := split_frag (x := Str.ofString "") (by rw [L_nil]; simp) h
  rw [nil_app] at hs
  refine ⟨by omega, by omega, Str.ofString "", fr, hs, by decide, by omega, find_none (frag_colon h), good_find G, good_slash G, joinE0 (by decide)⟩
theorem gives_nil : JoinGives base (Str.ofString "") base := by
  have h := gives_frag G hn (fr := Str.ofString "") (.head _)
  rw [app_nil] at h
  exact h
theorem gives_empty {pa fr : Str} (hp : pa.length = 0) (h : fr ∈ FRAGS) : JoinGives base (pa ++ fr) (base ++ fr) := by
  have e : pa = Str.ofString "" := by
    apply L_ext
    rw [L_nil]
    rw [L_len] at hp
    exact List.eq_nil_of_length_eq_zero hp
  rw [e, nil_app]
  exact gives_frag G hn h
theorem gives_path {kd up : Int} {down : List Str} {named pa fr : Str} (R : RawRef kd up down named fr pa) (hpl : pa.length ≤ 4096) (hp : pa.length ≠ 0) : JoinGives base (pa ++ fr) (textF (newOp kd op) (newFs kd up fs down) named ++ fr) := by
  have hl := good_len G
  have hg1 := good_find G
  have hg2 := good_slash G
  obtain ⟨⟨sch, r, O⟩, hf, hnm, B, _⟩ := G
  obtain ⟨hd, hm, hfr, j, j0, j4, W⟩ := R
  have W' := wayL_of j0 j4 W
  have hfl := frags_len hfr
  have h35 := way_no (.inl rfl) hd.2 hm W'
  have h58 := way_no (.inr rfl) hd.2 hm W'
  refine ⟨by omega, by rw [Str.length_append]; omega, pa, fr, split_frag h35 hfr, by omega, by omega, find_none ?_, hg1, hg2, join_res O hf hnm B hd.2 hm W' hp (frag_head hfr)⟩
  rw [L_app]
  intro h
  rcases List.mem_append.mp h with h | h
  · exact h58 h
  · exact frag_colon hfr h
end
theorem newOp_ok {op : Str} {sch r : List Nat} (O : OpOk op sch r) (kd : Int) : ∃ sch' r', OpOk (newOp kd op) sch' r' := by
  by_cases h : kd = 6
  · have hf : Txt.find op (Str.ofString ":") = (sch.length : Int) := by rw [colon_is]; exact find_hit O.eq O.noC
    have he : L (newOp kd op) = sch ++ 58 :: [47, 47, 111, 46, 116, 104] := by
      rw [newOp, if_pos h, hf, L_app, show ((sch.length : Int) + 1) = ((sch.length + 1 : Nat) : Int) by omega, slice_to, O.eq, show L (Str.ofString "//o.th") = [47, 47, 111, 46, 116, 104] by decide]
      rw [List.take_append, List.take_of_length_le (by omega)]
      simp
    refine ⟨sch, [47, 47, 111, 46, 116, 104], he, O.noC, O.noH1, by decide, ?_, O.len1, ?_, .inr ⟨[111, 46, 116, 104], rfl, by decide⟩⟩
    · have ho := O.ok
      unfold cpOk at ho ⊢
      rw [he]
      rw [O.eq, List.all_append] at ho
      rw [List.all_append, (Bool.and_eq_true_iff.mp ho).1]
      decide
    · rw [L_len, he, List.length_append]
      have := O.len1
      simp only [List.length_cons, List.length_nil]
      omega
  · rw [newOp, if_neg h]
    exact ⟨sch, r, O⟩
theorem good_turn {n : Nat} {op : Str} {fs : List Str} {nm base : Str} (G : Good n op fs nm base) {kd up : Int} {down : List Str} {named pa fr : Str} (R : RawRef kd up down named fr pa) :
    Good (n + 1) (newOp kd op) (newFs kd up fs down) named (textF (newOp kd op) (newFs kd up fs down) named) := by
  obtain ⟨⟨sch, r, O⟩, hf, hnm, B, hl⟩ := G
  obtain ⟨hd, hm, _⟩ := R
  refine ⟨newOp_ok O kd, ?_, hm, .inl rfl, ?_⟩
  · intro f hf'
    unfold newFs at hf'
    split at hf'
    · exact hd.2 f hf'
    · split at hf'
      · exact hd.2 f hf'
      · rcases List.mem_append.mp hf' with h | h
        · exact hf f (List.mem_of_mem_take h)
        · exact hd.2 f h
  · have := hd.1
    unfold newFs
    split
    · omega
    · split
      · omega
      · rw [List.length_append, List.length_take]; omega
theorem good_more {n : Nat} {op : Str} {fs : List Str} {nm base : Str} (G : Good n op fs nm base) : Good (n + 1) op fs nm base := by
  obtain ⟨a, b, c, d, e⟩ := G
  exact ⟨a, b, c, d, by omega⟩
/-- the openings of the law -/
theorem open_ok {op : Str} (h : op ∈ OPENS) : ∃ sch r, OpOk op sch r := by
  have hh : OPENS.all (fun x => decide (∃ k ∈ List.range 9, (L x)[k]? = some 58 ∧ 58 ∉ (L x).take k ∧ 35 ∉ L x ∧ cpOk x = true ∧ x.length ≤ 20 ∧ ((L x).drop (k + 1) = [] ∨ ((L x).drop (k + 1)).take 2 = [47, 47] ∧ 47 ∉ (L x).drop (k + 3)))) = true := by decide
  obtain ⟨k, hk, h1, h2, h3, h4, h5, h6⟩ := of_decide_eq_true (List.all_eq_true.mp hh op h)
  have hk9 := List.mem_range.mp hk
  have hlt : k < (L op).length := (List.getElem?_eq_some_iff.mp h1).1
  have e : L op = (L op).take k ++ 58 :: (L op).drop (k + 1) := by
    have e1 := List.take_append_drop k (L op)
    rw [List.drop_eq_getElem_cons hlt] at e1
    have e2 : (L op)[k] = 58 := by
      have := List.getElem?_eq_getElem hlt
      rw [h1] at this
      exact (Option.some.inj this).symm
    rw [e2] at e1
    exact e1.symm
  refine ⟨(L op).take k, (L op).drop (k + 1), e, h2, fun h => h3 (List.mem_of_mem_take h), fun h => h3 (List.mem_of_mem_drop h), h4, by rw [List.length_take]; omega, h5, ?_⟩
  rcases h6 with h6 | ⟨h6, h7⟩
  · exact .inl h6
  · refine .inr ⟨(L op).drop (k + 3), ?_, h7⟩
    have := List.take_append_drop 2 ((L op).drop (k + 1))
    rw [h6, List.drop_drop] at this
    exact this.symm
end Mine

-- MU
namespace Mine
theorem calmMU : True := by
  w_top off
  trivial
end Mine
namespace Mine
/-- the list of numbers stands: in the heap as it was met, or in the ledger -/
def NumsIn (rest : Led) (g : Heap) (ln : Addr) (n : Nat) : Prop := ∃ (l : List Value) (ns : List Int), ns.length = n ∧ IntsAre l ns ∧ ∀ L' h' m' nw, Fr g L' h' m' → News g L' h' nw → (∀ p ∈ rest, p ∈ nw) → h'.IsList ln l.toArray
theorem NumsIn.more {rest own : Led} {g : Heap} {ln : Addr} {n : Nat} (H : NumsIn rest g ln n) : NumsIn (rest ++ own) g ln n := by
  obtain ⟨l, ns, h1, h2, h3⟩ := H
  exact ⟨l, ns, h1, h2, fun L' h' m' nw F N hp => h3 L' h' m' nw F N fun p hq => hp p (List.mem_append.mpr (.inl hq))⟩
section
variable {prog : Program} {w : World} {A : Around} {E : Value → Shared → Prop} {s : Shared} {value slice : Expr} {g : Heap} {L ln : Addr} {m : Str → Option Value} {rest nw : Led} {n : Nat} {k : Int} {u : Tok} {Q : Value → Shared → Prop}
theorem item_num (H : NumsIn rest g ln n) (F : Fr g L s.heap m) (N : News g L s.heap nw) (hp : ∀ p ∈ rest, p ∈ nw) (h0 : 0 ≤ k) (hk : k < n) (h63 : n ≤ 63) (h : ∀ x t', Q (.int x t') s)
    (hs : subscripted slice false (.ref ln) (.int k u) = operate [.ref ln, .int k u] (getItem (.ref ln) (.int k u)) := by with_unfolding_all rfl) (hg : ∀ r, letTemporaryGo value (.ref ln) r = pure () := by intro _; with_unfolding_all rfl) :
    wpAny (model prog w) A (subscriptTail value slice (.ref ln) (.int k u)) Q E s := by
  obtain ⟨l, ns, h1, h2, h3⟩ := H
  have hl := h3 _ _ _ _ F N hp
  have hlt : k.toNat < l.length := by rw [h2.length]; omega
  obtain ⟨x, t, hx, _⟩ := h2.at _ _ (List.getElem?_eq_getElem hlt)
  exact item_listL hl h0 (by omega) ((List.getElem?_eq_getElem hlt).trans (congrArg some hx)) (h x t) hs hg
theorem item_last (H : NumsIn rest g ln n) (F : Fr g L s.heap m) (N : News g L s.heap nw) (hp : ∀ p ∈ rest, p ∈ nw) (h1n : 1 ≤ n) (h63 : n ≤ 63) (h : ∀ x t', Q (.int x t') s)
    (hs : subscripted slice false (.ref ln) (.int (-1) u) = operate [.ref ln, .int (-1) u] (getItem (.ref ln) (.int (-1) u)) := by with_unfolding_all rfl) :
    wpAny (model prog w) A (subscriptTail value slice (.ref ln) (.int (-1) u)) Q E s := by
  obtain ⟨l, ns, h1, h2, h3⟩ := H
  have hl := h3 _ _ _ _ F N hp
  have hlen : l.length = n := by rw [h2.length, h1]
  have hlt : n - 1 < l.length := by omega
  obtain ⟨x, t, hx, _⟩ := h2.at _ _ (List.getElem?_eq_getElem hlt)
  exact kde_neg (j := n - 1) hl (by decide) (by decide) (by rw [seqIndex_neg (by decide) (by omega)]; congr 1; omega) ((List.getElem?_eq_getElem hlt).trans (congrArg some hx)) (h x t) hs
end
theorem add_strs {prog : Program} {w : World} {A : Around} {E : Value → Shared → Prop} {s : Shared} {h₀ : Heap} {L a b : Addr} {m : Str → Option Value} {news : Led} {vs ws : List Value} {na nb : Nat} {Q : Value → Shared → Prop}
    (F : Fr h₀ L s.heap m) (N : News h₀ L s.heap news) (ha : (a, listOf vs.toArray na) ∈ news) (hb : (b, listOf ws.toArray nb) ∈ news) (hz : vs.length + ws.length ≤ 1000)
    (h : ∀ D h', Fr h₀ L h' m → News h₀ L h' ((D, listOf (vs ++ ws).toArray 0) :: news) → (∀ p ∈ news, p.1 < D) → Q (.ref D) { s with heap := h' }) :
    wpAny (model prog w) A (binaryOp .Add (.ref a) (.ref b)) Q E s :=
  add_lists F N (N.isList ha) (N.isList hb) (fun h' F' N' => h _ h' F' N' fun p hp => Heap.lt_size (N p hp).1) (by rw [PySem.sizeLine_eq]; omega)
theorem way_len {kd up : Int} {down : List Str} {nm fr pa : Str} (R : RawRef kd up down nm fr pa) : pa.length ≤ 60 ∧ nm.length ≤ 3 ∧ fr.length ≤ 5 ∧ 0 ≤ up ∧ up ≤ 4 ∧ down.length ≤ 2 ∧ sumLen down ≤ 8 := by
  obtain ⟨hd, hm, hf, j, j0, j4, W⟩ := R
  have h1 := names_len hm
  have h2 := frags_len hf
  have h3 := down_len hd
  have h4 := hd.1
  have hmul : (Txt.mul (Str.ofString "../") j).length ≤ 12 := by
    rcases (by omega : j = 0 ∨ j = 1 ∨ j = 2 ∨ j = 3) with rfl | rfl | rfl | rfl <;> decide
  have hr : (Txt.slice (textF (Str.ofString "") down nm) (some 1) none).length ≤ 20 := by
    have a := PyProof.Txt.length_slice_le (textF (Str.ofString "") down nm) (some 1) none
    rw [textF_len, show (Str.ofString "").length = 0 by decide] at a
    omega
  refine ⟨?_, h1, h2, ?_, ?_, h4, h3⟩
  · rcases W with ⟨_, _, _, _, rfl⟩ | ⟨_, _, rfl⟩ | ⟨_, _, rfl⟩ | ⟨_, _, _, _, rfl⟩ | ⟨_, _, _, _, rfl⟩ | ⟨_, _, rfl⟩ | ⟨_, _, rfl⟩ | ⟨_, _, _, _, _, _, _, _, rfl⟩ <;> simp only [Str.length_append, show (Str.ofString "").length = 0 by decide, show (Str.ofString "./").length = 2 by decide, show (Str.ofString "..").length = 2 by decide, show (Str.ofString ".").length = 1 by decide, show (Str.ofString "/").length = 1 by decide, show (Str.ofString "//o.th/").length = 7 by decide] <;> omega
  · rcases W with ⟨_, _, _, _, rfl⟩ | ⟨_, _, rfl⟩ | ⟨_, _, rfl⟩ | ⟨_, _, _, _, rfl⟩ | ⟨_, _, _, _, rfl⟩ | ⟨_, _, rfl⟩ | ⟨_, _, rfl⟩ | ⟨_, _, _, _, _, _, _, _, rfl⟩ <;> omega
  · rcases W with ⟨_, _, _, _, rfl⟩ | ⟨_, _, rfl⟩ | ⟨_, _, rfl⟩ | ⟨_, _, _, _, rfl⟩ | ⟨_, _, _, _, rfl⟩ | ⟨_, _, rfl⟩ | ⟨_, _, rfl⟩ | ⟨_, _, _, _, _, _, _, _, rfl⟩ <;> omega
/-- what one turn needs to know of the place it goes to -/
def Facts (base pa fr pl : Str) : Prop := JoinGives base (pa ++ fr) (pl ++ fr) ∧ JoinGives pl fr (pl ++ fr) ∧ JoinGives pl (Str.ofString "") pl ∧ splitF (pl ++ fr) = (pl, fr) ∧ cpOk pl = true ∧ cpOk fr = true ∧ pl.length ≤ 200
theorem facts_path {n : Nat} {op : Str} {fs : List Str} {nm base : Str} (G : Good n op fs nm base) (hn : n + 1 ≤ 8) {kd up : Int} {down : List Str} {named pa fr : Str} (R : RawRef kd up down named fr pa) (hp : pa.length ≠ 0) :
    Facts base pa fr (textF (newOp kd op) (newFs kd up fs down) named) := by
  have G2 := good_turn G R
  have hl := good_len G2
  exact ⟨gives_path G (by omega) R (by have := (way_len R).1; omega) hp, gives_frag G2 hn R.2.2.1, gives_nil G2 hn, split_frag (good_no G2) R.2.2.1, good_ok G2, frags_ok R.2.2.1, by omega⟩
theorem facts_empty {n : Nat} {op : Str} {fs : List Str} {nm base : Str} (G : Good n op fs nm base) (hn : n + 1 ≤ 8) {kd up : Int} {down : List Str} {named pa fr : Str} (R : RawRef kd up down named fr pa) (hp : pa.length = 0) :
    Facts base pa fr base := by
  have hl := good_len G
  exact ⟨gives_empty G (by omega) hp R.2.2.1, gives_frag G (by omega) R.2.2.1, gives_nil G (by omega), split_frag (good_no G) R.2.2.1, good_ok G, frags_ok R.2.2.1, by omega⟩
theorem str_nil {pa : Str} (h : pa.length = 0) : pa = Str.ofString "" := by
  apply L_ext
  rw [L_nil]
  rw [L_len] at h
  exact List.eq_nil_of_length_eq_zero h
theorem ne_len {pa : Str} (h : (pa != Str.ofString "") = true) : pa.length ≠ 0 := by
  intro h0
  rw [str_nil h0] at h
  simp at h
theorem eq_len {pa : Str} (h : (pa != Str.ofString "") = false) : pa.length = 0 := by
  have : pa = Str.ofString "" := by simpa using h
  rw [this]
  decide
section
variable {i : Nat} {op : Str} {fs : List Str} {nm base : Str} {kd up : Int} {down : List Str} {named pa fr : Str} {vs vsd : List Value}
def Next (i : Nat) (op base pa fr : Str) (fs' : List Str) (named : Str) (ws : List Value) : Prop := Facts base pa fr (textF op fs' named) ∧ Stop (Good (i + 1) op fs' named (textF op fs' named)) ∧ Stop (StrsAre ws fs') ∧ op.length + sumLen fs' + named.length ≤ 8192
theorem next_of {op' : Str} {fs' : List Str} {ws : List Value} (G : Stop (Good i op fs nm base)) (hi : i < 8) (R : Stop (RawRef kd up down named fr pa)) (hp : (pa != Str.ofString "") = true) (eo : newOp kd op = op') (ef : newFs kd up fs down = fs') (S : StrsAre ws fs') : Next i op' base pa fr fs' named ws := by
  have G2 := good_turn G R
  have F := facts_path G hi R (ne_len hp)
  rw [eo, ef] at G2 F
  have h1 := good_op G2
  have h2 := good_sum G2
  have h3 := names_len R.2.1
  exact ⟨F, G2, S, by omega⟩
theorem way5 (G : Stop (Good i op fs nm base)) (hi : i < 8) (R : Stop (RawRef kd up down named fr pa)) (hp : (pa != Str.ofString "") = true) (hk : kd = 5) (S9 : Stop (StrsAre vsd down)) : Next i op base pa fr down named ([] ++ vsd) :=
  next_of G hi R hp (if_neg (by omega)) (if_pos hk) S9
theorem way6 (G : Stop (Good i op fs nm base)) (hi : i < 8) (R : Stop (RawRef kd up down named fr pa)) (hp : (pa != Str.ofString "") = true) (hk : kd = 6) (S9 : Stop (StrsAre vsd down)) : Next i (Txt.slice op none (some (Txt.find op (Str.ofString ":") + 1)) ++ Str.ofString "//o.th") base pa fr down named ([] ++ vsd) :=
  next_of G hi R hp (if_pos hk) ((if_neg (by omega)).trans (if_pos hk)) S9
theorem pickY (n : Nat) (up : Int) : 0 ≤ if (n : Int) - up > 0 then (n : Int) - up else 0 := by split <;> omega
theorem wayU (G : Stop (Good i op fs nm base)) (hi : i < 8) (R : Stop (RawRef kd up down named fr pa)) (hp : (pa != Str.ofString "") = true) (h5 : kd ≠ 5) (h6 : kd ≠ 6) (S : Stop (StrsAre vs fs)) (S9 : Stop (StrsAre vsd down)) :
    Next i op base pa fr (fs.take (if (vs.length : Int) - up > 0 then (vs.length : Int) - up else 0).toNat ++ down) named (vs.take (if (vs.length : Int) - up > 0 then (vs.length : Int) - up else 0).toNat ++ vsd) := by
  refine next_of G hi R hp (if_neg h6) ?_ (StrsAre.append' (StrsAre.take' S _) S9)
  have h0 := (way_len R).2.2.2.1
  have hl := StrsAre.length S
  rw [newFs, if_neg h5, if_neg h6]
  have : (if (vs.length : Int) - up > 0 then (vs.length : Int) - up else 0).toNat = fs.length - up.toNat := by split <;> omega
  rw [this]
theorem ne_self {x : Str} (h : (x != x) = true) : False := by simp at h
end
theorem own_new {own cst : Led} {la D : Addr} {o o' : Obj} (hoff : OwnOff own (((la, o) :: cst).map (·.1))) (hl : ∀ p ∈ own, p.1 ≠ D) : OwnOff own (((D, o') :: cst).map (·.1)) := by
  intro p hp a ha
  rcases List.mem_cons.mp ha with rfl | h
  · exact hl p hp
  · exact hoff p hp a (.tail _ h)
theorem facts_next0 {i : Nat} {op : Str} {fs : List Str} {nm base : Str} (G : Stop (Good i op fs nm base)) (hi : i < 8) {kd up : Int} {down : List Str} {named pa fr : Str} (R : Stop (RawRef kd up down named fr pa)) (hp : (pa != Str.ofString "") = false) : Facts base pa fr base ∧ Stop (Good (i + 1) op fs nm base) :=
  ⟨facts_empty G hi R (eq_len hp), good_more G⟩
theorem own_ne {own rest cst news : Led} {D : Addr} (hr : rest = cst ++ own) (hl : ∀ p ∈ news, p.1 < D) (hs : ∀ p ∈ rest, p ∈ news) : ∀ p ∈ own, p.1 ≠ D :=
  fun p hp => Nat.ne_of_lt (hl p (hs p (by rw [hr]; exact List.mem_append.mpr (.inr hp))))
theorem len_led {prog : Program} {w : World} {A : Around} {E : Value → Shared → Prop} {s : Shared} {h₀ : Heap} {L a : Addr} {news : Led} {vs : List Value} {n : Nat} {Q : Value → Shared → Prop}
    (N : News h₀ L s.heap news) (hm : (a, listOf vs.toArray n) ∈ news) (hz : vs.length ≤ 1000) (h : ∀ t tk', Q (.int vs.length t) { s with toks := tk' }) : wpAny (model prog w) A (call (.builtin "len") [.ref a]) Q E s := by
  refine len_list (N.isList hm) (by rw [List.size_toArray]; omega) ?_
  have := h (s.toks + 1) (s.toks + 1 + 1)
  rw [List.size_toArray]
  exact this
theorem open_len {x : Str} (h : x ∈ OPENS) : x.length ≤ 20 := all_len (ys := OPENS) (by decide) h
theorem first_good {op nm : Str} {fs : List Str} (ho : op ∈ OPENS) (hd : DownOk fs) (hn : nm ∈ NAMES) : Good 0 op fs nm (textF op fs nm) := ⟨open_ok ho, hd.2, hn, .inl rfl, by have := hd.1; omega⟩
theorem first_bare {op : Str} (ho : op ∈ OPENS) (h : (occurrences op (Str.ofString "//") 0 op.length 1).isEmpty = false) : Good 0 op [] (Str.ofString "") op := by
  obtain ⟨sch, r, O⟩ := open_ok ho
  refine ⟨⟨sch, r, O⟩, (fun _ h => nomatch h), nameNil, .inr ⟨rfl, rfl, rfl, ?_⟩, Nat.zero_le _⟩
  rcases O.host with rfl | ⟨t, rfl, h47⟩
  · exfalso
    have hh : OPENS.all (fun x => decide ((occurrences x (Str.ofString "//") 0 x.length 1).isEmpty = true ∨ (L x).getLast? ≠ some 58)) = true := by decide +kernel
    rcases of_decide_eq_true (List.all_eq_true.mp hh op ho) with h1 | h1
    · rw [h1] at h; cases h
    · rw [O.eq] at h1
      simp at h1
  · exact ⟨sch, t, O, h47⟩
/-- what stands between two references: opening, name, base, folders, their values, a mark, their list, tokens -/
abbrev LawSt : Type := Str × Str × Str × List Str × List Value × Nat × Addr × Tok × Tok × Tok
end Mine

-- MW
namespace Mine
theorem calmMW : True := by
  w_top off
  trivial
end Mine
namespace Mine
local macro_rules | `(tactic| walk_at "MINE enter") => `(tactic| (refine wpAny_call ?_; k_dflt (refine' code_def ?k1 ?k2 ?k3 ?k4 ?k5 ?kA ?kF ?kK ?k6 ?k7 ?k8 ?k9 ?kB ?_ ?c2 ?c3 ?c4 ?c5; (case kA => exact rfl); (case kF => exact rfl); (case kK => assumption); (case k1 => k_asm); (case k2 => k_asm); (case k3 => k_asm); (case k4 => k_asm); (case k5 => k_asm); (case k6 => k_is); (case k7 => k_is); (case k8 => ktr_room); (case k9 => first | exact BindsTo.of_eq rfl | exact binds_K (by k_in) rfl (by k_is) rfl rfl rfl); (case c5 => decide); (case kB => exact locs rfl); (case c2 => exact rfl); (case c3 => exact rfl); (case c4 => exact rfl); k_whole; intro g' L' h' FG' F' N' B' X' T'; (try dsimp only); (try k_lift B'); (try k_fold))))
local macro_rules | `(tactic| walk_at "MINE use") => `(tactic| (
  (case k1 => first | k_asm | fail "use: the frames below"); (case k2 => first | k_asm | fail "use: the frame"); (case k3 => first | k_asm | fail "use: the written part"); (case k4 => first | k_asm | fail "use: the ledger"); (case k5 => first | k_asm | fail "use: the top");
  (case kK => first | exact rfl | assumption | fail "use: no def"); (case kd => first | ktr_room | fail "use: room"); (case ku => first | ktr_units | fail "use: units")))
local macro_rules | `(tactic| walk_at "MINE sameX") => `(tactic| (intro z hx h2 h3; simp only [List.forall_mem_cons, List.not_mem_nil, false_implies, implies_true, and_true, ne_eq] at h2; simp only [List.contains_cons, List.contains_nil, Bool.or_false, Bool.or_eq_false_iff, beq_eq_false_iff_ne, ne_eq] at h3; simp only [kstB, hx, h2, h3, List.contains_cons, List.contains_nil, Bool.or_false, Bool.or_eq_true, beq_iff_eq, or_self, Bool.false_eq_true, reduceIte]))
local macro_rules | `(tactic| walk_at "call ref") => `(tactic| refine Stop.out ?_)
local macro_rules | `(tactic| walk_at "binaryOp Add ref ref") => `(tactic| refine Stop.out ?_)
local macro_rules | `(tactic| walk_at "call ref") => `(tactic| (k_here; (with_reducible show wpAny _ _ (call (Value.ref 84) [Value.int _ _]) _ _ _); k_dflt (refine' Claim.use (ref1 _ _ _) ?k1 ?k2 ?k3 ?k4 ?k5 ?kK ?kd ?ku trivial ?_; walk_at "MINE use"; (intro kd9 up9 fs9 nm9 fr9 pa9 vs9 n9 ld9 a9 t91 t92 t93 t94 t95 h9 tk9 R9 S9 F9 N9); (have W9 := way_len R9); (obtain ⟨w91, w92, w93, w94, w95, w96, w97⟩ := W9); (replace R9 := Stop.fold R9); (replace S9 := Stop.fold S9); (try k_fold))))
local macro_rules | `(tactic| walk_at "call ref") => `(tactic| (k_here; (with_reducible show wpAny _ _ (call (Value.ref 29) [Value.str _ _, Value.str _ _]) _ _ _); k_dflt (refine' Claim.use (join2 _ _ _ _ _ _ ?kj) ?k1 ?k2 ?k3 ?k4 ?k5 ?kK ?kd ?ku trivial ?_; (case kj => with_reducible assumption); walk_at "MINE use"; (intro t9 h9 tk9 F9 N9); (try k_fold))))
local macro_rules | `(tactic| walk_at "call ref") => `(tactic| (k_here; (with_reducible show wpAny _ _ (call (Value.ref 65) [Value.str _ _, Value.ref _, Value.str _ _]) _ _ _); k_dflt (refine' Claim.use (text2 _ _ _ _ _ _ _ ?kl) ?k1 ?k2 ?k3 ?k4 ?k5 ?kK ?kd ?ku ?kp ?_; walk_at "MINE use"; (case kp => first | exact ⟨_, _, List.Mem.head _, by first | with_reducible assumption | (refine Stop.out ?_; with_reducible assumption)⟩ | exact ⟨_, _, List.Mem.tail _ (List.Mem.head _), by first | with_reducible assumption | (refine Stop.out ?_; with_reducible assumption)⟩ | exact ⟨_, _, List.Mem.tail _ (List.Mem.tail _ (List.Mem.head _)), by first | with_reducible assumption | (refine Stop.out ?_; with_reducible assumption)⟩ | exact ⟨_, _, List.Mem.tail _ (List.Mem.tail _ (List.Mem.tail _ (List.Mem.head _))), by first | with_reducible assumption | (refine Stop.out ?_; with_reducible assumption)⟩); (case kl => (try (have eE : Str.length (Str.ofString "") = 0 := by decide)); omega); (intro t9 h9 tk9 eT9 F9 N9); (try k_fold))))
local macro_rules | `(tactic| walk_at "call builtin:len") => `(tactic| (k_here; (with_reducible show wpAny _ _ (call (Value.builtin "len") [Value.ref _]) _ _ _); k_dflt (refine' len_led ?zN ?zm ?zz ?_; (case zN => k_asm); (case zm => k_mem); (case zz => omega)); (intro t9 tk9)))
local macro_rules | `(tactic| walk_at "call ref") => `(tactic| (k_here; (with_reducible show wpAny _ _ (call (Value.ref 22) [Value.str _ _]) _ _ _); k_dflt (refine' Claim.use (split1e _ _ _ _ _ ?kl ?ke) ?k1 ?k2 ?k3 ?k4 ?k5 ?kK ?kd ?ku trivial ?_; (case kl => first | assumption | omega); (case ke => first | assumption | fail "use: what splitFragP gives"); walk_at "MINE use"; (intro a9 t9 u9 h9 tk9 F9 N9 l9); (try k_fold))))
local macro_rules | `(tactic| walk_at "exec For Name Call cons nil") => `(tactic| (k_here; (rename Fr _ _ _ _ => lF'); (with_unfolding_all refine' For_invVF lF' ?k1 ?k2 ?_; (case k1 => exact rfl); (case k2 => exact rfl); k_whole)))
local macro_rules | `(tactic| walk_at "call type:range") => `(tactic| (k_here; (rename Fr _ _ _ _ => F'); (rename News _ _ _ _ => N'); first
  | (k_dflt refine range1_rows F' N' ?_; intro h' tk' t1 u1 v1 R' F' N' K'; (try k_sweep))
  | (k_dflt refine range3_rows F' N' (by decide) ?_; intro h' tk' t1 u1 v1 R' F' N' K'; (try k_sweep))))
local macro_rules | `(tactic| walk_at "pyIter ref") => `(tactic| refine Stop.out ?_)
local macro_rules | `(tactic| walk_at "InvEndG") => `(tactic| refine Stop.out ?_)
local macro_rules | `(tactic| walk_at "MINE memL") => `(tactic| first | exact List.mem_append.mpr (.inl (by assumption)) | (refine List.Mem.tail _ ?_; walk_at "MINE memL"))
local macro_rules | `(tactic| walk_at "MINE memR") => `(tactic| first | exact List.mem_append.mpr (.inr (by assumption)) | (refine List.Mem.tail _ ?_; walk_at "MINE memR"))
local macro_rules | `(tactic| walk_at "MINE memT") => `(tactic| first | assumption | (refine List.Mem.tail _ ?_; walk_at "MINE memT"))
local macro_rules | `(tactic| walk_at "MINE memH") => `(tactic| first | exact List.Mem.head _ | (refine List.Mem.tail _ ?_; walk_at "MINE memH"))
local macro_rules | `(tactic| walk_at "MINE sub") => `(tactic| (intro p hp; first | walk_at "MINE memT" | ((rw [List.mem_singleton.mp hp]); k_mem) | exact absurd hp List.not_mem_nil))
local macro_rules | `(tactic| walk_at "subscriptTail Name BinOp ref int") => `(tactic| (k_here; k_dflt (refine' item_num (by with_reducible assumption) (by k_asm) (by k_asm) ?zs (Int.fmod_nonneg_of_pos _ (by omega)) (Int.fmod_lt_of_pos _ (by omega)) (by omega) ?_ ?h1 ?h2; (case zs => walk_at "MINE sub"); (case h1 => with_unfolding_all rfl); (case h2 => intro _; with_unfolding_all rfl); intro n9 t9)))
local macro_rules | `(tactic| walk_at "newTuple") => `(tactic| (k_here; k_dflt (refine' kup_newTuple ?F ?N ?_ ?z; (case F => k_asm); (case N => k_asm); (case z => kmk_size)); intro D' h' F' N' l1; (try k_sweep)))
local macro_rules | `(tactic| walk_at "MINE tup") => `(tactic| exact reads_tuple_at (News.get (by k_asm) (by k_mem)) rfl rfl (ReadsAll.cons (Reads.str _ _) (ReadsAll.cons (Reads.str _ _) ReadsAll.nil)))
local macro_rules | `(tactic| walk_at "compareOp NotEq ref ref") => `(tactic| (k_here; k_dflt (refine' ne_dataH ?r1 ?r2 ?r3 ?r4 ?r5 ?_; (case r1 => walk_at "MINE tup"); (case r2 => walk_at "MINE tup"); (case r3 => exact shaped_pair (by assumption) (by assumption)); (case r4 => exact shaped_pair (by assumption) (by assumption)); (case r5 => ktr_units)); (try simp only [PyData.eqv, PyData.eqvAll, beq_self_eq_true, Bool.and_true, Bool.true_and, Bool.and_false, Bool.false_and, Bool.not_true, Bool.not_false, decide_true, decide_false])))
local macro_rules | `(tactic| walk_at "compareOp Eq ref ref") => `(tactic| (k_here; k_dflt (refine' eq_dataH ?r1 ?r2 ?r3 ?r4 ?r5 ?_; (case r1 => walk_at "MINE tup"); (case r2 => walk_at "MINE tup"); (case r3 => exact shaped_pair (by assumption) (by assumption)); (case r4 => exact shaped_pair (by assumption) (by assumption)); (case r5 => ktr_units)); (try simp only [PyData.eqv, PyData.eqvAll, beq_self_eq_true, Bool.and_true, Bool.true_and, Bool.and_false, Bool.false_and, Bool.not_true, Bool.not_false, decide_true, decide_false])))
theorem law_loop {w : World} {L fa : Addr} {cdv : Value} {g : Heap} {p : Program} {loose : List Str} {mean : ExcName → Option Value} {mg mb : Str → Option Value} {m₀ : Str → Option Value} {cst : Led} {s : Shared} {Q : Flow → Shared → Prop} {E : Value → Shared → Prop}
  (X : (hd.heap_39 w.params).In g) (B : Below callerA g [] g) (T : Top p loose mean mg mb g) (F : Fr g L s.heap m₀) {la ln : Addr} {vs : List Value} {n0 : Nat} (N : News g L s.heap ((la, listOf vs.toArray n0) :: cst))
  {op nm base : Str} {fs : List Str} {t1 t3 t4 t5 : Tok} {cnt : Nat} (hS : StrsAre vs fs) (G : Good 0 op fs nm base) (hN : NumsIn cst g ln cnt) (c1 : 1 ≤ cnt) (c2 : cnt ≤ 63)
  (h1 : m₀ (Str.ofString "opening") = some (.str op t1)) (h2 : m₀ (Str.ofString "folders") = some (.ref la)) (h3 : m₀ (Str.ofString "name") = some (.str nm t3)) (h4 : m₀ (Str.ofString "base") = some (.str base t4)) (h5 : m₀ (Str.ofString "numbers") = some (.ref ln)) (h6 : m₀ (Str.ofString "count") = some (.int cnt t5))
  (done : ∀ (c : LawSt) (u : Str → Option Value) h' tk', Good 8 c.1 c.2.2.2.1 c.2.1 c.2.2.1 →
     Fr g L h' (fun y => if y = Str.ofString "turn" then u y else kstB (fun z => if [Str.ofString "kind", Str.ofString "ups", Str.ofString "down", Str.ofString "named", Str.ofString "fragment", Str.ofString "path", Str.ofString "place", Str.ofString "told"].contains z then u z else m₀ z) [(Str.ofString "opening", Value.str c.1 c.2.2.2.2.2.2.2.1), (Str.ofString "folders", Value.ref c.2.2.2.2.2.2.1), (Str.ofString "name", Value.str c.2.1 c.2.2.2.2.2.2.2.2.1), (Str.ofString "base", Value.str c.2.2.1 c.2.2.2.2.2.2.2.2.2), (Str.ofString "numbers", Value.ref ln), (Str.ofString "count", Value.int cnt t5)] y) →
     News g L h' ((c.2.2.2.2.2.2.1, listOf c.2.2.2.2.1.toArray c.2.2.2.2.2.1) :: cst) → Q .next { s with heap := h', toks := tk' })
  (hE : PassesOwn (model PySem.Challenge.rw_ew5019_01.row.prog w) (callerA.deeper (envOf (Str.ofString "law") (scopeAt 13) L fa cdv)) (envOf (Str.ofString "law") (scopeAt 13) L fa cdv) E) :
  wpAny (model PySem.Challenge.rw_ew5019_01.row.prog w) (callerA.deeper (envOf (Str.ofString "law") (scopeAt 13) L fa cdv)) (exec (stmtAt 13 9) (envOf (Str.ofString "law") (scopeAt 13) L fa cdv)) Q E s := by
  revert X
  k_fill
  intro X
  with_unfolding_all change wpAny _ _ (exec (Stmt.For (Expr.Name _ _) _ _ _ _) _) _ _ _
  refine For_invVF (hE := hE) F rfl rfl ?_
  k_fold
  k_steps
  unfold Stop
  (rename Fr _ _ _ _ => lF; rename News _ _ _ _ => lN; rename IsRange _ _ _ _ _ _ _ _ => lR)
  refine' loopR (σ := LawSt) (n := 8) (fun c => (c.2.2.2.2.2.2.1, listOf c.2.2.2.2.1.toArray c.2.2.2.2.2.1) :: cst) (fun c => [(Str.ofString "opening", Value.str c.1 c.2.2.2.2.2.2.2.1), (Str.ofString "folders", Value.ref c.2.2.2.2.2.2.1), (Str.ofString "name", Value.str c.2.1 c.2.2.2.2.2.2.2.2.1), (Str.ofString "base", Value.str c.2.2.1 c.2.2.2.2.2.2.2.2.2), (Str.ofString "numbers", Value.ref ln), (Str.ofString "count", Value.int cnt t5)]) [Str.ofString "kind", Str.ofString "ups", Str.ofString "down", Str.ofString "named", Str.ofString "fragment", Str.ofString "path", Str.ofString "place", Str.ofString "told"] (fun i c => Good i c.1 c.2.2.2.1 c.2.1 c.2.2.1 ∧ StrsAre c.2.2.2.2.1 c.2.2.2.1) ⟨op, nm, base, fs, vs, n0, la, t1, t3, t4⟩ ?zL ?zh lR ?zs ?zn lF lN ?zk ?zp ?zt ?zd
  case zL => exact rfl
  case zh => exact rfl
  case zs => exact small_one (by decide) (by decide) (by omega) (by omega)
  case zn => decide
  case zk => exact List.forall_mem_cons.mpr ⟨h1, List.forall_mem_cons.mpr ⟨h2, List.forall_mem_cons.mpr ⟨h3, List.forall_mem_cons.mpr ⟨h4, List.forall_mem_cons.mpr ⟨h5, List.forall_mem_cons.mpr ⟨h6, List.forall_mem_nil _⟩⟩⟩⟩⟩⟩
  case zp => exact ⟨G, hS⟩
  case zd => exact fun c u h' tk' hP F' N' => done c u h' tk' hP.1 F' N'
  case zt =>
    clear lF lN lR hS G h1 h2 h3 h4 h5 h6 done
    rintro i t ⟨op, nm, base, fs, vs, n, la, t1, t3, t4⟩ u hz tkz own hi hoff ⟨G, S⟩ F1 N1
    dsimp only at hoff G S F1 N1
    have b1 := good_op G
    have b2 := good_sum G
    have b3 := names_len G.2.2.1
    have b4 := good_len G
    have b5 : Str.length (Str.ofString "//o.th") = 6 := by decide
    have b6 : vs.length = fs.length := S.length
    have b7 := G.2.2.2.2
    have eF : ((0 : Int) + (i : Int) * 1) = (i : Int) := by omega
    rw [eF] at F1
    obtain ⟨rest, hrest⟩ : ∃ r, r = cst ++ own := ⟨_, rfl⟩
    have N2 : News _ _ hz ((la, listOf vs.toArray n) :: (cst ++ own)) := N1
    clear N1
    have hNr : NumsIn (cst ++ own) g ln cnt := hN.more
    rw [← hrest] at N2 hNr
    have hls : vs.toArray.size ≤ PySem.sizeLine := by rw [List.size_toArray, b6, PySem.sizeLine_eq]; omega
    replace G := Stop.fold G
    replace S := Stop.fold S
    (try k_fold)
    k_steps
    · unfold Stop
      (rename Fr _ _ _ _ => lF; rename News _ _ _ _ => lN; rename Stop (RawRef _ _ _ _ _ _) => zR; rename Stop (StrsAre _ _) => zS)
      have W := way5 G hi zR (by with_reducible assumption) (by with_reducible assumption) zS
      refine add_strs (vs := []) lF lN (List.Mem.head _) (by k_mem) ?zz ?_
      case zz => have := S.length; have := zS.length; rw [List.length_nil]; omega
      obtain ⟨⟨j1, j2, j3, j4, j5, j6, j7⟩, W2, W3, W4⟩ := W
      intro D h' F' N' l1
      clear lF lN
      have l2 := Stop.fold (own_ne (D := D) hrest l1 (by walk_at "MINE sub"))
      clear l1
      (try dsimp only)
      k_steps
      all_goals first
        | (exfalso; rename ((_ != _) = true) => e9; exact ne_self e9)
        | (unfold Stop
           (rename Fr _ _ _ _ => lF; rename News _ _ _ _ => lN)
           refine' lj_end ((_, _, _, _, _, 0, D, _, _, _) : LawSt) lF lN ?yn ?yo ?ya ?yk ?yr ⟨Stop.out W2, Stop.out W3⟩
           case ya => exact own_new hoff (Stop.out l2)
           case yk => kst_all
           case yr => walk_at "MINE sameX"
           case yo =>
             intro p hp
             have hq : p ∈ rest := by rw [hrest]; exact List.mem_append.mpr (.inr hp)
             clear hp
             walk_at "MINE memT"
           case yn =>
             intro p hp
             dsimp only at hp
             rcases List.mem_cons.mp hp with hp | hp
             · rw [hp]; walk_at "MINE memH"
             · have hq : p ∈ rest := by rw [hrest]; exact List.mem_append.mpr (.inl hp)
               clear hp
               walk_at "MINE memT")
    · unfold Stop
      (rename Fr _ _ _ _ => lF; rename News _ _ _ _ => lN; rename Stop (RawRef _ _ _ _ _ _) => zR; rename Stop (StrsAre _ _) => zS)
      have W := way6 G hi zR (by with_reducible assumption) (by with_reducible assumption) zS
      refine add_strs (vs := []) lF lN (List.Mem.head _) (by k_mem) ?zz ?_
      case zz => have := S.length; have := zS.length; rw [List.length_nil]; omega
      obtain ⟨⟨j1, j2, j3, j4, j5, j6, j7⟩, W2, W3, W4⟩ := W
      intro D h' F' N' l1
      clear lF lN
      have l2 := Stop.fold (own_ne (D := D) hrest l1 (by walk_at "MINE sub"))
      clear l1
      (try dsimp only)
      k_steps
      all_goals first
        | (exfalso; rename ((_ != _) = true) => e9; exact ne_self e9)
        | (unfold Stop
           (rename Fr _ _ _ _ => lF; rename News _ _ _ _ => lN)
           refine' lj_end ((_, _, _, _, _, 0, D, _, _, _) : LawSt) lF lN ?yn ?yo ?ya ?yk ?yr ⟨Stop.out W2, Stop.out W3⟩
           case ya => exact own_new hoff (Stop.out l2)
           case yk => kst_all
           case yr => walk_at "MINE sameX"
           case yo =>
             intro p hp
             have hq : p ∈ rest := by rw [hrest]; exact List.mem_append.mpr (.inr hp)
             clear hp
             walk_at "MINE memT"
           case yn =>
             intro p hp
             dsimp only at hp
             rcases List.mem_cons.mp hp with hp | hp
             · rw [hp]; walk_at "MINE memH"
             · have hq : p ∈ rest := by rw [hrest]; exact List.mem_append.mpr (.inl hp)
               clear hp
               walk_at "MINE memT")
    · unfold Stop
      (rename Fr _ _ _ _ => lF; rename News _ _ _ _ => lN; rename Stop (RawRef _ _ _ _ _ _) => zR; rename Stop (StrsAre _ _) => zS)
      have W := wayU G hi zR (by with_reducible assumption) (by with_reducible assumption) (by with_reducible assumption) S zS
      rw [pick_to _ _ (pickY _ _)] at lN
      refine add_strs (vs := vs.take _) lF lN (List.Mem.head _) (by k_mem) ?zz ?_
      case zz => have := S.length; have := zS.length; rw [List.length_take]; omega
      obtain ⟨⟨j1, j2, j3, j4, j5, j6, j7⟩, W2, W3, W4⟩ := W
      intro D h' F' N' l1
      clear lF lN
      have l2 := Stop.fold (own_ne (D := D) hrest l1 (by walk_at "MINE sub"))
      clear l1
      (try dsimp only)
      k_steps
      all_goals first
        | (exfalso; rename ((_ != _) = true) => e9; exact ne_self e9)
        | (unfold Stop
           (rename Fr _ _ _ _ => lF; rename News _ _ _ _ => lN)
           refine' lj_end ((_, _, _, _, _, 0, D, _, _, _) : LawSt) lF lN ?yn ?yo ?ya ?yk ?yr ⟨Stop.out W2, Stop.out W3⟩
           case ya => exact own_new hoff (Stop.out l2)
           case yk => kst_all
           case yr => walk_at "MINE sameX"
           case yo =>
             intro p hp
             have hq : p ∈ rest := by rw [hrest]; exact List.mem_append.mpr (.inr hp)
             clear hp
             walk_at "MINE memT"
           case yn =>
             intro p hp
             dsimp only at hp
             rcases List.mem_cons.mp hp with hp | hp
             · rw [hp]; walk_at "MINE memH"
             · have hq : p ∈ rest := by rw [hrest]; exact List.mem_append.mpr (.inl hp)
               clear hp
               walk_at "MINE memT")
    · unfold Stop
      (rename Stop (RawRef _ _ _ _ _ _) => zR)
      obtain ⟨⟨j1, j2, j3, j4, j5, j6, j7⟩, W2⟩ := facts_next0 G hi zR (by with_reducible assumption)
      k_steps
      all_goals first
        | (exfalso; rename ((_ != _) = true) => e9; exact ne_self e9)
        | (unfold Stop
           (rename Fr _ _ _ _ => lF; rename News _ _ _ _ => lN)
           refine' lj_end ((_, _, _, _, _, n, la, _, _, _) : LawSt) lF lN ?yn ?yo ?ya ?yk ?yr ⟨Stop.out W2, Stop.out S⟩
           case ya => exact hoff
           case yk => kst_all
           case yr => walk_at "MINE sameX"
           case yo =>
             intro p hp
             have hq : p ∈ rest := by rw [hrest]; exact List.mem_append.mpr (.inr hp)
             clear hp
             walk_at "MINE memT"
           case yn =>
             intro p hp
             dsimp only at hp
             rcases List.mem_cons.mp hp with hp | hp
             · rw [hp]; walk_at "MINE memH"
             · have hq : p ∈ rest := by rw [hrest]; exact List.mem_append.mpr (.inl hp)
               clear hp
               walk_at "MINE memT")

end Mine

-- MY
namespace Mine
theorem calmMY : True := by
  w_top off
  trivial
end Mine
namespace Mine
local macro_rules | `(tactic| walk_at "MINE enter") => `(tactic| (refine wpAny_call ?_; k_dflt (refine' code_def ?k1 ?k2 ?k3 ?k4 ?k5 ?kA ?kF ?kK ?k6 ?k7 ?k8 ?k9 ?kB ?_ ?c2 ?c3 ?c4 ?c5; (case kA => exact rfl); (case kF => exact rfl); (case kK => assumption); (case k1 => k_asm); (case k2 => k_asm); (case k3 => k_asm); (case k4 => k_asm); (case k5 => k_asm); (case k6 => k_is); (case k7 => k_is); (case k8 => ktr_room); (case k9 => first | exact BindsTo.of_eq rfl | exact binds_K (by k_in) rfl (by k_is) rfl rfl rfl); (case c5 => decide); (case kB => exact locs rfl); (case c2 => exact rfl); (case c3 => exact rfl); (case c4 => exact rfl); k_whole; intro g' L' h' FG' F' N' B' X' T'; (try dsimp only); (try k_lift B'); (try k_fold))))
local macro_rules | `(tactic| walk_at "MINE use") => `(tactic| (
  (case k1 => first | k_asm | fail "use: the frames below"); (case k2 => first | k_asm | fail "use: the frame"); (case k3 => first | k_asm | fail "use: the written part"); (case k4 => first | k_asm | fail "use: the ledger"); (case k5 => first | k_asm | fail "use: the top");
  (case kK => first | exact rfl | assumption | fail "use: no def"); (case kd => first | ktr_room | fail "use: room"); (case ku => first | ktr_units | fail "use: units")))
local macro_rules | `(tactic| walk_at "MINE sameX") => `(tactic| (intro z hx h2 h3; simp only [List.forall_mem_cons, List.not_mem_nil, false_implies, implies_true, and_true, ne_eq] at h2; simp only [List.contains_cons, List.contains_nil, Bool.or_false, Bool.or_eq_false_iff, beq_eq_false_iff_ne, ne_eq] at h3; simp only [kstB, hx, h2, h3, List.contains_cons, List.contains_nil, Bool.or_false, Bool.or_eq_true, beq_iff_eq, or_self, Bool.false_eq_true, reduceIte]))
local macro_rules | `(tactic| walk_at "call ref") => `(tactic| refine Stop.out ?_)
local macro_rules | `(tactic| walk_at "call ref") => `(tactic| (k_here; (with_reducible show wpAny _ _ (call (Value.ref 22) [Value.str _ _]) _ _ _); k_dflt (refine' Claim.use (split1e _ _ _ _ _ ?kl ?ke) ?k1 ?k2 ?k3 ?k4 ?k5 ?kK ?kd ?ku trivial ?_; (case kl => first | assumption | omega); (case ke => first | assumption | fail "use: what splitFragP gives"); walk_at "MINE use"; (intro a9 t9 u9 h9 tk9 F9 N9 l9); (try k_fold))))
local macro_rules | `(tactic| walk_at "newTuple") => `(tactic| (k_here; k_dflt (refine' kup_newTuple ?F ?N ?_ ?z; (case F => k_asm); (case N => k_asm); (case z => kmk_size)); intro D' h' F' N' l1; (try k_sweep)))
local macro_rules | `(tactic| walk_at "MINE tup") => `(tactic| exact reads_tuple_at (News.get (by k_asm) (by k_mem)) rfl rfl (ReadsAll.cons (Reads.str _ _) (ReadsAll.cons (Reads.str _ _) ReadsAll.nil)))
local macro_rules | `(tactic| walk_at "compareOp NotEq ref ref") => `(tactic| (k_here; k_dflt (refine' ne_dataH ?r1 ?r2 ?r3 ?r4 ?r5 ?_; (case r1 => walk_at "MINE tup"); (case r2 => walk_at "MINE tup"); (case r3 => exact shaped_pair (by assumption) (by assumption)); (case r4 => exact shaped_pair (by assumption) (by assumption)); (case r5 => ktr_units)); (try simp only [PyData.eqv, PyData.eqvAll, beq_self_eq_true, Bool.and_true, Bool.true_and, Bool.and_false, Bool.false_and, Bool.not_true, Bool.not_false, decide_true, decide_false])))
local macro_rules | `(tactic| walk_at "compareOp Eq ref ref") => `(tactic| (k_here; k_dflt (refine' eq_dataH ?r1 ?r2 ?r3 ?r4 ?r5 ?_; (case r1 => walk_at "MINE tup"); (case r2 => walk_at "MINE tup"); (case r3 => exact shaped_pair (by assumption) (by assumption)); (case r4 => exact shaped_pair (by assumption) (by assumption)); (case r5 => ktr_units)); (try simp only [PyData.eqv, PyData.eqvAll, beq_self_eq_true, Bool.and_true, Bool.true_and, Bool.and_false, Bool.false_and, Bool.not_true, Bool.not_false, decide_true, decide_false])))
local macro_rules | `(tactic| walk_at "call ref") => `(tactic| (k_here; (with_reducible show wpAny _ _ (call (Value.ref 77) [Value.int _ _, Value.int _ _]) _ _ _); k_dflt (refine' Claim.use (peel1 _ _ _ _ _) ?k1 ?k2 ?k3 ?k4 ?k5 ?kK ?kd ?ku trivial ?_; walk_at "MINE use"; (intro h9 tk9 F9 N9); (try k_fold))))
local macro_rules | `(tactic| walk_at "call ref") => `(tactic| (k_here; (with_reducible show wpAny _ _ (call (Value.ref 70) [Value.int _ _]) _ _ _); k_dflt (refine' Claim.use (down1 _ _ _) ?k1 ?k2 ?k3 ?k4 ?k5 ?kK ?kd ?ku trivial ?_; walk_at "MINE use"; (intro fs9 vs9 n9 a9 h9 tk9 D9 S9 F9 N9 l9); (have e9 := down_len D9); (try k_fold))))
local macro_rules | `(tactic| walk_at "call ref") => `(tactic| (k_here; (with_reducible show wpAny _ _ (call (Value.ref 65) [Value.str _ _, Value.ref _, Value.str _ _]) _ _ _); k_dflt (refine' Claim.use (text2 _ _ _ _ _ _ _ ?kl) ?k1 ?k2 ?k3 ?k4 ?k5 ?kK ?kd ?ku ?kp ?_; walk_at "MINE use"; (case kp => first | exact ⟨_, _, List.Mem.head _, by first | with_reducible assumption | (refine Stop.out ?_; with_reducible assumption)⟩ | exact ⟨_, _, List.Mem.tail _ (List.Mem.head _), by first | with_reducible assumption | (refine Stop.out ?_; with_reducible assumption)⟩ | exact ⟨_, _, List.Mem.tail _ (List.Mem.tail _ (List.Mem.head _)), by first | with_reducible assumption | (refine Stop.out ?_; with_reducible assumption)⟩ | exact ⟨_, _, List.Mem.tail _ (List.Mem.tail _ (List.Mem.tail _ (List.Mem.head _))), by first | with_reducible assumption | (refine Stop.out ?_; with_reducible assumption)⟩); (case kl => (try (have eE : Str.length (Str.ofString "") = 0 := by decide)); omega); (intro t9 h9 tk9 eT9 F9 N9); (try k_fold))))
local macro_rules | `(tactic| walk_at "call ref") => `(tactic| (k_here; (with_reducible show wpAny _ _ (call (Value.ref 36) _) _ _ _); k_dflt (refine' Claim.use (opens1 _) ?k1 ?k2 ?k3 ?k4 ?k5 ?kK ?kd ?ku trivial ?_; walk_at "MINE use"; (intro fs9 vs9 n9 a9 h9 tk9 e9 S9 F9 N9 l9); (try dsimp only at e9); (subst e9); (try k_fold))))
local macro_rules | `(tactic| walk_at "call ref") => `(tactic| (k_here; (with_reducible show wpAny _ _ (call (Value.ref 43) _) _ _ _); k_dflt (refine' Claim.use (names1 _) ?k1 ?k2 ?k3 ?k4 ?k5 ?kK ?kd ?ku trivial ?_; walk_at "MINE use"; (intro fs9 vs9 n9 a9 h9 tk9 e9 S9 F9 N9 l9); (try dsimp only at e9); (subst e9); (try k_fold))))
local macro_rules | `(tactic| walk_at "exec For Name Call cons nil") => `(tactic| refine Stop.out ?_)
local macro_rules | `(tactic| walk_at "MINE memL") => `(tactic| first | exact List.mem_append.mpr (.inl (by assumption)) | (refine List.Mem.tail _ ?_; walk_at "MINE memL"))
local macro_rules | `(tactic| walk_at "MINE memR") => `(tactic| first | exact List.mem_append.mpr (.inr (by assumption)) | (refine List.Mem.tail _ ?_; walk_at "MINE memR"))
local macro_rules | `(tactic| walk_at "MINE memT") => `(tactic| first | assumption | (refine List.Mem.tail _ ?_; walk_at "MINE memT"))
local macro_rules | `(tactic| walk_at "MINE memH") => `(tactic| first | exact List.Mem.head _ | (refine List.Mem.tail _ ?_; walk_at "MINE memH"))
local macro_rules | `(tactic| walk_at "MINE sub") => `(tactic| (intro p hp; first | walk_at "MINE memT" | ((rw [List.mem_singleton.mp hp]); k_mem) | exact absurd hp List.not_mem_nil))
local macro_rules | `(tactic| walk_at "subscriptTail Name Constant ref int") => `(tactic| (k_here; k_dflt (refine' item_num (by with_reducible assumption) (by k_asm) (by k_asm) ?zs (by decide) ?zk (by omega) ?_ ?h1 ?h2; (case zs => walk_at "MINE sub"); (case zk => omega); (case h1 => with_unfolding_all rfl); (case h2 => intro _; with_unfolding_all rfl); intro n9 t9)))
local macro_rules | `(tactic| walk_at "subscriptTail Name UnaryOp ref int") => `(tactic| (k_here; k_dflt (refine' item_last (by with_reducible assumption) (by k_asm) (by k_asm) ?zs (by omega) (by omega) ?_ ?h1; (case zs => walk_at "MINE sub"); (case h1 => with_unfolding_all rfl); intro n9 t9)))
local macro_rules | `(tactic| walk_at "MINE one more") => `(tactic| skip)
local macro_rules | `(tactic| walk_at "subscriptTail Name BinOp ref int") => `(tactic| (k_here; k_dflt (refine' item_any (ys := OPENS) (by k_asm) (by k_mem) (by assumption) (Int.fmod_nonneg_of_pos _ (by decide)) (Int.fmod_lt_of_pos _ (by decide)) (Int.lt_of_lt_of_le (Int.fmod_lt_of_pos _ (by decide)) (by decide)) ?_ ?h1 ?h2; (case h1 => with_unfolding_all rfl); (case h2 => intro _; with_unfolding_all rfl); intro x9 t9 m9; have e9 := open_len m9)))
local macro_rules | `(tactic| walk_at "subscriptTail Name BinOp ref int") => `(tactic| (k_here; k_dflt (refine' item_any (ys := NAMES) (by k_asm) (by k_mem) (by assumption) (Int.fmod_nonneg_of_pos _ (by decide)) (Int.fmod_lt_of_pos _ (by decide)) (Int.lt_of_lt_of_le (Int.fmod_lt_of_pos _ (by decide)) (by decide)) ?_ ?h1 ?h2; (case h1 => with_unfolding_all rfl); (case h2 => intro _; with_unfolding_all rfl); intro x9 t9 m9; have e9 := names_len m9)))
def restOf (k i : Nat) : List Stmt := (((defAt k).map (·.1)).getD []).drop i
theorem law_rest {w : World} {L fa : Addr} {cdv : Value} {g : Heap} {p : Program} {loose : List Str} {mean : ExcName → Option Value} {mg mb : Str → Option Value} {m₀ : Str → Option Value} {cst : Led} {s : Shared} {Q : Flow → Shared → Prop} {E : Value → Shared → Prop}
  (X : (hd.heap_39 w.params).In g) (B : Below callerA g [] g) (T : Top p loose mean mg mb g) (F : Fr g L s.heap m₀) {ln : Addr} (N : News g L s.heap cst) {t1 : Tok} {cnt : Nat}
  (hN : NumsIn cst g ln cnt) (c1 : 1 ≤ cnt) (c2 : cnt ≤ 63) (h5 : m₀ (Str.ofString "numbers") = some (.ref ln)) (h6 : m₀ (Str.ofString "count") = some (.int cnt t1))
  (done : ∀ m' nw h' tk', Fr g L h' m' → News g L h' nw → Q (.ret (.bool true)) { s with heap := h', toks := tk' })
  (hE : PassesOwn (model PySem.Challenge.rw_ew5019_01.row.prog w) (callerA.deeper (envOf (Str.ofString "law") (scopeAt 13) L fa cdv)) (envOf (Str.ofString "law") (scopeAt 13) L fa cdv) E) :
  wpAny (model PySem.Challenge.rw_ew5019_01.row.prog w) (callerA.deeper (envOf (Str.ofString "law") (scopeAt 13) L fa cdv)) (execs (restOf 13 2) (envOf (Str.ofString "law") (scopeAt 13) L fa cdv)) Q E s := by
  revert X
  k_fill
  intro X
  have F1 : Fr g L s.heap (kstB (fun z => if ([] : List Str).contains z then m₀ z else m₀ z) [(Str.ofString "numbers", Value.ref ln), (Str.ofString "count", Value.int cnt t1)]) := ksw_fr (List.forall_mem_cons.mpr ⟨h5, List.forall_mem_cons.mpr ⟨h6, List.forall_mem_nil _⟩⟩) (fun _ _ _ => rfl) F
  clear F h5 h6
  with_unfolding_all change wpAny _ _ (execs (Stmt.If _ _ _ _ :: _) _) _ _ _
  (try k_fold)
  k_steps
  · unfold Stop
    (rename Fr _ _ _ _ => lF; rename News _ _ _ _ => lN; rename _ ∈ OPENS => mO; rename _ ∈ NAMES => mN; rename DownOk _ => mD)
    have G0 := first_good mO mD mN
    k_dflt refine' law_loop (cst := cst) X B T lF ?kN ?kS G0 hN c1 c2 ?q1 ?q2 ?q3 ?q4 ?q5 ?q6 ?kD ?kE
    case q1 => with_unfolding_all rfl
    case q2 => with_unfolding_all rfl
    case q3 => with_unfolding_all rfl
    case q4 => with_unfolding_all rfl
    case q5 => with_unfolding_all rfl
    case q6 => with_unfolding_all rfl
    case kE => passes_own
    case kS => with_reducible assumption
    case kN =>
      refine cb_drop lN ?_
      intro p hp
      rcases List.mem_cons.mp hp with hp | hp
      · rw [hp]; walk_at "MINE memH"
      · walk_at "MINE memT"
    case kD =>
      clear lF lN G0 mO mN mD
      intro c u h' tk' G8 F9 N9
      have hsp := split_hash (good_no G8)
      have hok1 := good_ok G8
      have hok2 : cpOk (Str.ofString "#") = true := by decide
      have hl1 := good_len G8
      have hl2 : Str.length (Str.ofString "#") = 1 := by decide
      replace G8 := Stop.fold G8
      (try dsimp only)
      k_steps
      all_goals (try rw [beq_self_eq_true])
      all_goals (rename Fr _ _ _ _ => lF; rename News _ _ _ _ => lN)
      all_goals exact done _ _ _ _ lF lN
  · unfold Stop
    (rename Fr _ _ _ _ => lF; rename News _ _ _ _ => lN; rename _ ∈ OPENS => mO; rename _ ∈ NAMES => mN; rename DownOk _ => mD)
    have G0 := first_bare mO (by with_reducible assumption)
    k_dflt refine' law_loop (cst := cst) X B T lF ?kN ?kS G0 hN c1 c2 ?q1 ?q2 ?q3 ?q4 ?q5 ?q6 ?kD ?kE
    case q1 => with_unfolding_all rfl
    case q2 => with_unfolding_all rfl
    case q3 => with_unfolding_all rfl
    case q4 => with_unfolding_all rfl
    case q5 => with_unfolding_all rfl
    case q6 => with_unfolding_all rfl
    case kE => passes_own
    case kS => exact .nil
    case kN =>
      refine cb_drop lN ?_
      intro p hp
      rcases List.mem_cons.mp hp with hp | hp
      · rw [hp]; walk_at "MINE memH"
      · walk_at "MINE memT"
    case kD =>
      clear lF lN G0 mO mN mD
      intro c u h' tk' G8 F9 N9
      have hsp := split_hash (good_no G8)
      have hok1 := good_ok G8
      have hok2 : cpOk (Str.ofString "#") = true := by decide
      have hl1 := good_len G8
      have hl2 : Str.length (Str.ofString "#") = 1 := by decide
      replace G8 := Stop.fold G8
      (try dsimp only)
      k_steps
      all_goals (try rw [beq_self_eq_true])
      all_goals (rename Fr _ _ _ _ => lF; rename News _ _ _ _ => lN)
      all_goals exact done _ _ _ _ lF lN
  · unfold Stop
    (rename Fr _ _ _ _ => lF; rename News _ _ _ _ => lN; rename _ ∈ OPENS => mO; rename _ ∈ NAMES => mN; rename DownOk _ => mD)
    have G0 := first_good mO mD mN
    k_dflt refine' law_loop (cst := cst) X B T lF ?kN ?kS G0 hN c1 c2 ?q1 ?q2 ?q3 ?q4 ?q5 ?q6 ?kD ?kE
    case q1 => with_unfolding_all rfl
    case q2 => with_unfolding_all rfl
    case q3 => with_unfolding_all rfl
    case q4 => with_unfolding_all rfl
    case q5 => with_unfolding_all rfl
    case q6 => with_unfolding_all rfl
    case kE => passes_own
    case kS => with_reducible assumption
    case kN =>
      refine cb_drop lN ?_
      intro p hp
      rcases List.mem_cons.mp hp with hp | hp
      · rw [hp]; walk_at "MINE memH"
      · walk_at "MINE memT"
    case kD =>
      clear lF lN G0 mO mN mD
      intro c u h' tk' G8 F9 N9
      have hsp := split_hash (good_no G8)
      have hok1 := good_ok G8
      have hok2 : cpOk (Str.ofString "#") = true := by decide
      have hl1 := good_len G8
      have hl2 : Str.length (Str.ofString "#") = 1 := by decide
      replace G8 := Stop.fold G8
      (try dsimp only)
      k_steps
      all_goals (try rw [beq_self_eq_true])
      all_goals (rename Fr _ _ _ _ => lF; rename News _ _ _ _ => lN)
      all_goals exact done _ _ _ _ lF lN

end Mine

-- MZ
namespace Mine
theorem calmMZ : True := by
  w_top off
  trivial
end Mine
namespace Mine
theorem NumsIn.one {D : Addr} {n : Nat} {x : Int} {t : Tok} {g : Heap} : NumsIn [(D, listOf #[.int x t] n)] g D 1 :=
  ⟨[.int x t], [x], rfl, .cons _ _ .nil, fun _ _ _ _ _ N hp => News.isList N (hp _ (.head _))⟩
local macro_rules | `(tactic| walk_at "execs cons") => `(tactic| ((with_reducible show wpAny _ _ (execs (Stmt.If _ _ _ _ :: _) _) _ _ _); refine Stop.out ?_))
theorem all_in_one : PySem.Challenge.rw_ew5019_01.Holds := Mine.hd (by
  k_go0
  (rename IntsAre _ _ => hI; rename Heap.IsList _ _ _ => hL)
  have hNum : NumsIn [] _ _ _ := ⟨_, _, rfl, hI, fun _ _ _ _ F _ _ => F.lst hL⟩
  (try k_fold)
  k_steps
  all_goals (unfold Stop; (rename Fr _ _ _ _ => lF; rename News _ _ _ _ => lN; rename Below _ _ _ _ => lB; rename Top _ _ _ _ _ _ => lT; rename Frag.In _ _ => lX))
  · with_unfolding_all refine' law_rest lX lB lT lF lN hNum ?k1 ?k2 ?k3 ?k4 ?kD ?kE
    case k1 => omega
    case k2 => omega
    case k3 => with_unfolding_all rfl
    case k4 => with_unfolding_all rfl
    case kE => passes_own
    case kD =>
      clear lF lN
      intro m' nw h' tk' F9 N9
      (try dsimp only)
      wrow_close
  · with_unfolding_all refine' law_rest lX lB lT lF lN NumsIn.one ?k1 ?k2 ?k3 ?k4 ?kD ?kE
    case k1 => decide
    case k2 => decide
    case k3 => with_unfolding_all rfl
    case k4 => with_unfolding_all rfl
    case kE => passes_own
    case kD =>
      clear lF lN
      intro m' nw h' tk' F9 N9
      (try dsimp only)
      wrow_close)
end Mine

theorem PySem.Challenge.cw_ew5019_01_holds : PySem.Challenge.rw_ew5019_01.Holds := by
  exact Mine.all_in_one
