import PyProof.Rows.All
import Wide.All
import OpenK.AllK
import Wide.FinOn
import PySem.Challenge.RW_ge0006_01
open PySem PySem.W PyProof.Rows PySem.Calls
set_option Elab.async false
namespace Mine
set_option maxRecDepth 100000 in
set_option maxHeartbeats 8000000 in
open_top hd for PySem.Challenge.rw_ge0006_01
end Mine
/-! part PL1 -/
namespace Mine
/-- the binary search of bisect_right, by fuel -/
noncomputable def bs (xs : List Int) (x : Int) : Nat → Int → Int → Int
  | 0, lo, _ => lo
  | f + 1, lo, hi => if lo < hi then (if x < xs.getD (Int.fdiv (lo + hi) 2).toNat 0 then bs xs x f lo (Int.fdiv (lo + hi) 2) else bs xs x f (Int.fdiv (lo + hi) 2 + 1) hi) else lo
theorem bs_fuel (xs : List Int) (x : Int) : ∀ (f g : Nat) (lo hi : Int), hi - lo ≤ f → hi - lo ≤ g → bs xs x f lo hi = bs xs x g lo hi
  | 0, 0, _, _, _, _ => rfl
  | 0, g + 1, lo, hi, h, _ => by
    unfold bs
    rw [if_neg (by omega)]
  | f + 1, 0, lo, hi, _, h => by
    unfold bs
    rw [if_neg (by omega)]
  | f + 1, g + 1, lo, hi, hf, hg => by
    unfold bs
    by_cases h : lo < hi
    · rw [if_pos h, if_pos h]
      have e : Int.fdiv (lo + hi) 2 = (lo + hi) / 2 := Int.fdiv_eq_ediv_of_nonneg _ (by decide)
      rw [bs_fuel xs x f g lo _ (by omega) (by omega), bs_fuel xs x f g _ hi (by omega) (by omega)]
    · rw [if_neg h, if_neg h]
noncomputable def bsF (xs : List Int) (x lo hi : Int) : Int := bs xs x (hi - lo).toNat lo hi
noncomputable def bisR (xs : List Int) (x : Int) : Int := bsF xs x 0 xs.length
theorem bsF_end {xs : List Int} {x lo hi : Int} (h : ¬ lo < hi) : bsF xs x lo hi = lo := by
  unfold bsF
  have e : (hi - lo).toNat = 0 := by omega
  rw [e]; rfl
theorem bsF_step {xs : List Int} {x lo hi : Int} (h : lo < hi) : bsF xs x lo hi = if x < xs.getD (Int.fdiv (lo + hi) 2).toNat 0 then bsF xs x lo (Int.fdiv (lo + hi) 2) else bsF xs x (Int.fdiv (lo + hi) 2 + 1) hi := by
  have e2 : Int.fdiv (lo + hi) 2 = (lo + hi) / 2 := Int.fdiv_eq_ediv_of_nonneg _ (by decide)
  unfold bsF
  have e : (hi - lo).toNat = ((hi - lo).toNat - 1) + 1 := by omega
  rw [e]
  rw [show bs xs x ((hi - lo).toNat - 1 + 1) lo hi = if lo < hi then (if x < xs.getD (Int.fdiv (lo + hi) 2).toNat 0 then bs xs x ((hi - lo).toNat - 1) lo (Int.fdiv (lo + hi) 2) else bs xs x ((hi - lo).toNat - 1) (Int.fdiv (lo + hi) 2 + 1) hi) else lo from rfl]
  rw [if_pos h]
  rw [bs_fuel xs x _ ((Int.fdiv (lo + hi) 2 - lo).toNat) lo (Int.fdiv (lo + hi) 2) (by omega) (by omega), bs_fuel xs x _ ((hi - (Int.fdiv (lo + hi) 2 + 1)).toNat) (Int.fdiv (lo + hi) 2 + 1) hi (by omega) (by omega)]
/-- what the while keeps -/
def BsInv (xs : List Int) (x lo hi : Int) : Prop := 0 ≤ lo ∧ lo ≤ hi ∧ hi ≤ (xs.length : Int) ∧ bsF xs x lo hi = bisR xs x
theorem BsInv.start (xs : List Int) (x : Int) : BsInv xs x 0 xs.length := ⟨by omega, by omega, by omega, rfl⟩
theorem BsInv.low {xs : List Int} {x lo hi : Int} (H : BsInv xs x lo hi) (h : lo < hi) (hx : x < xs.getD (Int.fdiv (lo + hi) 2).toNat 0) : BsInv xs x lo (Int.fdiv (lo + hi) 2) := by
  have e2 : Int.fdiv (lo + hi) 2 = (lo + hi) / 2 := Int.fdiv_eq_ediv_of_nonneg _ (by decide)
  obtain ⟨h0, h1, h2, h3⟩ := H
  refine ⟨h0, by omega, by omega, ?_⟩
  rw [bsF_step h, if_pos hx] at h3
  exact h3
theorem BsInv.high {xs : List Int} {x lo hi : Int} (H : BsInv xs x lo hi) (h : lo < hi) (hx : ¬ x < xs.getD (Int.fdiv (lo + hi) 2).toNat 0) : BsInv xs x (Int.fdiv (lo + hi) 2 + 1) hi := by
  have e2 : Int.fdiv (lo + hi) 2 = (lo + hi) / 2 := Int.fdiv_eq_ediv_of_nonneg _ (by decide)
  obtain ⟨h0, h1, h2, h3⟩ := H
  refine ⟨by omega, by omega, h2, ?_⟩
  rw [bsF_step h, if_neg hx] at h3
  exact h3
theorem BsInv.done {xs : List Int} {x lo hi : Int} (H : BsInv xs x lo hi) (h : ¬ lo < hi) : lo = bisR xs x := by
  rw [← H.2.2.2, bsF_end h]
end Mine
/-! part B1 -/
namespace Mine
section
variable {prog : Program} {w : World} {A : Around} {E : Value → Shared → Prop} {s : Shared} {h₀ : Heap} {L D : Addr} {news : List (Addr × Obj)} {ys : List Value} {ns : List Int} {k : Int} {u : Tok}
theorem my_item {value slice : PySem.Expr} {Q : Value → Shared → Prop} (N : News h₀ L s.heap news) (hm : (D, LCg.lst ys) ∈ news) (hi : IntsAre ys ns) (h0 : 0 ≤ k) (h1 : k < ns.length) (hfit : ns.length < 2 ^ 62) (h : ∀ t, Q (.int (ns.getD k.toNat 0) t) s)
    (hs : subscripted slice false (.ref D) (.int k u) = operate [.ref D, .int k u] (getItem (.ref D) (.int k u)) := by with_unfolding_all rfl) :
    wpAny (model prog w) A (subscriptTail value slice (.ref D) (.int k u)) Q E s := by
  have hl : s.heap.IsList D ys.toArray := News.isList N hm
  have hle := hi.length
  obtain ⟨t, e⟩ := hi.int_at k.toNat _ (List.getElem?_eq_getElem (by omega))
  have e2 : ys.toArray[k.toNat]? = some (.int (ns.getD k.toNat 0) t) := by
    rw [← e]; simp only [List.getElem?_toArray]; exact List.getElem?_eq_getElem (by omega)
  exact tail_any hl.typeIs slot_list_getitem.lookup (wpAny_getItem_list hl h0 (by omega) e2 (h t)) hs
theorem my_len {Q : Value → Shared → Prop} (N : News h₀ L s.heap news) (hm : (D, LCg.lst ys) ∈ news) (hi : IntsAre ys ns) (hfit : ns.length < 2 ^ 62) (h : Q (.int (ns.length : Nat) (s.toks + 1)) { s with toks := s.toks + 1 + 1 }) : wpAny (model prog w) A (call (.builtin "len") [.ref D]) Q E s :=
  len_ints_fit (News.isList N hm) hi hfit h
end
theorem mid_lo {xs : List Int} {x lo hi : Int} (H : BsInv xs x lo hi) (h : lo < hi) : 0 ≤ Int.fdiv (lo + hi) 2 := by
  have e2 : Int.fdiv (lo + hi) 2 = (lo + hi) / 2 := Int.fdiv_eq_ediv_of_nonneg _ (by decide)
  obtain ⟨h0, h1, h2, _⟩ := H
  omega
theorem mid_hi {xs : List Int} {x lo hi : Int} (H : BsInv xs x lo hi) (h : lo < hi) : Int.fdiv (lo + hi) 2 < xs.length := by
  have e2 : Int.fdiv (lo + hi) 2 = (lo + hi) / 2 := Int.fdiv_eq_ediv_of_nonneg _ (by decide)
  obtain ⟨h0, h1, h2, _⟩ := H
  omega
theorem less_low {xs : List Int} {x lo hi : Int} (H : BsInv xs x lo hi) (h : lo < hi) : (Int.fdiv (lo + hi) 2 - lo).toNat < (hi - lo).toNat := by
  have e2 : Int.fdiv (lo + hi) 2 = (lo + hi) / 2 := Int.fdiv_eq_ediv_of_nonneg _ (by decide)
  obtain ⟨h0, h1, h2, _⟩ := H
  omega
theorem less_high {xs : List Int} {x lo hi : Int} (H : BsInv xs x lo hi) (h : lo < hi) : (hi - (Int.fdiv (lo + hi) 2 + 1)).toNat < (hi - lo).toNat := by
  have e2 : Int.fdiv (lo + hi) 2 = (lo + hi) / 2 := Int.fdiv_eq_ediv_of_nonneg _ (by decide)
  obtain ⟨h0, h1, h2, _⟩ := H
  omega
local macro_rules | `(tactic| cell_enter) => `(tactic| (refine' code_def ?k1 ?k2 ?k3 ?k4 ?k5 ?kA ?kF ?kK ?k6 ?k7 ?k8 ?k9 ?kB ?_ ?c2 ?c3 ?c4 ?c5; (case kA => exact rfl); (case kF => exact rfl); (case kK => assumption); (case k1 => k_asm); (case k2 => k_asm); (case k3 => k_asm); (case k4 => k_asm); (case k5 => k_asm); (case k6 => k_is); (case k7 => k_is); (case k8 => ktr_room); (case k9 => (refine' kp_binds ?kx ?ke; (case kx => k_in); (case ke => exact fun _ => rfl))); (case c5 => decide); (case kB => exact locs rfl); (case c2 => exact rfl); (case c3 => exact rfl); (case c4 => exact rfl); k_whole; intro g' L' h' FG' F' N' B' X' T'; (try dsimp only); (try k_lift B'); (try k_fold)))
local macro_rules | `(tactic| k_steps) => `(tactic| repeat' (first | ((k_unfold; (try dsimp only))) | ((k_end; kc_close)) | (walk1) | (dsimp only; walk1) | ((leave1; walk_say "STEP leave1"; (try dsimp only))) | fail "no step"))
local macro_rules | `(tactic| walk_at "subscriptTail Name Name ref int") => `(tactic| (k_here; (with_reducible show wpAny _ _ (subscriptTail _ _ (Value.ref _) (Value.int _ _)) _ _ _); k_dflt (refine' Mine.my_item ?N ?m ?I ?k0 ?k1 ?k2 ?_; (case N => k_asm); (case m => assumption); (case I => assumption); (case k0 => exact mid_lo (by assumption) (by assumption)); (case k1 => exact mid_hi (by assumption) (by assumption)); (case k2 => assumption); k_whole; intro t9)))
local macro_rules | `(tactic| walk_at "call builtin:len") => `(tactic| (k_here; (with_reducible show wpAny _ _ (call (Value.builtin "len") [Value.ref _]) _ _ _); k_dflt (refine' Mine.my_len ?N ?m ?I ?k2 ?_; (case N => k_asm); (case m => assumption); (case I => assumption); (case k2 => assumption); k_whole)))
set_option maxRecDepth 100000 in
set_option maxHeartbeats 8000000 in
theorem bis_claim : ∀ (w : World) (p : Program) (loose : List Str) (mean : ExcName → Option Value) (mg mb : Str → Option Value) (ys : List Value) (ns : List Int) (D : Addr) (x : Int) (t : Tok) (news : List (Addr × Obj)) (_ : IntsAre ys ns) (_ : ns.length < 2 ^ 62) (_ : (D, LCg.lst ys) ∈ news)
    (dp un : Nat) (gd : Option (List Code)) (cn : Str) (cs : Scope) (a : Addr) (ccd : Value) (cl : List (Str × Addr)) (outer : List Env) (A₀ : Around) (base h₀ : Heap) (L : Addr) (m : Str → Option Value) (s : Shared) (Q E : Value → Shared → Prop)
    (_ : Below A₀ base outer h₀) (_ : Fr h₀ L s.heap m) (_ : (hd.heap_39 w.params).In h₀) (_ : News h₀ L s.heap news) (_ : Top p loose mean mg mb h₀) (_ : cs.kind = .function) (_ : dp + 1 < recursionLimit) (_ : un + 8 < cLine)
    (_ : CbRet h₀ L m news s Q fun t => Value.int (bisR ns x) t),
    wpAny (model (RowW.prog (OpenRow.toRowW (OpenLaw.row PySem.Challenge.rw_ge0006_01))) w) (ktrTop dp un gd cn cs L a ccd cl outer) (call (.ref 23) [.ref D, .int x t]) Q E s := by
  k_fill
  w_top off
  intro w p loose mean mg mb ys ns D x t news hI hfit hm dp un gd cn cs a ccd cl outer A₀ base h₀ L m s Q E B F X N T hk hdp hun hret
  (k_with "exec While Compare cons nil" => k_while (fun (_ : List Int) lo hi => Mine.BsInv ns x lo hi) (fun (_ : List Int) lo hi => (hi - lo).toNat) "lo" "hi")
  (k_with "state" => first | exact Mine.BsInv.start _ _ | exact Mine.BsInv.low (by assumption) (by assumption) (by assumption) | exact Mine.BsInv.high (by assumption) (by assumption) (by assumption))
  (k_with "measure" => first | exact less_low (by assumption) (by assumption) | exact less_high (by assumption) (by assumption))
  (k_with "tree" => exact Mine.BsInv.done (by assumption) (by assumption))
  dsimp only [CbRet] at hret
  refine wpAny_call ?_
  k_dflt cell_enter
  k_steps
  all_goals cb_end hret
end Mine
/-! part PL2 -/
namespace Mine
abbrev nn (y : Int) : Int := ((PySem.Builtin.Int.intBits y : Nat) : Int)
abbrev sh (y : Int) : Int := (Int.fdiv (0 + 2) (2 ^ Int.toNat 1) - 0) * nn y
abbrev hiD (x y : Int) : Int := Int.fdiv x (2 ^ Int.toNat (sh y))
abbrev loD (x y : Int) : Int := Builtin.bitXor x (hiD x y * 2 ^ Int.toNat (sh y))
abbrev x1D (x y : Int) : Int := 0 * 2 ^ Int.toNat (nn y) + hiD x y
abbrev q1D (x y : Int) : Int := Int.fdiv (x1D x y) y
abbrev r1D (x y : Int) : Int := Int.fmod (x1D x y) y
abbrev x2D (x y : Int) : Int := r1D x y * 2 ^ Int.toNat (nn y) + loD x y
abbrev q2D (x y : Int) : Int := Int.fdiv (x2D x y) y
abbrev r2D (x y : Int) : Int := Int.fmod (x2D x y) y
abbrev qD (x y : Int) : Int := q1D x y * 2 ^ Int.toNat (sh y) + q2D x y
/-- what the walk of int_divmod asks of its two ints -/
structure IdmOk (x y : Int) : Prop where
  x0 : x ≠ 0
  xn : ¬ x < 0
  y0 : y ≠ 0
  yn : ¬ y < 0
  cnt : Int.fdiv (nn x + nn y - 1) (nn y) = 2
  n0 : 0 ≤ nn y
  nne : nn y ≠ 0
  s0 : 0 ≤ sh y
  b1 : ¬ 4000 < nn (x1D x y) - nn y
  b2 : ¬ 4000 < nn (x2D x y) - nn y
  p1 : Builtin.divisionGoesByPylong (x1D x y) y = false
  p2 : Builtin.divisionGoesByPylong (x2D x y) y = false
  l0 : nn 0 + nn y ≤ 2 ^ 27
  l1 : nn (hiD x y) + sh y ≤ 2 ^ 27
  l2 : nn (r1D x y) + nn y ≤ 2 ^ 27
  l3 : nn (q1D x y) + sh y ≤ 2 ^ 27
def idmOk (x y : Int) : Bool := decide (x ≠ 0) && decide (¬ x < 0) && decide (y ≠ 0) && decide (¬ y < 0) && decide (Int.fdiv (nn x + nn y - 1) (nn y) = 2) && decide (0 ≤ nn y) && decide (nn y ≠ 0) && decide (0 ≤ sh y) && decide (¬ 4000 < nn (x1D x y) - nn y) && decide (¬ 4000 < nn (x2D x y) - nn y)
  && !Builtin.divisionGoesByPylong (x1D x y) y && !Builtin.divisionGoesByPylong (x2D x y) y && decide (nn 0 + nn y ≤ 2 ^ 27) && decide (nn (hiD x y) + sh y ≤ 2 ^ 27) && decide (nn (r1D x y) + nn y ≤ 2 ^ 27) && decide (nn (q1D x y) + sh y ≤ 2 ^ 27)
theorem IdmOk.of {x y : Int} (h : idmOk x y = true) : IdmOk x y := by
  unfold idmOk at h
  simp only [Bool.and_eq_true, decide_eq_true_eq, Bool.not_eq_true'] at h
  obtain ⟨⟨⟨⟨⟨⟨⟨⟨⟨⟨⟨⟨⟨⟨⟨a1, a2⟩, a3⟩, a4⟩, a5⟩, a6⟩, a7⟩, a8⟩, a9⟩, a10⟩, a11⟩, a12⟩, a13⟩, a14⟩, a15⟩, a16⟩ := h
  exact ⟨a1, a2, a3, a4, a5, a6, a7, a8, a9, a10, a11, a12, a13, a14, a15, a16⟩
/-- the root of twice a count's square, by a plain count -/
def rt (c : Int) : Int := ((List.range 60).filter fun k => decide (0 < k ∧ ((k : Nat) : Int) * k ≤ 2 * c * c)).length
theorem idm_all : (List.range 40).all (fun k => let c : Int := 1 + (k : Int); idmOk (2 * c * c) (rt c) && (qD (2 * c * c) (rt c) - rt c == 0 || qD (2 * c * c) (rt c) - rt c == 1 || qD (2 * c * c) (rt c) - rt c == 2) && r2D (2 * c * c) (rt c) == 2 * c * c - qD (2 * c * c) (rt c) * rt c) = true := by decide +kernel
end Mine
/-! part C1 -/
namespace Mine
abbrev pairOf (q r : Int) (t u : Tok) : Obj := { cls := .type "tuple", data := .seq #[.int q t, .int r u] }
theorem my_divmod {prog : Program} {w : World} {A : Around} {E : Value → Shared → Prop} {s : Shared} {x y : Int} {t u : Tok} {Q : Value → Shared → Prop} {h₀ : Heap} {L : Addr} {m : Str → Option Value} {news : List (Addr × Obj)} (F : Fr h₀ L s.heap m) (N : News h₀ L s.heap news) (hy : y ≠ 0) (hp : Builtin.divisionGoesByPylong x y = false)
    (h : ∀ D h', Fr h₀ L h' m → News h₀ L h' ((D, pairOf (x.fdiv y) (x.fmod y) s.toks (s.toks + 1)) :: news) → (∀ q ∈ news, q.1 < D) → Q (.ref D) { s with toks := s.toks + 1 + 1, heap := h' }) :
    wpAny (model prog w) A (call (.builtin "divmod") [.int x t, .int y u]) Q E s :=
  divmod_N F N hy (fun h' F' N' => h _ h' F' N' fun q hq => Heap.lt_size (N q hq).1) (.inl hp)
local macro_rules | `(tactic| walk_at "call builtin:divmod") => `(tactic| (k_here; (with_reducible show wpAny _ _ (call (Value.builtin _) [Value.int _ _, Value.int _ _]) _ _ _); k_dflt (refine' my_divmod ?F ?N ?y ?p ?_; (case F => k_asm); (case N => k_asm); (case y => assumption); (case p => assumption); k_whole; intro D' h' F' N' l1; (try k_lt l1))))
local macro_rules | `(tactic| cell_enter) => `(tactic| (refine' code_def ?k1 ?k2 ?k3 ?k4 ?k5 ?kA ?kF ?kK ?k6 ?k7 ?k8 ?k9 ?kB ?_ ?c2 ?c3 ?c4 ?c5; (case kA => exact rfl); (case kF => exact rfl); (case kK => assumption); (case k1 => k_asm); (case k2 => k_asm); (case k3 => k_asm); (case k4 => k_asm); (case k5 => k_asm); (case k6 => k_is); (case k7 => k_is); (case k8 => ktr_room); (case k9 => exact BindsTo.of_eq rfl); (case c5 => decide); (case kB => exact locs rfl); (case c2 => exact rfl); (case c3 => exact rfl); (case c4 => exact rfl); k_whole; intro g' L' h' FG' F' N' B' X' T'; (try dsimp only); (try k_lift B'); (try k_fold)))
local macro_rules | `(tactic| k_steps) => `(tactic| repeat' (first | ((k_unfold; (try dsimp only))) | ((k_end; kc_close)) | (walk1) | (dsimp only; walk1) | ((leave1; walk_say "STEP leave1"; (try dsimp only))) | fail "no step"))
set_option maxRecDepth 100000 in
set_option maxHeartbeats 8000000 in
theorem div_claim : ∀ (w : World) (p : Program) (loose : List Str) (mean : ExcName → Option Value) (mg mb : Str → Option Value) (x y n : Int) (tx ty tn : Tok) (news : List (Addr × Obj)) (_ : y ≠ 0) (_ : ¬ 4000 < ((PySem.Builtin.Int.intBits x : Nat) : Int) - n) (_ : Builtin.divisionGoesByPylong x y = false)
    (dp un : Nat) (gd : Option (List Code)) (cn : Str) (cs : Scope) (a : Addr) (ccd : Value) (cl : List (Str × Addr)) (outer : List Env) (A₀ : Around) (base h₀ : Heap) (L : Addr) (m : Str → Option Value) (s : Shared) (Q E : Value → Shared → Prop)
    (_ : Below A₀ base outer h₀) (_ : Fr h₀ L s.heap m) (_ : (hd.heap_39 w.params).In h₀) (_ : News h₀ L s.heap news) (_ : Top p loose mean mg mb h₀) (_ : cs.kind = .function) (_ : dp + 1 < recursionLimit) (_ : un + 8 < cLine)
    (_ : ∀ (D : Addr) (t u : Tok) (h' : Heap) (tk' : Nat), Fr h₀ L h' m → News h₀ L h' ((D, pairOf (x.fdiv y) (x.fmod y) t u) :: news) → (∀ q ∈ news, q.1 < D) → Q (.ref D) { s with heap := h', toks := tk' }),
    wpAny (model (RowW.prog (OpenRow.toRowW (OpenLaw.row PySem.Challenge.rw_ge0006_01))) w) (ktrTop dp un gd cn cs L a ccd cl outer) (call (.ref 30) [.int x tx, .int y ty, .int n tn]) Q E s := by
  k_fill
  w_top off
  intro w p loose mean mg mb x y n tx ty tn news hy hbits hx1 dp un gd cn cs a ccd cl outer A₀ base h₀ L m s Q E B F X N T hk hdp hun hret
  k_with_none
  refine wpAny_call ?_
  k_dflt cell_enter
  k_steps
  exact hret _ _ _ _ _ (by assumption) (by assumption) (by assumption)
end Mine
/-! part C2 -/
namespace Mine
def qn46 : Str := (Str.ofString "_digits2int" ++ Str.ofString ".<locals>.") ++ Str.ofString "inner"
def qn39 : Str := (Str.ofString "_int2digits" ++ Str.ofString ".<locals>.") ++ Str.ofString "inner"
theorem keep_of {g h h' : Heap} {L : Addr} {m : Str → Option Value} {l : List Addr} (G : GSub h g l) (F : Fr g L h' m) : ∀ b o, h.get? b = some o → b ∉ l → h'.get? b = some o := fun b o e hb => F.keep _ _ (G b o e hb)
theorem my_mul2 {prog : Program} {w : World} {A : Around} {E : Value → Shared → Prop} {s : Shared} {h₀ : Heap} {L : Addr} {m : Str → Option Value} {news : List (Addr × Obj)} {l : Addr} {x : Int} {t u : Tok} {c : Nat} {Q : Value → Shared → Prop} (F : Fr h₀ L s.heap m) (N : News h₀ L s.heap news) (hm : (l, W.listOf #[.int 0 t] c) ∈ news) (hx : x = 2)
    (h : ∀ D h', Fr h₀ L h' m → News h₀ L h' ((D, W.listOf #[.int 0 t, .int 0 t] 0) :: news) → (∀ p ∈ news, p.1 < D) → Q (.ref D) { s with heap := h' }) : wpAny (model prog w) A (binaryOp .Mult (.ref l) (.int x u)) Q E s := by
  subst hx
  exact KM.mul (vs := [.int 0 t]) (ns := [0]) F N (News.isList N hm) (.cons 0 t .nil) (by decide) (by decide) (show 1 * Int.toNat 2 ≤ 2 ^ 24 by decide) fun D h' F' N' l' _ _ _ _ _ _ => h D h' F' N' l'
theorem ne_bool {x : Int} (h : x ≠ 0) : (x != 0) = true := by simpa using h
theorem truthy_pos {prog : Program} {w : World} {A : Around} {E : Value → Shared → Prop} {s : Shared} {x : Int} {t : Tok} {Q : Bool → Shared → Prop} (h : x ≠ 0) (q : Q true s) : wpAny (model prog w) A (truthy (.int x t)) Q E s :=
  truthy_int (by rw [ne_bool h]; exact q)
local macro_rules | `(tactic| k_steps) => `(tactic| repeat' (first | ((k_unfold; (try dsimp only))) | ((k_end; kc_close)) | (walk1) | (dsimp only; walk1) | ((leave1; walk_say "STEP leave1"; (try dsimp only))) | fail "no step"))
local macro_rules | `(tactic| k_room) => `(tactic| ((simp only [depth_under_make, depth_under_kw, depth_in1, depth_deeper, depth_caller]); (try dsimp only [ktrTop]); omega))
local macro_rules | `(tactic| cell_enter) => `(tactic| (refine' code_defG ?k1 ?k2 ?k3 ?k4 ?k5 ?kA ?kF ?kK ?k6 ?k7 ?k8 ?k9 ?kB ?_ ?c2 ?c3 ?c4 ?c5; (case kA => exact rfl); (case kF => exact rfl); (case kK => assumption); (case k1 => k_asm); (case k2 => k_asm); (case k3 => k_asm); (case k4 => k_asm); (case k5 => k_asm); (case k6 => k_is); (case k7 => k_is); (case k8 => k_room); (case k9 => exact BindsTo.of_eq rfl); (case c5 => decide); (case kB => exact locs rfl); (case c2 => exact rfl); (case c3 => exact rfl); (case c4 => exact rfl); k_whole; intro g' L' h' FG' F' N' B' X' T' kG'; (try dsimp only); (try k_lift B'); (try k_fold)))
local macro_rules | `(tactic| walk_at "binaryOp Mult ref int") => `(tactic| (k_here; (with_reducible show wpAny _ _ (binaryOp Operator.Mult (Value.ref _) (Value.int _ _)) _ _ _); k_dflt (refine' my_mul2 ?F ?N ?m ?x ?_; (case F => k_asm); (case N => k_asm); (case m => k_mem); (case x => assumption); k_whole; intro D' h' F' N' l1; (try k_lt l1))))
local macro_rules | `(tactic| walk_at "truthy int") => `(tactic| (refine truthy_pos ?q ?_; (case q => with_reducible assumption)))
local macro_rules | `(tactic| walk_at "binaryOp LShift int int") => `(tactic| (k_here; (with_reducible refine lshift_int ?ka ?kb ?_); (case ka => assumption); (case kb => assumption)))
local macro_rules | `(tactic| walk_at "binaryOp RShift int int") => `(tactic| (k_here; (with_reducible refine rshift_int ?ka ?_); (case ka => first | assumption | decide)))
local macro_rules | `(tactic| walk_at "call ref cons nil") => `(tactic| (k_here; (with_reducible show wpAny _ _ (call (Value.ref 30) [Value.int _ _, Value.int _ _, Value.int _ _] _) _ _ _); (k_dflt (refine' div_claim _ _ _ _ _ _ _ _ _ _ _ _ _ ?y ?b ?p _ _ _ _ _ _ _ _ _ _ _ _ _ _ _ _ _ ?B ?F ?X ?N ?T ?hk ?d ?u ?_; (case B => k_asm); (case F => k_asm); (case X => k_asm); (case N => k_asm); (case T => k_asm); (case hk => exact rfl); (case y => assumption); (case b => assumption); (case p => assumption); (case d => (show (_ : Nat) < _; k_room)); (case u => (simp only [units_in1, units_deeper, Around.mark_units, units_caller]; omega)); (intro D' t' u' h' tk' F' N' l1); (try k_lt l1); (try dsimp only); (try k_fold)))))
set_option maxRecDepth 100000 in
set_option maxHeartbeats 8000000 in
theorem idm_miss : ∀ (w : World) (p : Program) (loose : List Str) (mean : ExcName → Option Value) (mg mb : Str → Option Value) (x y : Int) (tx ty : Tok) (_ : IdmOk x y)
    (dp un : Nat) (gd : Option (List Code)) (cn : Str) (cs : Scope) (a : Addr) (ccd : Value) (cl : List (Str × Addr)) (outer : List Env) (A₀ : Around) (base h₀ : Heap) (L : Addr) (m : Str → Option Value) (s : Shared) (Q E : Value → Shared → Prop)
    (_ : Below A₀ base outer h₀) (_ : Fr h₀ L s.heap m) (_ : (hd.heap_39 w.params).In h₀) (_ : News h₀ L s.heap [(46, tabObj #[]), (39, tabObj #[])]) (_ : Top p loose mean mg mb h₀) (_ : CodeHd base 43 39) (_ : CodeHd base 50 46) (_ : cs.kind = .function) (_ : dp + 20 < recursionLimit) (_ : un + 200 < cLine)
    (_ : ∀ (D : Addr) (t u : Tok) (c46 c39 : Addr) (o46 o39 : Obj) (vs46 vs39 : Array Value) (t46 t39 : Tok) (h' : Heap) (tk' : Nat), Fr h₀ L h' m → News h₀ L h' [(D, pairOf (qD x y) (r2D x y) t u), (46, tabObj (#[] ++ #[rawInt 68, rawInt 4, .ref c46])), (39, tabObj (#[] ++ #[rawInt 53, rawInt 4, .ref c39])), (c46, o46), (c39, o39)] →
      o46.data = .fields vs46 → vs46[1]? = some (.str qn46 t46) → o39.data = .fields vs39 → vs39[1]? = some (.str qn39 t39) → (∀ b o, s.heap.get? b = some o → b ∉ [46, 39] → h'.get? b = some o) → Q (.ref D) { s with heap := h', toks := tk' }),
    wpAny (model (RowW.prog (OpenRow.toRowW (OpenLaw.row PySem.Challenge.rw_ge0006_01))) w) (ktrTop dp un gd cn cs L a ccd cl outer) (call (.ref 65) [.int x tx, .int y ty]) Q E s := by
  k_fill
  w_top off
  intro w p loose mean mg mb x y tx ty ok dp un gd cn cs a ccd cl outer A₀ base h₀ L m s Q E B F X N T C43 C50 hk hdp hun hret
  k_with_none
  obtain ⟨x0, xn, y0, yn, cnt, n0, nne, s0, b1, b2, p1, p2, l0, l1, l2, l3⟩ := ok
  dsimp only [nn, sh, hiD, loD, x1D, q1D, r1D, x2D, q2D, r2D, qD] at *
  have n1 : 0 < ((PySem.Builtin.Int.intBits y : Nat) : Int) := by omega
  refine wpAny_call ?_
  k_dflt cell_enter
  k_steps
  all_goals try (exfalso; first | omega | (simp only [beq_iff_eq] at *; omega) | fail "x")
  refine' hret _ _ _ _ _ _ _ _ _ _ _ _ _ ?F (cb_drop ?N ?S) ?d46 ?v46 ?d39 ?v39 ?K
  case F => assumption
  case K => exact keep_of (by assumption) (by assumption)
  case N => assumption
  case S =>
    refine List.forall_mem_cons.mpr ⟨?S1, List.forall_mem_cons.mpr ⟨?S2, List.forall_mem_cons.mpr ⟨?S3, List.forall_mem_cons.mpr ⟨?S4, List.forall_mem_cons.mpr ⟨?S5, List.forall_mem_nil _⟩⟩⟩⟩⟩
    case S1 => k_mem
    case S2 => k_mem
    case S3 => k_mem
    case S4 => k_mem
    case S5 => k_mem
  case d46 => assumption
  case v46 => assumption
  case d39 => assumption
  case v39 => assumption
end Mine
/-! part C3 -/
namespace Mine
local macro_rules | `(tactic| k_steps) => `(tactic| repeat' (first | ((k_unfold; (try dsimp only))) | ((k_end; kc_close)) | (walk1) | (dsimp only; walk1) | ((leave1; walk_say "STEP leave1"; (try dsimp only))) | fail "no step"))
local macro_rules | `(tactic| k_room) => `(tactic| ((simp only [depth_under_make, depth_under_kw, depth_in1, depth_deeper, depth_caller]); (try dsimp only [ktrTop]); omega))
local macro_rules | `(tactic| cell_enter) => `(tactic| (refine' code_defG ?k1 ?k2 ?k3 ?k4 ?k5 ?kA ?kF ?kK ?k6 ?k7 ?k8 ?k9 ?kB ?_ ?c2 ?c3 ?c4 ?c5; (case kA => exact rfl); (case kF => exact rfl); (case kK => assumption); (case k1 => k_asm); (case k2 => k_asm); (case k3 => k_asm); (case k4 => k_asm); (case k5 => k_asm); (case k6 => k_is); (case k7 => k_is); (case k8 => k_room); (case k9 => exact BindsTo.of_eq rfl); (case c5 => decide); (case kB => exact locs rfl); (case c2 => exact rfl); (case c3 => exact rfl); (case c4 => exact rfl); k_whole; intro g' L' h' FG' F' N' B' X' T' kG'; (try dsimp only); (try k_lift B'); (try k_fold)))
local macro_rules | `(tactic| walk_at "binaryOp Mult ref int") => `(tactic| (k_here; (with_reducible show wpAny _ _ (binaryOp Operator.Mult (Value.ref _) (Value.int _ _)) _ _ _); k_dflt (refine' my_mul2 ?F ?N ?m ?x ?_; (case F => k_asm); (case N => k_asm); (case m => k_mem); (case x => assumption); k_whole; intro D' h' F' N' l1; (try k_lt l1))))
local macro_rules | `(tactic| walk_at "truthy int") => `(tactic| (refine truthy_pos ?q ?_; (case q => with_reducible assumption)))
local macro_rules | `(tactic| walk_at "binaryOp LShift int int") => `(tactic| (k_here; (with_reducible refine lshift_int ?ka ?kb ?_); (case ka => assumption); (case kb => assumption)))
local macro_rules | `(tactic| walk_at "binaryOp RShift int int") => `(tactic| (k_here; (with_reducible refine rshift_int ?ka ?_); (case ka => first | assumption | decide)))
local macro_rules | `(tactic| walk_at "call ref cons nil") => `(tactic| (k_here; (with_reducible show wpAny _ _ (call (Value.ref 30) [Value.int _ _, Value.int _ _, Value.int _ _] _) _ _ _); (k_dflt (refine' div_claim _ _ _ _ _ _ _ _ _ _ _ _ _ ?y ?b ?p _ _ _ _ _ _ _ _ _ _ _ _ _ _ _ _ _ ?B ?F ?X ?N ?T ?hk ?d ?u ?_; (case B => k_asm); (case F => k_asm); (case X => k_asm); (case N => k_asm); (case T => k_asm); (case hk => exact rfl); (case y => assumption); (case b => assumption); (case p => assumption); (case d => (show (_ : Nat) < _; k_room)); (case u => (simp only [units_in1, units_deeper, Around.mark_units, units_caller]; omega)); (intro D' t' u' h' tk' F' N' l1); (try k_lt l1); (try dsimp only); (try k_fold)))))
set_option maxRecDepth 100000 in
set_option maxHeartbeats 8000000 in
theorem idm_hit : ∀ (w : World) (p : Program) (loose : List Str) (mean : ExcName → Option Value) (mg mb : Str → Option Value) (x y : Int) (tx ty : Tok) (_ : IdmOk x y) (c46 c39 : Addr) (o46 o39 : Obj) (vs46 vs39 : Array Value) (t46 t39 : Tok) (_ : o46.data = .fields vs46) (_ : vs46[1]? = some (.str qn46 t46)) (_ : o39.data = .fields vs39) (_ : vs39[1]? = some (.str qn39 t39))
    (dp un : Nat) (gd : Option (List Code)) (cn : Str) (cs : Scope) (a : Addr) (ccd : Value) (cl : List (Str × Addr)) (outer : List Env) (A₀ : Around) (base h₀ : Heap) (L : Addr) (m : Str → Option Value) (s : Shared) (Q E : Value → Shared → Prop)
    (_ : Below A₀ base outer h₀) (_ : Fr h₀ L s.heap m) (_ : (hd.heap_39 w.params).In h₀) (_ : News h₀ L s.heap [(46, tabObj (#[] ++ #[rawInt 68, rawInt 4, .ref c46])), (39, tabObj (#[] ++ #[rawInt 53, rawInt 4, .ref c39])), (c46, o46), (c39, o39)]) (_ : Top p loose mean mg mb h₀) (_ : CodeHd base 43 39) (_ : CodeHd base 50 46) (_ : cs.kind = .function) (_ : dp + 20 < recursionLimit) (_ : un + 200 < cLine)
    (_ : ∀ (D : Addr) (t u : Tok) (h' : Heap) (tk' : Nat), Fr h₀ L h' m → News h₀ L h' [(D, pairOf (qD x y) (r2D x y) t u), (46, tabObj (#[] ++ #[rawInt 68, rawInt 4, .ref c46])), (39, tabObj (#[] ++ #[rawInt 53, rawInt 4, .ref c39])), (c46, o46), (c39, o39)] →
      (∀ b o, s.heap.get? b = some o → b ∉ [46, 39, c46, c39] → h'.get? b = some o) → Q (.ref D) { s with heap := h', toks := tk' }),
    wpAny (model (RowW.prog (OpenRow.toRowW (OpenLaw.row PySem.Challenge.rw_ge0006_01))) w) (ktrTop dp un gd cn cs L a ccd cl outer) (call (.ref 65) [.int x tx, .int y ty]) Q E s := by
  k_fill
  w_top off
  intro w p loose mean mg mb x y tx ty ok c46 c39 o46 o39 vs46 vs39 t46 t39 hd46 hv46 hd39 hv39 dp un gd cn cs a ccd cl outer A₀ base h₀ L m s Q E B F X N T C43 C50 hk hdp hun hret
  k_with_none
  obtain ⟨x0, xn, y0, yn, cnt, n0, nne, s0, b1, b2, p1, p2, l0, l1, l2, l3⟩ := ok
  dsimp only [nn, sh, hiD, loD, x1D, q1D, r1D, x2D, q2D, r2D, qD] at *
  have n1 : 0 < ((PySem.Builtin.Int.intBits y : Nat) : Int) := by omega
  refine wpAny_call ?_
  k_dflt cell_enter
  k_steps
  all_goals try (exfalso; first | omega | (simp only [beq_iff_eq] at *; omega) | fail "x")
  refine' hret _ _ _ _ _ ?F (cb_drop ?N ?S) ?K
  case F => assumption
  case K => exact keep_of (by assumption) (by assumption)
  case N => assumption
  case S =>
    refine List.forall_mem_cons.mpr ⟨?S1, List.forall_mem_cons.mpr ⟨?S2, List.forall_mem_cons.mpr ⟨?S3, List.forall_mem_cons.mpr ⟨?S4, List.forall_mem_cons.mpr ⟨?S5, List.forall_mem_nil _⟩⟩⟩⟩⟩
    case S1 => k_mem
    case S2 => k_mem
    case S3 => k_mem
    case S4 => k_mem
    case S5 => k_mem
end Mine
/-! part C4 -/
namespace Mine
/-- the two code tables (and the codes in them): before the first call of int_divmod, or behind one -/
def Tabs (l : List (Addr × Obj)) : Prop := l = [(46, tabObj #[]), (39, tabObj #[])] ∨
  ∃ (c46 c39 : Addr) (o46 o39 : Obj) (vs46 vs39 : Array Value) (t46 t39 : Tok), l = [(46, tabObj (#[] ++ #[rawInt 68, rawInt 4, .ref c46])), (39, tabObj (#[] ++ #[rawInt 53, rawInt 4, .ref c39])), (c46, o46), (c39, o39)] ∧
    o46.data = .fields vs46 ∧ vs46[1]? = some (.str qn46 t46) ∧ o39.data = .fields vs39 ∧ vs39[1]? = some (.str qn39 t39)
theorem news_app {h₀ h : Heap} {L : Addr} {a b : List (Addr × Obj)} (N1 : News h₀ L h a) (N2 : News h₀ L h b) : News h₀ L h (a ++ b) := fun p hp => (List.mem_append.mp hp).elim (N1 p) (N2 p)
theorem idm_claim (w : World) (p : Program) (loose : List Str) (mean : ExcName → Option Value) (mg mb : Str → Option Value) (x y : Int) (tx ty : Tok) (ok : IdmOk x y) (rest tabs : List (Addr × Obj)) (hT : Tabs tabs) (hr : ∀ q ∈ rest, q.1 ≠ 46 ∧ q.1 ≠ 39)
    (dp un : Nat) (gd : Option (List Code)) (cn : Str) (cs : Scope) (a : Addr) (ccd : Value) (cl : List (Str × Addr)) (outer : List Env) (A₀ : Around) (base h₀ : Heap) (L : Addr) (m : Str → Option Value) (s : Shared) (Q E : Value → Shared → Prop)
    (B : Below A₀ base outer h₀) (F : Fr h₀ L s.heap m) (X : (hd.heap_39 w.params).In h₀) (N : News h₀ L s.heap (rest ++ tabs)) (T : Top p loose mean mg mb h₀) (C43 : CodeHd base 43 39) (C50 : CodeHd base 50 46) (hk : cs.kind = .function) (hdp : dp + 20 < recursionLimit) (hun : un + 200 < cLine)
    (hret : ∀ (D : Addr) (t u : Tok) (tabs' : List (Addr × Obj)) (h' : Heap) (tk' : Nat), Tabs tabs' → Fr h₀ L h' m → News h₀ L h' ((D, pairOf (qD x y) (r2D x y) t u) :: (rest ++ tabs')) → Q (.ref D) { s with heap := h', toks := tk' }) :
    wpAny (model (RowW.prog (OpenRow.toRowW (OpenLaw.row PySem.Challenge.rw_ge0006_01))) w) (ktrTop dp un gd cn cs L a ccd cl outer) (call (.ref 65) [.int x tx, .int y ty]) Q E s := by
  have NT : News h₀ L s.heap tabs := cb_drop N fun q hq => List.mem_append_right _ hq
  have NR : News h₀ L s.heap rest := cb_drop N fun q hq => List.mem_append_left _ hq
  rcases hT with rfl | ⟨c46, c39, o46, o39, vs46, vs39, t46, t39, rfl, d46, v46, d39, v39⟩
  · refine idm_miss w p loose mean mg mb x y tx ty ok dp un gd cn cs a ccd cl outer A₀ base h₀ L m s Q E B F X NT T C43 C50 hk hdp hun ?_
    intro D t u c46 c39 o46 o39 vs46 vs39 t46 t39 h' tk' F' N' d46 v46 d39 v39 K
    refine hret D t u _ h' tk' (.inr ⟨c46, c39, o46, o39, vs46, vs39, t46, t39, rfl, d46, v46, d39, v39⟩) F' fun q hq => ?_
    rcases List.mem_cons.mp hq with rfl | hq
    · exact N' _ (.head _)
    · rcases List.mem_append.mp hq with hq | hq
      · refine ⟨K _ _ (NR q hq).1 fun hm => ?_, (NR q hq).2⟩
        obtain ⟨n1, n2⟩ := hr q hq
        rcases List.mem_cons.mp hm with e | hm
        · exact n1 e
        · exact n2 (List.mem_singleton.mp hm)
      · exact N' q (.tail _ hq)
  · refine idm_hit w p loose mean mg mb x y tx ty ok c46 c39 o46 o39 vs46 vs39 t46 t39 d46 v46 d39 v39 dp un gd cn cs a ccd cl outer A₀ base h₀ L m s Q E B F X NT T C43 C50 hk hdp hun ?_
    intro D t u h' tk' F' N' K
    refine hret D t u _ h' tk' (.inr ⟨c46, c39, o46, o39, vs46, vs39, t46, t39, rfl, d46, v46, d39, v39⟩) F' fun q hq => ?_
    rcases List.mem_cons.mp hq with rfl | hq
    · exact N' _ (.head _)
    · rcases List.mem_append.mp hq with hq | hq
      · by_cases e1 : q.1 = c46
        · have e : q = (c46, o46) := by
            have h1 := (NR q hq).1
            have h2 := (NT (c46, o46) (.tail _ (.tail _ (.head _)))).1
            rw [e1, h2] at h1
            exact Prod.ext e1 (Option.some.inj h1).symm
          rw [e]
          exact N' _ (.tail _ (.tail _ (.tail _ (.head _))))
        · by_cases e2 : q.1 = c39
          · have e : q = (c39, o39) := by
              have h1 := (NR q hq).1
              have h2 := (NT (c39, o39) (.tail _ (.tail _ (.tail _ (.head _))))).1
              rw [e2, h2] at h1
              exact Prod.ext e2 (Option.some.inj h1).symm
            rw [e]
            exact N' _ (.tail _ (.tail _ (.tail _ (.tail _ (.head _)))))
          · refine ⟨K _ _ (NR q hq).1 fun hm => ?_, (NR q hq).2⟩
            obtain ⟨n1, n2⟩ := hr q hq
            rcases List.mem_cons.mp hm with e | hm
            · exact n1 e
            · rcases List.mem_cons.mp hm with e | hm
              · exact n2 e
              · rcases List.mem_cons.mp hm with e | hm
                · exact e1 e
                · exact e2 (List.mem_singleton.mp hm)
      · exact N' q (.tail _ hq)
end Mine
/-! part PL3 -/
namespace Mine
def sqL : List Int := List.map (fun k' => k' * k') (rangeKs 0 (Int.toNat (62 - 0)))
noncomputable def firstL : List Int := List.map (fun k' => bisR sqL (2 * k' * k') - 1) (rangeKs 1 (Int.toNat (42 - 1)))
noncomputable def secondL : List Int := List.map (fun k' => List.getD firstL (Int.toNat (k' - 1)) 0 + 2 * k') (rangeKs 1 (Int.toNat (42 - 1)))
theorem firstL_len : firstL.length = 41 := by unfold firstL; rw [List.length_map, rangeKs_length]; rfl
theorem secondL_len : secondL.length = 41 := by unfold secondL; rw [List.length_map, rangeKs_length]; rfl
abbrev cOf (cell : Int) : Int := 1 + Int.fmod cell 40
noncomputable abbrev rOf (c : Int) : Int := List.getD firstL (Int.toNat (c - 1)) 0
structure TurnOk (c : Int) : Prop where
  lo : 1 ≤ c
  hi : c < 41
  rlo : 1 ≤ rOf c
  rhi : rOf c < 60
  sq1 : rOf c * rOf c < 2 * c * c
  sq2 : 2 * c * c < (rOf c + 1) * (rOf c + 1)
  idm : IdmOk (2 * c * c) (rOf c)
  often : qD (2 * c * c) (rOf c) - rOf c = 0 ∨ qD (2 * c * c) (rOf c) - rOf c = 1 ∨ qD (2 * c * c) (rOf c) - rOf c = 2
  rest : r2D (2 * c * c) (rOf c) = 2 * c * c - qD (2 * c * c) (rOf c) * rOf c
  both : bisR firstL c + bisR secondL c = c
noncomputable def turnOk (c : Int) : Bool := decide (1 ≤ c) && decide (c < 41) && decide (1 ≤ rOf c) && decide (rOf c < 60) && decide (rOf c * rOf c < 2 * c * c) && decide (2 * c * c < (rOf c + 1) * (rOf c + 1)) && idmOk (2 * c * c) (rOf c)
  && (decide (qD (2 * c * c) (rOf c) - rOf c = 0) || decide (qD (2 * c * c) (rOf c) - rOf c = 1) || decide (qD (2 * c * c) (rOf c) - rOf c = 2)) && decide (r2D (2 * c * c) (rOf c) = 2 * c * c - qD (2 * c * c) (rOf c) * rOf c) && decide (bisR firstL c + bisR secondL c = c)
theorem TurnOk.of {c : Int} (h : turnOk c = true) : TurnOk c := by
  unfold turnOk at h
  simp only [Bool.and_eq_true, Bool.or_eq_true, decide_eq_true_eq] at h
  obtain ⟨⟨⟨⟨⟨⟨⟨⟨⟨a1, a2⟩, a3⟩, a4⟩, a5⟩, a6⟩, a7⟩, a8⟩, a9⟩, a10⟩ := h
  exact ⟨a1, a2, a3, a4, a5, a6, .of a7, (or_assoc.mp a8), a9, a10⟩
theorem turn_all : (List.range 40).all (fun k => turnOk (1 + (k : Int))) = true := by decide +kernel
theorem turn_ok (cell : Int) : TurnOk (cOf cell) := by
  have e : Int.fmod cell 40 = cell % 40 := Int.fmod_eq_emod_of_nonneg _ (by decide)
  have h0 : 0 ≤ cell % 40 := Int.emod_nonneg _ (by decide)
  have h1 : cell % 40 < 40 := Int.emod_lt_of_pos _ (by decide)
  have h := List.all_eq_true.mp turn_all (cell % 40).toNat (List.mem_range.mpr (by omega))
  have e2 : ((cell % 40).toNat : Int) = Int.fmod cell 40 := by rw [e]; omega
  rw [e2] at h
  exact TurnOk.of h
/-- the law's first three questions, on the plain lists -/
theorem ask_squares : (List.foldl (fun l' k' => if ¬bisR sqL (List.getD sqL (Int.toNat k') 0) - 1 = k' then l' ++ [k'] else if 0 < k' ∧ ¬bisR sqL (List.getD sqL (Int.toNat k') 0 - 1) - 1 = k' - 1 then l' ++ [k'] else l') [] (rangeKs 0 (Int.toNat (62 - 0)))) = ([] : List Int) := by decide +kernel
end Mine
/-! part T8 -/
namespace Mine
noncomputable def lawRec : Option (DefRec × List (Str × PySem.Expr)) := defOf hd.view_39 (Str.ofString "law")
noncomputable def lawBody : List Stmt := match lawRec with | some (d, _) => d.body | none => []
noncomputable def lawScope : Scope := match lawRec with | some (d, _) => d.scope | none => { kind := .function, names := [], isGenerator := false, isCoroutine := false, more := [] }
noncomputable def forBody : List Stmt := match lawBody.drop 7 with | .For _ _ body _ _ :: _ => body | _ => []
noncomputable abbrev lawEnv (L fa : Addr) (cd : Value) : Env := envOfC (Str.ofString "law") lawScope L fa cd
local macro_rules | `(tactic| k_steps) => `(tactic| repeat' (first | ((k_unfold; (try dsimp only))) | ((k_end; kc_close)) | (walk1; (try dsimp only)) | (dsimp only; walk1) | ((leave1; walk_say "STEP leave1"; (try dsimp only))) | fail "no step"))
theorem any012 {v : Int} (h : (List.any [0, 1, 2] fun x => x == v) = false) (o : v = 0 ∨ v = 1 ∨ v = 2) : False := by
  rcases o with e | e | e <;> rw [e] at h <;> exact absurd h (by decide)
theorem c_idx0 {c : Int} (h : 1 ≤ c) : 0 ≤ c - 1 := by omega
theorem c_idx1 {c : Int} (h : c < 41) : c - 1 < (firstL.length : Nat) := by rw [firstL_len]; omega
theorem first_fit : firstL.length < 2 ^ 62 := by rw [firstL_len]; decide
theorem second_fit : secondL.length < 2 ^ 62 := by rw [secondL_len]; decide
local macro_rules | `(tactic| walk_at "subscriptTail Name BinOp ref int") => `(tactic| (k_here; (with_reducible show wpAny _ _ (subscriptTail _ _ (Value.ref _) (Value.int _ _)) _ _ _); k_dflt (refine' Mine.my_item ?N ?m ?I ?k0 ?k1 ?k2 ?_; (case N => k_asm); (case m => k_mem); (case I => assumption); (case k0 => exact c_idx0 (by assumption)); (case k1 => exact c_idx1 (by assumption)); (case k2 => exact first_fit); k_whole; intro t9)))
local macro_rules | `(tactic| walk_at "call ref cons nil") => `(tactic| (k_here; (with_reducible show wpAny _ _ (call (Value.ref 23) [Value.ref _, Value.int _ _] _) _ _ _); (k_dflt (refine' Mine.bis_claim _ _ _ _ _ _ _ _ _ _ _ _ ?I ?fit ?m _ _ _ _ _ _ _ _ _ _ _ _ _ _ _ _ _ ?B ?F ?X ?N ?T ?hk ?d ?u ?_; (case B => k_asm); (case F => k_asm); (case X => k_asm); (case N => k_asm); (case T => k_asm); (case hk => exact rfl); (case m => k_mem); (case I => assumption); (case fit => first | exact first_fit | exact second_fit); (case d => exact Nat.le_of_ble_eq_true rfl); (case u => exact Nat.le_of_ble_eq_true rfl); (intro t9 h9 tk9 F9 N9); (try dsimp only); (try k_fold)))))
local macro_rules | `(tactic| walk_at "call ref cons nil") => `(tactic| (k_here; (with_reducible show wpAny _ _ (call (Value.ref 65) [Value.int _ _, Value.int _ _] _) _ _ _); (k_dflt (refine' Mine.idm_claim _ _ _ _ _ _ _ _ _ _ ?ok _ _ ?T9 ?hr _ _ _ _ _ _ _ _ _ _ _ _ _ _ _ _ _ ?B ?F ?X ?N ?T ?c1 ?c2 ?hk ?d ?u ?_; (case ok => assumption); (case B => k_asm); (case F => k_asm); (case X => k_asm); (case hr => assumption); (case N => k_asm); (case T => k_asm); (case T9 => assumption); (case c1 => assumption); (case c2 => assumption); (case hk => exact rfl); (case d => exact Nat.le_of_ble_eq_true rfl); (case u => exact Nat.le_of_ble_eq_true rfl); (intro D9 t9 u9 tabs9 h9 tk9 T9 F9 N9); (try dsimp only [List.cons_append] at N9); (try dsimp only); (try k_fold)))))
set_option maxRecDepth 100000 in
set_option maxHeartbeats 8000000 in
theorem turn : ∀ (w : World) (p : Program) (loose : List Str) (mean : ExcName → Option Value) (mg mb : Str → Option Value) (cell : Int) (tc : Tok) (ysF ysS : List Value) (DF DS : Addr) (o2 o3 : Obj) (own tabs : List (Addr × Obj)) (_ : Tabs tabs) (_ : IntsAre ysF firstL) (_ : IntsAre ysS secondL)
    (L fa : Addr) (cd : Value) (base h₀ : Heap) (m₀ : Str → Option Value) (s : Shared) (Q : Flow → Shared → Prop) (E : Value → Shared → Prop)
    (_ : o2.data = .cell (some (.ref DF))) (_ : o3.data = .cell (some (.ref DS))) (_ : Below callerA base [] h₀) (_ : Fr h₀ L s.heap (fun z => if z = Str.ofString "cell" then some (.int cell tc) else m₀ z)) (_ : (hd.heap_39 w.params).In h₀) (_ : News h₀ L s.heap ((L + 1 + 1, o2) :: (L + 1 + 1 + 1, o3) :: (DF, LCg.lst ysF) :: (DS, LCg.lst ysS) :: (own ++ tabs))) (_ : Top p loose mean mg mb h₀) (_ : CodeHd base 43 39) (_ : CodeHd base 50 46)
    (_ : ∀ q ∈ (L + 1 + 1, o2) :: (L + 1 + 1 + 1, o3) :: (DF, LCg.lst ysF) :: (DS, LCg.lst ysS) :: own, q.1 ≠ 46 ∧ q.1 ≠ 39)
    (_ : ∀ (m' : Str → Option Value) (tabs' : List (Addr × Obj)) (h' : Heap) (tk' : Nat), Tabs tabs' → Fr h₀ L h' m' → News h₀ L h' ((L + 1 + 1, o2) :: (L + 1 + 1 + 1, o3) :: (DF, LCg.lst ysF) :: (DS, LCg.lst ysS) :: (own ++ tabs')) → Q .next { s with heap := h', toks := tk' }),
    wpAny (model (RowW.prog (OpenRow.toRowW (OpenLaw.row PySem.Challenge.rw_ge0006_01))) w) (Around.deeper callerA (lawEnv L fa cd)) (execs forBody (lawEnv L fa cd)) Q E s := by
  k_fill
  w_top off
  intro w p loose mean mg mb cell tc ysF ysS DF DS o2 o3 own tabs hT hF hS L fa cd base h₀ m₀ s Q E ho2 ho3 B F X N T C43 C50 hne hret
  k_with_none
  have ok := turn_ok cell
  obtain ⟨lo, hi, rlo, rhi, sq1, sq2, idm, often, rest, both⟩ := ok
  dsimp only [cOf, rOf] at *
  unfold lawEnv lawScope forBody lawBody lawRec
  rw [show defOf hd.view_39 (Str.ofString "law") = some (_, _) from rfl]
  try simp only [List.drop]
  k_steps
  all_goals first
    | (refine' hret _ _ _ _ (by assumption) (by assumption) (cb_drop (by assumption) ?sub); exact fun p hp => List.mem_cons_of_mem _ (List.mem_cons_of_mem _ hp))
    | (exact (any012 (by assumption) (by assumption)).elim)
    | (exfalso; (simp only [bne_iff_ne, ne_eq, beq_iff_eq, decide_eq_true_eq, Bool.not_eq_true', not_or] at *); first | omega | (simp_all; done))
    | fail "an end"
end Mine
/-! part LP -/
namespace Mine
open PySem.Spec
theorem tabs_off {h₀ h : Heap} {L I l : Addr} {i : Nat} {it : Obj} {tabs : List (Addr × Obj)} (hT : Tabs tabs) (N : News h₀ L h tabs) (hI : h.get? I = some it) (hd : it.data = .fields #[.ref l, .int (i : Int) 0]) (h46 : I ≠ 46) (h39 : I ≠ 39) : ∀ p ∈ tabs, p.1 ≠ I := by
  rcases hT with rfl | ⟨c46, c39, o46, o39, vs46, vs39, t46, t39, rfl, d46, v46, d39, v39⟩
  · intro p hp
    rcases List.mem_cons.mp hp with rfl | hp
    · exact Ne.symm h46
    · rw [List.mem_singleton.mp hp]; exact Ne.symm h39
  · intro p hp
    rcases List.mem_cons.mp hp with rfl | hp1
    · exact Ne.symm h46
    · rcases List.mem_cons.mp hp1 with rfl | hp2
      · exact Ne.symm h39
      · rcases List.mem_cons.mp hp2 with rfl | hp3
        · intro e
          have h1 := (N _ hp).1
          rw [show (c46 : Addr) = I from e, hI] at h1
          cases h1
          rw [hd] at d46
          cases d46
          simp at v46
        · have e3 := List.mem_singleton.mp hp3
          subst e3
          intro e
          have h1 := (N _ hp).1
          rw [show (c39 : Addr) = I from e, hI] at h1
          cases h1
          rw [hd] at d39
          cases d39
          simp at v39
theorem tabs_46 {tabs : List (Addr × Obj)} (hT : Tabs tabs) : ∃ o, (46, o) ∈ tabs := by
  rcases hT with rfl | ⟨c46, c39, o46, o39, vs46, vs39, t46, t39, rfl, _⟩
  · exact ⟨_, .head _⟩
  · exact ⟨_, .head _⟩
theorem tabs_39 {tabs : List (Addr × Obj)} (hT : Tabs tabs) : ∃ o, (39, o) ∈ tabs := by
  rcases hT with rfl | ⟨c46, c39, o46, o39, vs46, vs39, t46, t39, rfl, _⟩
  · exact ⟨_, .tail _ (.head _)⟩
  · exact ⟨_, .tail _ (.head _)⟩
theorem tabs_in {h₀ h : Heap} {L : Addr} {tabs : List (Addr × Obj)} (hT : Tabs tabs) (N : News h₀ L h tabs) : (46 : Nat) < h.objs.size ∧ (39 : Nat) < h.objs.size := by
  obtain ⟨o, h1⟩ := tabs_46 hT
  obtain ⟨o', h2⟩ := tabs_39 hT
  exact ⟨Heap.lt_size (N _ h1).1, Heap.lt_size (N _ h2).1⟩
section
variable {prog : Program} {w : World} {A : Around} {E : Value → Shared → Prop} {s : Shared} {env : Env} {h₀ : Heap} {x : Str} {body : List Stmt} {Q : Flow → Shared → Prop}
theorem my_iter {l : Addr} {vs : List Value} {ns : List Int} {nn : Nat} {m₀ : Str → Option Value} {b4 tabs : List (Addr × Obj)}
    (hh : A.handled = none) (hi : IntsAre vs ns) (F : Fr h₀ env.locals s.heap m₀) (N : News h₀ env.locals s.heap ((l, W.listOf vs.toArray nn) :: (b4 ++ tabs))) (hT : Tabs tabs) (hne : l ≠ 46 ∧ l ≠ 39)
    (turn : ∀ (n : Int) (t : Tok) (m₁ : Str → Option Value) (own tabs₁ : List (Addr × Obj)) (h : Heap) (tk : Nat) (Q' : Flow → Shared → Prop), Tabs tabs₁ → (∀ q ∈ own, q.1 ≠ 46 ∧ q.1 ≠ 39) → Fr h₀ env.locals h (fun z => if z = x then some (.int n t) else m₁ z) → News h₀ env.locals h (b4 ++ (own ++ tabs₁)) →
      (∀ (m' : Str → Option Value) (tabs' : List (Addr × Obj)) (h' : Heap) (tk' : Nat), Tabs tabs' → Fr h₀ env.locals h' m' → News h₀ env.locals h' (b4 ++ (own ++ tabs')) → Q' .next { s with heap := h', toks := tk' }) →
      wpAny (model prog w) A (execs body env) Q' E { s with heap := h, toks := tk })
    (done : ∀ (m' : Str → Option Value) (tabs' : List (Addr × Obj)) (h' : Heap) (tk' : Nat), Tabs tabs' → Fr h₀ env.locals h' m' → News h₀ env.locals h' (b4 ++ tabs') → Q .next { s with heap := h', toks := tk' }) :
    wpAny (model prog w) A (pyIter (.ref l)) (fun it s₂ => LoopAtV prog w A h₀ env x body Q E it s₂) E s := by
  have hl := N _ (List.mem_cons_self ..)
  have NT : News h₀ env.locals s.heap tabs := cb_drop N fun p hp => List.mem_cons_of_mem _ (List.mem_append_right _ hp)
  have N4 : News h₀ env.locals s.heap b4 := cb_drop N fun p hp => List.mem_cons_of_mem _ (List.mem_append_left _ hp)
  have hin := tabs_in hT NT
  have hol : s.heap.get? l = some (W.listOf vs.toArray nn) := hl.1
  have hls : s.heap.IsList l vs.toArray := ⟨_, hol, rfl, nn, rfl⟩
  have hlI : l ≠ s.heap.objs.size := Nat.ne_of_lt (Heap.lt_size hol)
  have I46 : s.heap.objs.size ≠ 46 := Nat.ne_of_gt hin.1
  have I39 : s.heap.objs.size ≠ 39 := Nat.ne_of_gt hin.2
  refine wpAny_pyIter_list hls ?_
  have Wk := Walks.list (prog := prog) (w := w) hh s.heap.objs.size l hlI vs.toArray
  have hlen : vs.toArray.size = ns.length := by simp [hi.length]
  rw [hlen] at Wk
  refine ⟨_, _, _, ns.length, _, _, m₀, _, (fun _ _ nx => ∃ tb, Tabs tb ∧ nx = (l, W.listOf vs.toArray nn) :: (b4 ++ tb)), rfl, Wk, ?_, ?_, ?_, ⟨⟨_, Heap.get?_push_size _ rfl, rfl, rfl⟩, hls.at fun o e => Heap.get?_push_of_some _ e⟩, F.push _, (fun p hp => ⟨Heap.get?_push_of_some _ (N p hp).1, (N p hp).2⟩), ⟨tabs, hT, rfl⟩, ?_, ?_⟩
  · intro hm
    rcases List.mem_cons.mp hm with e | hm
    · exact absurd F.ns.lt (e ▸ Nat.lt_irrefl _)
    · exact hl.2.1 ((List.mem_singleton.mp hm).symm)
  · intro b hb
    rw [List.mem_singleton.mp hb]
    exact next_is_new F
  · intro p hp hI
    exact absurd (Heap.lt_size (N p hp).1) ((List.mem_singleton.mp hI) ▸ Nat.lt_irrefl _)
  · rintro i v m₁ news₁ s₁ own ⟨hh', tk', rfl⟩ hin' hP ⟨tb, hTb, rfl⟩ hoff hown hget hfp hst F₁ N₁
    have hlt' : i < ns.length := hin'
    obtain ⟨t, hx⟩ := hi.get i ns[i] (by simp [hlt'])
    have hv : v = .int ns[i] t := by
      have hP' : vs[i]? = some v := by simpa using hP
      rw [hx] at hP'; exact (Option.some.inj hP').symm
    subst hv
    obtain ⟨⟨it, hit, hic, hid⟩, _⟩ := hst
    have hlo : hh'.get? l = some (W.listOf vs.toArray nn) := (N₁ _ (List.mem_append.mpr (.inr (List.mem_cons_self ..)))).1
    have hmI : (s.heap.objs.size, it) ∈ own := hfp _ (List.mem_cons_self ..) (next_is_new F) _ hit
    have hml : (l, W.listOf vs.toArray nn) ∈ own := hfp l (List.mem_cons_of_mem _ (List.mem_singleton.mpr rfl)) hl.2.2 _ hlo
    have hownNe : ∀ q ∈ own, q.1 ≠ 46 ∧ q.1 ≠ 39 := fun q hq => by
      rcases List.mem_cons.mp (hown q hq) with e | e
      · rw [e]; exact ⟨I46, I39⟩
      · rw [List.mem_singleton.mp e]; exact hne
    have N₂ : News h₀ env.locals hh' (b4 ++ (own ++ tb)) := fun p hp => N₁ p (by
      rcases List.mem_append.mp hp with h | h
      · exact List.mem_append.mpr (.inr (List.mem_cons_of_mem _ (List.mem_append_left _ h)))
      · rcases List.mem_append.mp h with h | h
        · exact List.mem_append.mpr (.inl h)
        · exact List.mem_append.mpr (.inr (List.mem_cons_of_mem _ (List.mem_append_right _ h))))
    refine turn ns[i] t m₁ own tb hh' tk' _ hTb hownNe F₁ N₂ ?_
    intro m' tabs' h' tk2 hT' F' N'
    refine LoopStepV.next ⟨rfl, h', tk2, m', (l, W.listOf vs.toArray nn) :: (b4 ++ tabs'), rfl, F', ?_, ?_, tabs', hT', rfl⟩
    · intro p hp
      rcases List.mem_append.mp hp with h | h
      · exact N' p (List.mem_append_right _ (List.mem_append_left _ h))
      · rcases List.mem_cons.mp h with rfl | h
        · exact N' _ (List.mem_append_right _ (List.mem_append_left _ hml))
        · rcases List.mem_append.mp h with h | h
          · exact N' p (List.mem_append_left _ h)
          · exact N' p (List.mem_append_right _ (List.mem_append_right _ h))
    · intro p hp hI
      have hI' := List.mem_singleton.mp hI
      rcases List.mem_cons.mp hp with rfl | hp
      · exact hlI hI'
      · rcases List.mem_append.mp hp with h | h
        · exact absurd (Heap.lt_size (N4 p h).1) (by rw [hI']; exact Nat.lt_irrefl _)
        · exact tabs_off hT' (cb_drop N' fun q hq => List.mem_append_right _ (List.mem_append_right _ hq)) (N' _ (List.mem_append_right _ (List.mem_append_left _ hmI))).1 hid I46 I39 p h hI'
  · rintro h' tk m' news' F' N' _ ⟨tb, hTb, rfl⟩
    exact done m' tb h' tk hTb F' (cb_drop N' fun p hp => List.mem_cons_of_mem _ hp)
end
end Mine
/-! part T9 -/
namespace Mine
local macro_rules | `(tactic| k_steps) => `(tactic| repeat' (first | ((k_unfold; (try dsimp only))) | ((k_end; kc_close)) | (walk1; (try dsimp only)) | (dsimp only; walk1) | ((leave1; walk_say "STEP leave1"; (try dsimp only))) | fail "no step"))
theorem both_fit : (firstL ++ secondL).length ≤ 100 := by rw [List.length_append, firstL_len, secondL_len]; decide
theorem fs_fit : firstL.length + secondL.length ≤ sizeLine := by rw [firstL_len, secondL_len]; decide
theorem size_fit {vs : List Value} {ns : List Int} (hi : IntsAre vs ns) (h : ns.length ≤ 100) : vs.toArray.size ≤ sizeLine := by
  have e := hi.length
  rw [List.size_toArray, e, PySem.sizeLine_eq]
  omega
theorem first_last : firstL.getD 40 0 = 57 := by decide +kernel
theorem my_last {prog : Program} {w : World} {A : Around} {E : Value → Shared → Prop} {s : Shared} {h₀ : Heap} {L D : Addr} {news : List (Addr × Obj)} {ys : List Value} {u : Tok} {value slice : PySem.Expr} {Q : Value → Shared → Prop} (N : News h₀ L s.heap news) (hm : (D, LCg.lst ys) ∈ news) (hi : IntsAre ys firstL) (h : ∀ t, Q (.int 57 t) s)
    (hs : subscripted slice false (.ref D) (.int (-1) u) = operate [.ref D, .int (-1) u] (getItem (.ref D) (.int (-1) u)) := by with_unfolding_all rfl) :
    wpAny (model prog w) A (subscriptTail value slice (.ref D) (.int (-1) u)) Q E s := by
  have hl : s.heap.IsList D ys.toArray := News.isList N hm
  have hle := hi.length
  rw [firstL_len] at hle
  obtain ⟨t, e⟩ := hi.int_at 40 _ (List.getElem?_eq_getElem (by omega))
  rw [first_last] at e
  have e3 : ((-1 : Int) + ((ys.toArray.size : Nat) : Int)).toNat = 40 := by rw [List.size_toArray, hle]; rfl
  have e2 : ys.toArray[((-1 : Int) + ((ys.toArray.size : Nat) : Int)).toNat]? = some (.int 57 t) := by
    rw [e3, ← e]; simp only [List.getElem?_toArray]; exact List.getElem?_eq_getElem (by omega)
  exact tail_any hl.typeIs slot_list_getitem.lookup (wpAny_getItem_list_neg hl (by decide) (by rw [List.size_toArray, hle]; decide) (by decide) e2 (h t)) hs
theorem siev_perm : (rangeKs 1 57).Perm (List.foldl (fun l' k' => if k' ≤ 57 then l' ++ [k'] else l') [] (firstL ++ secondL)) := List.isPerm_iff.mp (by decide +kernel)
theorem range_sorted : (rangeKs 1 57).Pairwise (· ≤ ·) := by decide +kernel
theorem siev_len : (List.foldl (fun l' k' => if k' ≤ 57 then l' ++ [k'] else l') [] (firstL ++ secondL)).length < 64 := by
  rw [← siev_perm.length_eq, rangeKs_length]; decide
theorem my_sorted {prog : Program} {w : World} {A : Around} {E : Value → Shared → Prop} {s : Shared} {h₀ : Heap} {L l : Addr} {m : Str → Option Value} {news : List (Addr × Obj)} {ys : List Value} {Q : Value → Shared → Prop} (F : Fr h₀ L s.heap m) (N : News h₀ L s.heap news) (hm : (l, LCg.lst ys) ∈ news) (hi : IntsAre ys (List.foldl (fun l' k' => if k' ≤ 57 then l' ++ [k'] else l') [] (firstL ++ secondL)))
    (h : ∀ D vs' c h', Fr h₀ L h' m → News h₀ L h' ((D, W.listOf (List.toArray vs') c) :: news) → (∀ q ∈ news, q.1 < D) → IntsAre vs' (rangeKs 1 57) → Q (.ref D) { s with heap := h' }) : wpAny (model prog w) A (call (.builtin "sorted") [.ref l]) Q E s :=
  kso_sorted F N (News.isList N hm) hi siev_len fun D vs' ns' c h' F' N' l1 hi' _ hp ho _ => h D vs' c h' F' N' l1 (ksm_same (hp.trans siev_perm.symm) ho range_sorted ▸ hi')
local macro_rules | `(tactic| walk_at "call builtin:sorted") => `(tactic| (k_here; (with_reducible show wpAny _ _ (call (Value.builtin "sorted") [Value.ref _]) _ _ _); k_dflt (refine' my_sorted ?F ?N ?m ?I ?_; (case F => k_asm); (case N => k_asm); (case m => k_mem); (case I => assumption); k_whole; intro D' v' c' h' F' N' l1 i'; (try k_lt l1))))
local macro_rules | `(tactic| walk_at "subscriptTail Name") => `(tactic| (k_here; (with_reducible show wpAny _ _ (subscriptTail _ _ (Value.ref _) (Value.int (-1) _)) _ _ _); k_dflt (refine' my_last ?N ?m ?I ?_; (case N => k_asm); (case m => k_mem); (case I => assumption); k_whole; intro t9)))
local macro_rules | `(tactic| walk_at "eval ListComp Name cons") => `(tactic| (k_here; (k_dflt (refine LCt.ListComp_T (F₀ := by k_asm) (by with_unfolding_all rfl) (by decide) (by rfl) (by decide) (by rfl) ?_))))
local macro_rules | `(tactic| walk_at "binaryOp Add ref ref") => `(tactic| (k_here; (with_reducible show wpAny _ _ (binaryOp _ (Value.ref _) (Value.ref _)) _ _ _); (k_dflt (refine' kmk_add_ints ?F ?N ?a ?b ?i ?j ?_ ?z; (case F => k_asm); (case N => k_asm); (case a => kmk_list); (case b => kmk_list); (case i => assumption); (case j => assumption); (case z => exact fs_fit))); intro D' ws' h' F' N' l1 hI'; (try k_lt l1)))
local macro_rules | `(tactic| walk_at "CompSrcT") => `(tactic| (k_here; (k_dflt (refine LCt.CompSrcT.ledger (by rfl) (by k_asm) (by k_asm) (by k_mem) (size_fit (by assumption) both_fit) ?_; intro g'; (refine' kci_list _ (by assumption) (fun k' t' I' oI' C' oC' D' m' ys' l' h' tk' E' hk' hI' hC' hx' F' N' off' ne' => ?_) ?_ ?_); (all_goals (try ((show KPfMark → _); intro hMark'))); kcf_last))))
local macro_rules | `(tactic| walk_at "CompEnd") => `(tactic| (k_dflt (first
  | refine LCg.CompEnd.intro (by k_asm) (by k_asm) _ (fun _ hp => hp) (by first | assumption | (simp only [LCg.Off3, and_true]; assumption)) (by first | exact True.intro | exact Or.inr ⟨_, by k_mem, rfl, _, rfl⟩) ?_
  | refine LCg.CompEnd.intro (by k_asm) (by k_asm) _ (fun _ hp => List.mem_cons_of_mem _ hp) (by first | assumption | (simp only [LCg.Off3, and_true]; assumption)) (by first | exact True.intro | exact Or.inr ⟨_, by k_mem, rfl, _, rfl⟩) ?_
  | refine LCg.CompEnd.intro (by k_asm) (by k_asm) _ (fun _ hp => List.mem_cons_of_mem _ (List.mem_cons_of_mem _ hp)) (by first | assumption | (simp only [LCg.Off3, and_true]; assumption)) (by first | exact True.intro | exact Or.inr ⟨_, by k_mem, rfl, _, rfl⟩) ?_)))
theorem i_lo {k : Int} (h : 1 ≤ k) : 0 ≤ k := by omega
theorem i_lo1 {k : Int} (h : 1 ≤ k) : 0 ≤ k - 1 := by omega
theorem i_hiF {k : Int} (h : k < 1 + ((Int.toNat (41 - 1) : Nat) : Int)) : k < (firstL.length : Nat) := by rw [firstL_len]; omega
theorem i_hiF1 {k : Int} (h : k < 1 + ((Int.toNat (41 - 1) : Nat) : Int)) : k - 1 < (firstL.length : Nat) := by rw [firstL_len]; omega
theorem i_hiS {k : Int} (h : k < 1 + ((Int.toNat (41 - 1) : Nat) : Int)) : k < (secondL.length : Nat) := by rw [secondL_len]; omega
theorem i_hiS1 {k : Int} (h : k < 1 + ((Int.toNat (41 - 1) : Nat) : Int)) : k - 1 < (secondL.length : Nat) := by rw [secondL_len]; omega
local macro_rules | `(tactic| walk_at "subscriptTail Name Name ref int") => `(tactic| (k_here; (with_reducible show wpAny _ _ (subscriptTail _ _ (Value.ref _) (Value.int _ _)) _ _ _); k_dflt (refine' Mine.my_item ?N ?m ?I ?k0 ?k1 ?k2 ?_; (case N => k_asm); (case m => k_mem); (case I => assumption); (case k0 => exact i_lo (by assumption)); (case k1 => first | exact i_hiF (by assumption) | exact i_hiS (by assumption)); (case k2 => first | exact first_fit | exact second_fit); k_whole; intro t9)))
local macro_rules | `(tactic| walk_at "subscriptTail Name BinOp ref int") => `(tactic| (k_here; (with_reducible show wpAny _ _ (subscriptTail _ _ (Value.ref _) (Value.int _ _)) _ _ _); k_dflt (refine' Mine.my_item ?N ?m ?I ?k0 ?k1 ?k2 ?_; (case N => k_asm); (case m => k_mem); (case I => assumption); (case k0 => exact i_lo1 (by assumption)); (case k1 => first | exact i_hiF1 (by assumption) | exact i_hiS1 (by assumption)); (case k2 => first | exact first_fit | exact second_fit); k_whole; intro t9)))
theorem my_ne {prog : Program} {w : World} {A : Around} {E : Value → Shared → Prop} {s : Shared} {h₀ : Heap} {L a b : Addr} {news : List (Addr × Obj)} {vs us : List Value} {ns : List Int} {c d : Nat} {Q : Value → Shared → Prop} (N : News h₀ L s.heap news) (ha : (a, W.listOf (List.toArray vs) c) ∈ news) (hb : (b, W.listOf (List.toArray us) d) ∈ news) (hi : IntsAre vs ns) (hj : IntsAre us ns) (hu : A.units + 64 < cLine) (h : Q (.bool false) s) :
    wpAny (model prog w) A (compareOp .NotEq (.ref a) (.ref b)) Q E s :=
  ne_intsK (News.isList N ha) hi (News.isList N hb) hj hu (by simpa using h)
local macro_rules | `(tactic| walk_at "compareOp NotEq ref ref") => `(tactic| (k_here; (with_reducible show wpAny _ _ (compareOp CmpOp.NotEq (Value.ref _) (Value.ref _)) _ _ _); (k_dflt (refine' my_ne ?N ?a ?b ?i ?j ?u ?_; (case N => k_asm); (case a => k_mem); (case b => k_mem); (case i => assumption); (case j => assumption); (case u => exact Nat.le_of_ble_eq_true rfl); k_whole))))
local macro_rules | `(tactic| walk_at "call type:list") => `(tactic| (k_here; (with_reducible show wpAny _ _ (call (Value.type _) [Value.ref _]) _ _ _); (rename IsRange _ _ _ _ _ _ _ _ => rgX); (with_unfolding_all refine' kll_range (n := 57) ?k0 ?k1 ?k2 ?k3 ?k4 ?k5 ?k6 ?_; (case k0 => rfl); (case k1 => k_asm); (case k2 => k_asm); (case k3 => first | exact rgX | assumption); (case k4 => decide); (case k5 => rfl); (case k6 => decide); k_whole); intro D' vs' c' h' tk' F' N' l1 hI'; (try k_lt l1)))
theorem my_For {prog : Program} {w : World} {A : Around} {s : Shared} {env : Env} {h₀ : Heap} {m : Str → Option Value} {E : Value → Shared → Prop} {Q : Flow → Shared → Prop} {x : Str} {px pos : Pos} {iter : PySem.Expr} {body : List Stmt} (_F : Fr h₀ env.locals s.heap m) (hx : env.kindOf x = some .local)
    (hp : (env.scope.kind == .class || (env.scope.kind == .module && env.locals != env.globals)) = false)
    (h : wpAny (model prog w) A (eval iter env) (fun xv s₁ => wpAny (model prog w) A (pyIter xv) (fun it s₂ => LoopAtV prog w A h₀ env x body Q E it s₂) E s₁) E s)
    (hs : ∀ x, foldedSetIterable iter env x = pure x) (hE : PassesOwn (model prog w) A env E) : wpAny (model prog w) A (exec (.For (.Name x px) iter body [] pos) env) Q E s := For_invV h₀ hx hp h hs hE
local macro_rules | `(tactic| walk_at "exec For Name Subscript cons nil") => `(tactic| (k_here; (k_dflt (refine my_For (by k_asm) (by rfl) (by rfl) ?_ (by intro _; rfl) (by assumption)))))
theorem size63 {vs : List Value} {ns : List Int} (hi : IntsAre vs ns) (h : ns.length ≤ 63) : vs.toArray.size ≤ sizeLine := by
  have e := hi.length
  rw [List.size_toArray, e, PySem.sizeLine_eq]
  omega
local macro_rules | `(tactic| walk_at "subscriptTail Name Slice ref ref") => `(tactic| (k_here; (with_reducible show wpAny _ _ (subscriptTail _ (PySem.Expr.Slice _ _ none _) (Value.ref _) (Value.ref _)) _ _ _); (k_dflt (refine' kmk_slice_ints (s := ⟨_, _, _, _, _⟩) ?F ?N ?l ?p ?q ?i ?m ?c ?_ ?s ?t ?z; (case F => k_asm); (case N => k_asm); (case l => kmk_list); (case p => kmk_part); (case q => kmk_part); (case i => assumption); (case m => exact kmk_upto (by assumption) (by decide)); (case c => rfl); (case s => with_unfolding_all rfl); (case t => kmk_pure); (case z => exact size63 (by assumption) (by assumption)))); intro D' ws' h' F' N' l1 hI' hC' hL'; (try k_lt l1)))
local macro_rules | `(tactic| walk_at "pyIter ref") => `(tactic| (k_extra "pyIter ref"))
set_option maxRecDepth 100000 in
set_option maxHeartbeats 8000000 in
theorem tail4 : ∀ (w : World) (p : Program) (loose : List Str) (mean : ExcName → Option Value) (mg mb : Str → Option Value) (vs : List Value) (script : List Int) (S : Addr) (ysF ysS : List Value) (DF DS : Addr) (o2 o3 : Obj) (_ : IntsAre vs script) (_ : script.length ≤ 63) (_ : IntsAre ysF firstL) (_ : IntsAre ysS secondL)
    (L fa : Addr) (cd : Value) (h₀ : Heap) (s : Shared) (Q : Flow → Shared → Prop) (E : Value → Shared → Prop) (_ : h₀.IsList S vs.toArray)
    (_ : o2.data = .cell (some (.ref DF))) (_ : o3.data = .cell (some (.ref DS))) (_ : Below callerA h₀ [] h₀) (_ : Fr h₀ L s.heap (bindL (Env.kindOf (lawEnv L fa cd)) [(Str.ofString "script", .ref S)] fun _ => none)) (_ : (hd.heap_39 w.params).In h₀)
    (_ : News h₀ L s.heap [(L + 1 + 1, o2), (L + 1 + 1 + 1, o3), (DF, LCg.lst ysF), (DS, LCg.lst ysS), (46, tabObj #[]), (39, tabObj #[])]) (_ : Top p loose mean mg mb h₀) (_ : CodeHd h₀ 43 39) (_ : CodeHd h₀ 50 46)
    (_ : ∀ q ∈ [(L + 1 + 1, o2), (L + 1 + 1 + 1, o3), (DF, LCg.lst ysF), (DS, LCg.lst ysS)], q.1 ≠ 46 ∧ q.1 ≠ 39)
    (_ : PassesOwn (model (RowW.prog (OpenRow.toRowW (OpenLaw.row PySem.Challenge.rw_ge0006_01))) w) (Around.deeper callerA (lawEnv L fa cd)) (lawEnv L fa cd) E)
    (_ : ∀ (m' : Str → Option Value) (tabs' : List (Addr × Obj)) (h' : Heap) (tk' : Nat), Tabs tabs' → Fr h₀ L h' m' → News h₀ L h' tabs' → Q (.ret (.bool true)) { s with heap := h', toks := tk' }),
    wpAny (model (RowW.prog (OpenRow.toRowW (OpenLaw.row PySem.Challenge.rw_ge0006_01))) w) (Around.deeper callerA (lawEnv L fa cd)) (execs (lawBody.drop 4) (lawEnv L fa cd)) Q E s := by
  k_fill
  w_top off
  intro w p loose mean mg mb vs script S ysF ysS DF DS o2 o3 hI hlen hF hS L fa cd h₀ s Q E hSl ho2 ho3 B F X N T C43 C50 hne hpass hret
  k_with_none
  (k_with "pyIter ref" => (
    refine' my_iter (b4 := [(L + 1 + 1, o2), (L + 1 + 1 + 1, o3), (DF, LCg.lst ysF), (DS, LCg.lst ysS)]) (tabs := [(46, tabObj #[]), (39, tabObj #[])]) ?hh ?hi ?F ?N ?T ?ne ?turn ?_
    case hh => rfl
    case F => k_asm
    case N => exact cb_drop (by assumption) (List.forall_mem_cons.mpr ⟨List.Mem.head _, fun _ hp => .tail _ (.tail _ (.tail _ (.tail _ (.tail _ (.tail _ (.tail _ hp))))))⟩)
    case hi => assumption
    case T => exact .inl rfl
    case ne => exact ⟨by k_ne, by k_ne⟩
    case turn =>
      intro n t m₁ own tabs₁ h tk Q' hT1 hown F1 N1 hret1
      exact turn w p loose mean mg mb n t ysF ysS DF DS o2 o3 own tabs₁ hT1 hF hS L fa cd h₀ h₀ m₁ _ Q' E ho2 ho3 B F1 X N1 T C43 C50 (fun q hq => (List.mem_append.mp (show q ∈ [(L + 1 + 1, o2), (L + 1 + 1 + 1, o3), (DF, LCg.lst ysF), (DS, LCg.lst ysS)] ++ own from hq)).elim (hne q) (hown q)) hret1
    intro m9 tabs9 h9 tk9 T9 F9 N9
    try dsimp only))
  unfold lawEnv lawScope lawBody lawRec at *
  rw [show defOf hd.view_39 (Str.ofString "law") = some (_, _) from rfl] at *
  try simp only [List.drop] at *
  k_steps
  all_goals first
    | exact hret _ _ _ _ (by assumption) (by assumption) (cb_drop (by assumption) (fun _ hp => .tail _ (.tail _ (.tail _ (.tail _ hp)))))
    | skip
end Mine
/-! part M1 -/
namespace Mine
theorem len_map_range {f : Int → Int} {a : Int} {n N : Nat} (h : n < N) : (List.map f (rangeKs a n)).length < N := by rw [List.length_map, rangeKs_length]; exact h
theorem idx_hi {f : Int → Int} {a k : Int} {n : Nat} (h : k < n) : k < ((List.map f (rangeKs a n)).length : Nat) := by rw [List.length_map, rangeKs_length]; exact h
theorem at0 {k N : Int} (h : k < 0 + N) : k < N := by omega
theorem at1 {k N : Int} (h : k < 1 + N) : k - 1 < N := by omega
theorem low1 {k : Int} (h : 1 ≤ k) : 0 ≤ k - 1 := by omega
theorem len63 {l : List Int} (h : ¬ ((63 : Nat) : Int) < ((l.length : Nat) : Int)) : l.length ≤ 63 := by omega
local macro_rules | `(tactic| k_steps) => `(tactic| repeat' (first | ((k_unfold; (try dsimp only))) | ((k_end; kc_close)) | (walk1) | (dsimp only; walk1) | ((leave1; walk_say "STEP leave1"; (try dsimp only))) | fail "no step"))
local macro_rules | `(tactic| walk_at "subscriptTail Name Name ref int") => `(tactic| (k_here; (with_reducible show wpAny _ _ (subscriptTail _ _ (Value.ref _) (Value.int _ _)) _ _ _); k_dflt (refine' Mine.my_item ?N ?m ?I ?k0 ?k1 ?k2 ?_; (case N => k_asm); (case m => k_mem); (case I => assumption); (case k0 => (first | assumption | exact Mine.low1 (by assumption))); (case k1 => (refine Mine.idx_hi ?_; (first | exact Mine.at0 (by assumption) | exact Mine.at1 (by assumption)))); (case k2 => exact Mine.len_map_range (by decide)); k_whole; intro t9)))
local macro_rules | `(tactic| walk_at "subscriptTail Name BinOp ref int") => `(tactic| (k_here; (with_reducible show wpAny _ _ (subscriptTail _ _ (Value.ref _) (Value.int _ _)) _ _ _); k_dflt (refine' Mine.my_item ?N ?m ?I ?k0 ?k1 ?k2 ?_; (case N => k_asm); (case m => k_mem); (case I => assumption); (case k0 => (first | assumption | exact Mine.low1 (by assumption))); (case k1 => (refine Mine.idx_hi ?_; (first | exact Mine.at0 (by assumption) | exact Mine.at1 (by assumption)))); (case k2 => exact Mine.len_map_range (by decide)); k_whole; intro t9)))
local macro_rules | `(tactic| walk_at "call ref cons nil") => `(tactic| (k_here; (with_reducible show wpAny _ _ (call (Value.ref 23) [Value.ref _, Value.int _ _] _) _ _ _); k_dflt (refine' Mine.bis_claim _ _ _ _ _ _ _ _ _ _ _ _ ?I ?fit ?m _ _ _ _ _ _ _ _ _ _ _ _ _ _ _ _ _ ?B ?F ?X ?N ?T ?hk ?d ?u ?_; (case B => k_asm); (case F => k_asm); (case X => k_asm); (case N => k_asm); (case T => k_asm); (case hk => exact rfl); (case m => k_mem); (case I => assumption); (case fit => exact Mine.len_map_range (by decide)); (case d => exact Nat.le_of_ble_eq_true rfl); (case u => exact Nat.le_of_ble_eq_true rfl); (intro t9 h9 tk9 F9 N9); (try dsimp only); (try k_fold))))
local macro_rules | `(tactic| walk_at "CompEnd") => `(tactic| (k_dflt (first
  | refine LCg.CompEnd.intro (by k_asm) (by k_asm) _ (fun _ hp => hp) (by first | assumption | (simp only [LCg.Off3, and_true]; assumption)) (by first | exact True.intro | exact Or.inr ⟨_, by k_mem, rfl, _, rfl⟩) ?_
  | refine LCg.CompEnd.intro (by k_asm) (by k_asm) _ (fun _ hp => List.mem_cons_of_mem _ hp) (by first | assumption | (simp only [LCg.Off3, and_true]; assumption)) (by first | exact True.intro | exact Or.inr ⟨_, by k_mem, rfl, _, rfl⟩) ?_)))
theorem grown {h₀ h : Heap} {L : Addr} {tabs : List (Addr × Obj)} (hT : Tabs tabs) (N : News h₀ L h tabs) : GrownAll [(50, 46), (43, 39)] h := by
  rcases hT with rfl | ⟨c46, c39, o46, o39, vs46, vs39, t46, t39, rfl, _⟩
  · exact ⟨⟨_, (N _ (.head _)).1⟩, ⟨_, (N _ (.tail _ (.head _))).1⟩, trivial⟩
  · exact ⟨⟨_, (N _ (.head _)).1⟩, ⟨_, (N _ (.tail _ (.head _))).1⟩, trivial⟩
local macro_rules | `(tactic| walk_at "GrownAll") => `(tactic| (k_dflt (exact grown (by assumption) (by assumption))))
local macro_rules | `(tactic| walk_at "execs cons Assign cons") => `(tactic| (k_here; (k_dflt (((refine' Mine.tail4 _ _ _ _ _ _ _ _ _ _ _ _ _ _ _ ?hI ?hlen ?hF ?hS _ _ _ _ _ _ _ ?hSl ?ho2 ?ho3 ?B ?F ?X (cb_drop ?N (List.forall_mem_cons.mpr ⟨?s1, List.forall_mem_cons.mpr ⟨?s2, List.forall_mem_cons.mpr ⟨?s3, List.forall_mem_cons.mpr ⟨?s4, List.forall_mem_cons.mpr ⟨?s5, List.forall_mem_cons.mpr ⟨?s6, List.forall_mem_nil _⟩⟩⟩⟩⟩⟩)) ?T ?c1 ?c2 ?hne ?hp ?_)); (case F => (first | k_asm | fail "F")); (case B => (first | k_asm | fail "B")); (case X => (first | k_asm | fail "X")); (case hSl => (first | k_asm | fail "hSl")); (case hI => (first | assumption | fail "hI")); (case hlen => (first | exact len63 (by assumption) | fail "hlen")); (case N => (first | assumption | fail "N")); (case s1 => (first | k_mem | fail "s1")); (case s2 => (first | k_mem | fail "s2")); (case ho2 => (first | assumption | fail "ho2")); (case ho3 => (first | assumption | fail "ho3")); (case s3 => (first | k_mem | fail "s3")); (case s4 => (first | k_mem | fail "s4")); (case s5 => (first | k_mem | fail "s5")); (case s6 => (first | k_mem | fail "s6")); (case hF => (first | assumption | fail "hF")); (case hS => (first | assumption | fail "hS")); (case T => (first | k_asm | fail "T")); (case c1 => (first | assumption | fail "c1")); (case c2 => (first | assumption | fail "c2")); (case hne => ((refine List.forall_mem_cons.mpr ⟨⟨by k_ne, by k_ne⟩, List.forall_mem_cons.mpr ⟨⟨by k_ne, by k_ne⟩, List.forall_mem_cons.mpr ⟨⟨by k_ne, by k_ne⟩, List.forall_mem_cons.mpr ⟨⟨by k_ne, by k_ne⟩, List.forall_mem_nil _⟩⟩⟩⟩))); (case hp => (first | passes_own | fail "hp")); (intro m9 tabs9 h9 tk9 T9 F9 N9)))))
set_option maxRecDepth 100000 in
set_option maxHeartbeats 8000000 in
theorem main : PySem.Challenge.rw_ge0006_01.Holds := hd (by
  k_with_none
  k_go0
  all_goals try k_fold
  k_steps
  skip)
end Mine
theorem PySem.Challenge.cw_ge0006_01_holds : PySem.Challenge.rw_ge0006_01.Holds := by
  exact Mine.main
