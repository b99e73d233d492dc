import PyProof.Rows.All
import Wide.All
import OpenK.AllK
import Wide.FinOn
import PySem.Challenge.RW_pu0025_02
set_option Elab.async false
section
open PySem PySem.W PySem.W.X PyProof.Rows
namespace Mine02
set_option maxRecDepth 100000
set_option maxHeartbeats 8000000
/-- four objects of the start-up beside what the head says -/
noncomputable def boots (P : Params) : Frag := [(0, boot_o_0 P), (1, boot_o_1 P), (4, boot_o_4 P), (5, boot_o_5 P)]
theorem boots_of {P : Params} {h : Heap} (e : [0, 1, 4, 5].map h.get? = (boots P).map fun p => some p.2) : (boots P).In h := by
  have e' : [h.get? 0, h.get? 1, h.get? 4, h.get? 5] = [some (boot_o_0 P), some (boot_o_1 P), some (boot_o_4 P), some (boot_o_5 P)] := e
  simp only [List.cons.injEq, and_true] at e'
  intro a o ho
  simp only [boots, List.lookup_cons] at ho
  repeat' split at ho
  all_goals simp_all
noncomputable def bootHook (H : Hook) : Hook where
  α := H.α × List (Option Obj)
  obs := fun s => (H.obs s, [0, 1, 4, 5].map s.heap.get?)
  val := fun w => (H.val w, (boots w.params).map fun p => some p.2)
  says := fun w h => H.says w h ∧ (boots w.params).In h
  of := fun w s x => ⟨H.of w s (Prod.mk.inj x).1, boots_of (Prod.mk.inj x).2⟩
  keeps := fun w h h' x k => ⟨H.keeps w h h' x.1 k, fun a o e => k _ _ (x.2 a o e)⟩
/-- the statements of the text that the claim's own def hangs on -/
noncomputable def view : Program := { PySem.Challenge.rw_pu0025_02.row.prog with main := { PySem.Challenge.rw_pu0025_02.row.prog.main with body := [0, 2, 3, 6, 7, 9, 10, 11, 12, 13, 14, 21, 22, 23, 25, 26, 27].map fun i => PySem.Challenge.rw_pu0025_02.row.prog.main.body.getD i (.Pass default) } }
noncomputable def loose : List PySem.Str := [PySem.Str.ofString "_initial_missing", PySem.Str.ofString "reduce", PySem.Str.ofString "bytes_types", PySem.Str.ofString "a2b_base64", PySem.Str.ofString "b2a_base64", PySem.Str.ofString "b64encode", PySem.Str.ofString "b64decode"]
local macro_rules | `(tactic| o_law) => `(tactic| refine holds_law (by kernel_rfl) fun said => ?_)
local macro_rules | `(tactic| o_head ($f:term $as*)) => `(tactic| refine holds_open (q := view) (loose := loose) (Xt := fun s => xlAt view [] s && recOk (RowW.records (OpenRow.toRowW (OpenLaw.row PySem.Challenge.rw_pu0025_02))) s) (XP := XL view []) (Yf := Hook.obs (bootHook <| $f $as*)) (Ya := Hook.val (bootHook <| $f $as*)) (YP := Hook.says (bootHook <| $f $as*)) (N := 2166) (by intro w; kernel_rfl) (Hook.of (bootHook <| $f $as*)) (Hook.keeps (bootHook <| $f $as*)) (fun s e => xl_of s (Bool.and_eq_true_iff.mp e).1) XL.keeps (by rfl) (by rfl) (by rfl) (fun s e => recFacts_of (Bool.and_eq_true_iff.mp e).2) (by rfl) (by first | assumption | decide +kernel) (by decide +kernel) ⟨rfl, rfl, rfl, rfl, rfl, by decide +kernel⟩ ?hw ?hc)
open_top hd for PySem.Challenge.rw_pu0025_02
end Mine02
end
open PySem PySem.W PyProof.Rows PySem.Spec PySem.Calls
local macro_rules | `(tactic| k_ne) => `(tactic| (refine neN ?_; (try dsimp only); first | (simp only [*, Nat.ne_of_lt, Nat.ne_of_gt, ne_eq, not_false_eq_true]; done) | (refine Ne.symm ?_; simp only [*, ne_eq, not_false_eq_true]; done)))
section
open PySem PySem.W PyProof.Rows PySem.Spec PySem.Calls
set_option maxRecDepth 100000
namespace Mine
/-- the common signs -/
def B64s : List UInt8 := [65, 66, 67, 68, 69, 70, 71, 72, 73, 74, 75, 76, 77, 78, 79, 80, 81, 82, 83, 84, 85, 86, 87, 88, 89, 90, 97, 98, 99, 100, 101, 102, 103, 104, 105, 106, 107, 108, 109, 110, 111, 112, 113, 114, 115, 116, 117, 118, 119, 120, 121, 122, 48, 49, 50, 51, 52, 53, 54, 55, 56, 57, 43, 47]
def sgB (i : Int) : UInt8 := B64s.getD i.toNat 0
def sg (i : Int) : Int := ((sgB i).toNat : Int)
theorem sg_bounds (i : Int) : 0 ≤ sg i ∧ sg i < 256 := by
  have := (sgB i).toNat_lt
  unfold sg
  lia
section
variable {prog : Program} {w : World} {A : Around} {E Q : Value → Shared → Prop} {s : Shared} {value slice : PySem.Expr} {t u : Tok} {x : Int}
theorem b64_at (h0 : 0 ≤ x) (h1 : x < 64) (h : Q (.int (sg x) s.toks) { s with toks := s.toks + 1 })
    (hs : subscripted slice false (.bytes B64s.toArray t) (.int x u) = operate [.bytes B64s.toArray t, .int x u] (getItem (.bytes B64s.toArray t) (.int x u)) := by with_unfolding_all rfl) :
    wpAny (model prog w) A (subscriptTail value slice (.bytes B64s.toArray t) (.int x u)) Q E s :=
  tail_any (typeIs_bytes s _ t) FB.slot_bytes_getitem.lookup (getItem_bytes (by decide) h0 h1 h) hs
theorem b64_item (h : Q (.int (sg (x % 64)) s.toks) { s with toks := s.toks + 1 })
    (hs : subscripted slice false (.bytes B64s.toArray t) (.int (x % 64) u) = operate [.bytes B64s.toArray t, .int (x % 64) u] (getItem (.bytes B64s.toArray t) (.int (x % 64) u)) := by with_unfolding_all rfl) :
    wpAny (model prog w) A (subscriptTail value slice (.bytes B64s.toArray t) (.int (Builtin.bitAnd x 63) u)) Q E s := by
  rw [bitAnd_m6]
  exact b64_at (by lia) (by lia) h hs
end
theorem and_free : ∀ (n : Nat) (a b : Int), 0 ≤ b → b < 2 ^ n → Builtin.bitAnd (a * 2 ^ n) b = 0
  | 0, a, b, h0, h1 => by
    have : b = 0 := by rw [Int.pow_zero] at h1; lia
    rw [this]
    have := bitAnd_range (a * 2 ^ 0) (Int.le_refl 0)
    lia
  | n + 1, a, b, h0, h1 => by
    have e : (2 : Int) ^ (n + 1) = 2 ^ n * 2 := Int.pow_succ ..
    rw [e] at h1 ⊢
    have e2 : a * (2 ^ n * 2) = a * 2 ^ n * 2 := by rw [Int.mul_assoc]
    rw [e2, kbt_halves]
    have e3 : a * 2 ^ n * 2 / 2 = a * 2 ^ n := Int.mul_ediv_cancel _ (by decide)
    rw [e3, and_free n a (b / 2) (by lia) (by lia), if_neg (by lia)]
    rfl
theorem or_free (n : Nat) (a b : Int) (h0 : 0 ≤ b) (h1 : b < 2 ^ n) : Builtin.bitOr (a * 2 ^ n) b = a * 2 ^ n + b := by
  rw [bitOr_and, and_free n a b h0 h1]; lia
section
variable {prog : Program} {w : World} {A : Around} {E Q : Value → Shared → Prop} {s : Shared} {t u : Tok} {x y z : Int}
theorem and_to (e : Builtin.bitAnd x y = z) (h : Q (.int z s.toks) { s with toks := s.toks + 1 }) : wpAny (model prog w) A (binaryOp .BitAnd (.int x t) (.int y u)) Q E s := by
  subst e; exact and_int h
theorem or_to (e : Builtin.bitOr x y = z) (h : Q (.int z s.toks) { s with toks := s.toks + 1 }) : wpAny (model prog w) A (binaryOp .BitOr (.int x t) (.int y u)) Q E s := by
  subst e; exact or_int h
theorem shl_to (c : Int) (k : Nat) (hy : y = k) (hk : (2 : Int) ^ k = c) (hb : k ≤ 1000000) (h1 : x.natAbs < 2 ^ 64) (h : Q (.int (x * c) s.toks) { s with toks := s.toks + 1 }) : wpAny (model prog w) A (binaryOp .LShift (.int x t) (.int y u)) Q E s := by
  subst hy hk; exact lshift_int_small (by lia) (by lia) h1 h
theorem shr_to (c : Int) (k : Nat) (hy : y = k) (hk : (2 : Int) ^ k = c) (h : Q (.int (x / c) s.toks) { s with toks := s.toks + 1 }) : wpAny (model prog w) A (binaryOp .RShift (.int x t) (.int y u)) Q E s := by
  subst hy hk
  refine rshift_int (by lia) ?_
  rw [Int.fdiv_eq_ediv_of_nonneg _ (by exact Int.le_of_lt (kbt_pos _))]
  exact h
end
theorem u8_lt (b : UInt8) : (b.toNat : Int) < 256 := by have := b.toNat_lt; lia
theorem or8 (a b : Int) (h0 : 0 ≤ b) (h1 : b < 256) : Builtin.bitOr (a * 256) b = a * 256 + b := or_free 8 a b h0 h1
theorem or6 (a b : Int) (h0 : 0 ≤ b) (h1 : b < 64) : Builtin.bitOr (a * 64) b = a * 64 + b := or_free 6 a b h0 h1
theorem or4 (a b : Int) (h0 : 0 ≤ b) (h1 : b < 16) : Builtin.bitOr (a * 16) b = a * 16 + b := or_free 4 a b h0 h1
theorem or2 (a b : Int) (h0 : 0 ≤ b) (h1 : b < 4) : Builtin.bitOr (a * 4) b = a * 4 + b := or_free 2 a b h0 h1
theorem sg_back (i : Int) : (sg i).toNat.toUInt8 = sgB i := by
  unfold sg
  rw [Int.toNat_natCast]
  exact UInt8.ofNat_toNat
/-- the writing of three octets -/
def enc3 (b0 b1 b2 : UInt8) : List UInt8 :=
  [sgB ((b0.toNat : Int) / 4 % 64), sgB (((b0.toNat : Int) * 256 + b1.toNat) / 16 % 64), sgB (((b1.toNat : Int) * 256 + b2.toNat) / 64 % 64), sgB ((b2.toNat : Int) % 64)]
end Mine
end
section
open PySem PySem.W PyProof.Rows PySem.Spec PySem.Calls
set_option maxRecDepth 100000
namespace Mine
/-- all that stood stands -/
def Keeps (h h' : Heap) : Prop := ∀ b o, h.get? b = some o → h'.get? b = some o
theorem Keeps.refl (h : Heap) : Keeps h h := fun _ _ e => e
theorem Keeps.trans {a b c : Heap} (x : Keeps a b) (y : Keeps b c) : Keeps a c := fun p o e => y p o (x p o e)
theorem keepsFr {h₀ h h' : Heap} {L : Addr} {m : Str → Option Value} (F : Fr h₀ L h m) (k : Keeps h h') : Fr h₀ L h' m := by
  obtain ⟨oL, a1, a2, hL, a3⟩ := F.ns
  exact ⟨⟨oL, a1, a2, k _ _ hL, a3⟩, fun b o e => k _ _ (F.keep b o e), F.above⟩
theorem keepsNews {h₀ h h' : Heap} {L : Addr} {news : List (Addr × Obj)} (N : News h₀ L h news) (k : Keeps h h') : News h₀ L h' news := fun p hp => ⟨k _ _ (N p hp).1, (N p hp).2⟩
section
variable {prog : Program} {w : World} {A₀ A : Around} {s : Shared} {base h₀ : Heap} {outer : List Env} {L : Addr} {m mg mb : Str → Option Value} {env : Env} {E : Value → Shared → Prop} {Q : Value → Shared → Prop}
  {K : Frag} {p : Program} {loose : List Str} {mean : ExcName → Option Value}
  {name qual : Str} {params : Arguments} {body : List Stmt} {scope : Scope} {dV kV doc pm cdv ct oc : Value} {an od : Option Addr} {osl : Array (Option Value)} {f : Addr} {pos : List Value} {kw : List (Str × Value)} {binds : List (Str × Value)}
/-- a call of a def of the written part: all that stood at the call is the new frame's ground -/
theorem callK (B : Below A₀ base outer h₀) (F : Fr h₀ L s.heap m) (X₀ : K.In h₀) (T : Top p loose mean mg mb h₀) (hA : A.frames = some (env :: outer)) (hf : env.frame = some L) (hke : env.scope.kind = .function)
    (ho : K.lookup f = some ⟨oc, od, .func (fnOf name qual params body scope dV kV doc pm an cdv ct), osl⟩) (hcd : codeIn K cdv qual = true) (hroom : A.depth < recursionLimit)
    (hbind : BindsTo s (fnOf name qual params body scope dV kV doc pm an cdv ct) ⟨pos, kw⟩ binds) (hloc : ∀ y ∈ binds, scope.names.lookup y.1 = some .local)
    (hcell : ∀ x ∈ scope.names, x.2 ≠ .cell) (hco : scope.isCoroutine = false) (hgen : scope.isGenerator = false) (hk : scope.kind = .function)
    (h : ∀ L' h₁, Fr s.heap L' h₁ (fun y => binds.reverse.lookup y) → News s.heap L' h₁ [] → Below A base (env :: outer) s.heap → K.In s.heap → Top p loose mean mg mb s.heap →
      wpAny (model prog w) (A.deeper (envOf qual scope L' f cdv)) (execs body (envOf qual scope L' f cdv))
        (fun fl s' => Q (match fl with | .ret v => v | _ => .none) s')
        (fun e s' => wpAny (model prog w) (A.deeper (envOf qual scope L' f cdv)) (leaving (envOf qual scope L' f cdv) e) (fun _ s'' => E e s'') (fun e' s'' => E e' s'') s')
        { s with heap := h₁, toks := s.toks + binds.length }) : wpAny (model prog w) A (call (.ref f) pos kw) Q E s := by
  refine wpAny_call ?_
  have X := X₀.keeps F.keep
  obtain ⟨_, BG, st, _⟩ := groundX (R := fun r s' => match r with | .ok (.ret v) => Q v s' | .ok _ => False | .error e => E e s') B F News.nil hA hf hke
  refine codeAny_call_def (fd := fnOf name qual params body scope dV kV doc pm an cdv ct) (body := body) (binds := binds) hroom (X _ _ ho) rfl (T.nolimit.keeps F.keep) (codeRec_of X hcd) rfl hbind hcell hloc (fun h₁ hns hk₁ => ?_) hco hgen hk
  exact h s.heap.objs.size h₁ ⟨hns, hk₁, Nat.le_refl _⟩ News.nil BG X (T.keeps F.keep)
end
end Mine
end
section
open PySem PySem.W PyProof.Rows PySem.Spec PySem.Calls
set_option maxRecDepth 100000
set_option maxHeartbeats 4000000
namespace Mine
section
variable {w : World} {dp un : Nat} {gd : Option (List Code)} {cn : Str} {cs : Scope} {a : Addr} {ccd : Value} {cl : List (Str × Addr)} {outer : List Env} {A₀ : Around} {base h₀ : Heap} {L : Addr} {m mg mb : Str → Option Value} {s : Shared} {Q E : Value → Shared → Prop}
  {p : Program} {loose : List Str} {mean : ExcName → Option Value}
theorem truth_spec {b : Bool} : PySem.Challenge.rw_pu0025_02.foot = PySem.Challenge.rw_pu0025_02.foot → Below A₀ base outer h₀ → Fr h₀ L s.heap m → (Mine02.hd.heap_1 w.params).In h₀ → Top p loose mean mg mb h₀ → cs.kind = .function → dp + 5 < recursionLimit → un + 40 < cLine →
    (∀ h' tk', Keeps s.heap h' → Q (.bool b) { s with heap := h', toks := tk' }) →
    wpAny (model PySem.Challenge.rw_pu0025_02.row.prog w) (ktrTop dp un gd cn cs L a ccd cl outer) (call (.ref 79) [.bool b]) Q E s := by
  w_top off
  k_with_none
  k_with "call type:type" => (k_here; (with_reducible show wpAny _ _ (call (Value.type "type") [Value.bytes _ _]) _ _ _); k_dflt (refine call_type_of (Tx := "bytes") rfl (by decide +kernel) ?_))
  k_fill
  intro _ B F X T hk hd hu hret
  k_dflt (refine' callK (by assumption) (by assumption) (by assumption) (by assumption) rfl rfl (by assumption) ?k6 ?k7 ?k8 ?k9 ?kB ?c5 ?c2 ?c3 ?c4 ?_; (case k6 => k_is); (case k7 => k_is); (case k8 => ktr_room); (case k9 => first | exact BindsTo.of_eq rfl | exact binds_K (by k_in) rfl (by k_is) rfl rfl rfl); (case c5 => decide); (case kB => exact locs rfl); (case c2 => exact rfl); (case c3 => exact rfl); (case c4 => exact rfl))
  intro L' h' F' N' B' X' T'
  clear B F X T
  k_steps
  all_goals (subst_vars; exact hret _ _ (by assumption : Fr s.heap _ _ _).keep)
theorem buffer_spec {b : Array UInt8} {t : Tok} : PySem.Challenge.rw_pu0025_02.foot = PySem.Challenge.rw_pu0025_02.foot → Below A₀ base outer h₀ → Fr h₀ L s.heap m → (Mine02.hd.heap_1 w.params).In h₀ → Top p loose mean mg mb h₀ → cs.kind = .function → dp + 5 < recursionLimit → un + 40 < cLine →
    (∀ h' tk', Keeps s.heap h' → Q (.bytes b t) { s with heap := h', toks := tk' }) →
    wpAny (model PySem.Challenge.rw_pu0025_02.row.prog w) (ktrTop dp un gd cn cs L a ccd cl outer) (call (.ref 72) [.bytes b t]) Q E s := by
  w_top off
  k_with_none
  k_with "call type:type" => (k_here; (with_reducible show wpAny _ _ (call (Value.type "type") [Value.bytes _ _]) _ _ _); k_dflt (refine call_type_of (Tx := "bytes") rfl (by decide +kernel) ?_))
  k_fill
  intro _ B F X T hk hd hu hret
  k_dflt (refine' callK (by assumption) (by assumption) (by assumption) (by assumption) rfl rfl (by assumption) ?k6 ?k7 ?k8 ?k9 ?kB ?c5 ?c2 ?c3 ?c4 ?_; (case k6 => k_is); (case k7 => k_is); (case k8 => ktr_room); (case k9 => first | exact BindsTo.of_eq rfl | exact binds_K (by k_in) rfl (by k_is) rfl rfl rfl); (case c5 => decide); (case kB => exact locs rfl); (case c2 => exact rfl); (case c3 => exact rfl); (case c4 => exact rfl))
  intro L' h' F' N' B' X' T'
  clear B F X T
  k_steps
  all_goals (subst_vars; exact hret _ _ (by assumption : Fr s.heap _ _ _).keep)
theorem abuffer_spec {b : Array UInt8} {t : Tok} : PySem.Challenge.rw_pu0025_02.foot = PySem.Challenge.rw_pu0025_02.foot → Below A₀ base outer h₀ → Fr h₀ L s.heap m → (Mine02.hd.heap_1 w.params).In h₀ → Top p loose mean mg mb h₀ → cs.kind = .function → dp + 5 < recursionLimit → un + 40 < cLine →
    (∀ h' tk', Keeps s.heap h' → Q (.bytes b t) { s with heap := h', toks := tk' }) →
    wpAny (model PySem.Challenge.rw_pu0025_02.row.prog w) (ktrTop dp un gd cn cs L a ccd cl outer) (call (.ref 65) [.bytes b t]) Q E s := by
  w_top off
  k_with_none
  k_with "call type:type" => (k_here; (with_reducible show wpAny _ _ (call (Value.type "type") [Value.bytes _ _]) _ _ _); k_dflt (refine call_type_of (Tx := "bytes") rfl (by decide +kernel) ?_))
  k_fill
  intro _ B F X T hk hd hu hret
  k_dflt (refine' callK (by assumption) (by assumption) (by assumption) (by assumption) rfl rfl (by assumption) ?k6 ?k7 ?k8 ?k9 ?kB ?c5 ?c2 ?c3 ?c4 ?_; (case k6 => k_is); (case k7 => k_is); (case k8 => ktr_room); (case k9 => first | exact BindsTo.of_eq rfl | exact binds_K (by k_in) rfl (by k_is) rfl rfl rfl); (case c5 => decide); (case kB => exact locs rfl); (case c2 => exact rfl); (case c3 => exact rfl); (case c4 => exact rfl))
  intro L' h' F' N' B' X' T'
  clear B F X T
  k_steps
  all_goals (subst_vars; exact hret _ _ (by assumption : Fr s.heap _ _ _).keep)
theorem ddata_spec {b : Array UInt8} {t : Tok} : PySem.Challenge.rw_pu0025_02.foot = PySem.Challenge.rw_pu0025_02.foot → Below A₀ base outer h₀ → Fr h₀ L s.heap m → (Mine02.hd.heap_1 w.params).In h₀ → Top p loose mean mg mb h₀ → cs.kind = .function → dp + 5 < recursionLimit → un + 40 < cLine →
    (∀ h' tk', Keeps s.heap h' → Q (.bytes b t) { s with heap := h', toks := tk' }) →
    wpAny (model PySem.Challenge.rw_pu0025_02.row.prog w) (ktrTop dp un gd cn cs L a ccd cl outer) (call (.ref 45) [.bytes b t]) Q E s := by
  w_top off
  k_with_none
  k_fill
  intro _ B F X T hk hd hu hret
  k_dflt (refine' callK (by assumption) (by assumption) (by assumption) (by assumption) rfl rfl (by assumption) ?k6 ?k7 ?k8 ?k9 ?kB ?c5 ?c2 ?c3 ?c4 ?_; (case k6 => k_is); (case k7 => k_is); (case k8 => ktr_room); (case k9 => first | exact BindsTo.of_eq rfl | exact binds_K (by k_in) rfl (by k_is) rfl rfl rfl); (case c5 => decide); (case kB => exact locs rfl); (case c2 => exact rfl); (case c3 => exact rfl); (case c4 => exact rfl))
  intro L' h' F' N' B' X' T'
  clear B F X T
  k_steps
  all_goals (subst_vars; exact hret _ _ (by assumption : Fr s.heap _ _ _).keep)
/-- a sign's figure -/
def b64v (c : Int) : Int := if 65 ≤ c ∧ c ≤ 90 then c - 65 else if 97 ≤ c ∧ c ≤ 122 then c - 71 else if 48 ≤ c ∧ c ≤ 57 then c + 4 else if c = 43 then 62 else if c = 47 then 63 else 64
theorem value_spec {c : Int} {t : Tok} : PySem.Challenge.rw_pu0025_02.foot = PySem.Challenge.rw_pu0025_02.foot → Below A₀ base outer h₀ → Fr h₀ L s.heap m → (Mine02.hd.heap_1 w.params).In h₀ → Top p loose mean mg mb h₀ → cs.kind = .function → dp + 5 < recursionLimit → un + 40 < cLine →
    (∀ v t' h' tk', v = b64v c → Keeps s.heap h' → Q (.int v t') { s with heap := h', toks := tk' }) →
    wpAny (model PySem.Challenge.rw_pu0025_02.row.prog w) (ktrTop dp un gd cn cs L a ccd cl outer) (call (.ref 86) [.int c t]) Q E s := by
  w_top off
  k_with_none
  k_fill
  intro _ B F X T hk hd hu hret
  k_dflt (refine' callK (by assumption) (by assumption) (by assumption) (by assumption) rfl rfl (by assumption) ?k6 ?k7 ?k8 ?k9 ?kB ?c5 ?c2 ?c3 ?c4 ?_; (case k6 => k_is); (case k7 => k_is); (case k8 => ktr_room); (case k9 => first | exact BindsTo.of_eq rfl | exact binds_K (by k_in) rfl (by k_is) rfl rfl rfl); (case c5 => decide); (case kB => exact locs rfl); (case c2 => exact rfl); (case c3 => exact rfl); (case c4 => exact rfl))
  intro L' h' F' N' B' X' T'
  clear B F X T
  k_steps
  all_goals (exact hret _ _ _ _ (by (unfold b64v; repeat' split) <;> omega) (by assumption : Fr s.heap _ _ _).keep)
end
end Mine
end
section
open PySem PySem.W PyProof.Rows PySem.Spec PySem.Calls
set_option maxRecDepth 100000
namespace Mine
theorem bytes_four {prog : Program} {w : World} {A : Around} {E Q : Value → Shared → Prop} {s : Shared} {h₀ : Heap} {L l : Addr} {news : List (Addr × Obj)} {n : Nat} {y0 y1 y2 y3 : Int} {t0 t1 t2 t3 : Tok}
    (N : News h₀ L s.heap news) (hm : (l, W.listOf ((((#[].push (.int (sg y0) t0)).push (.int (sg y1) t1)).push (.int (sg y2) t2)).push (.int (sg y3) t3)) n) ∈ news) (hh : A.handled = none)
    (h : ∀ h' t k, Keeps s.heap h' → Q (.bytes [sgB y0, sgB y1, sgB y2, sgB y3].toArray t) { s with heap := h', toks := k }) : wpAny (model prog w) A (call (.type "bytes") [.ref l]) Q E s := by
  refine call_bytes_ints (vs := [.int (sg y0) t0, .int (sg y1) t1, .int (sg y2) t2, .int (sg y3) t3]) (ns := [sg y0, sg y1, sg y2, sg y3]) ⟨_, (N _ hm).1, rfl, _, rfl⟩ (.cons _ _ (.cons _ _ (.cons _ _ (.cons _ _ .nil)))) ?_ ?_ hh ?_
  · simp only [List.forall_mem_cons, List.not_mem_nil, false_implies, implies_true, and_true]
    exact ⟨sg_bounds _, sg_bounds _, sg_bounds _, sg_bounds _⟩
  · rw [sizeLine_eq]; exact Nat.le_of_ble_eq_true rfl
  · intro h' t k hk
    have := h h' t k hk
    simpa only [byteArr, List.map, sg_back] using this
end Mine
end
section
open PySem PySem.W PyProof.Rows PySem.Spec PySem.Calls
set_option maxRecDepth 100000
set_option maxHeartbeats 4000000
namespace Mine
section
variable {w : World} {dp un : Nat} {gd : Option (List Code)} {cn : Str} {cs : Scope} {a : Addr} {ccd : Value} {cl : List (Str × Addr)} {outer : List Env} {A₀ : Around} {base h₀ : Heap} {L : Addr} {m mg mb : Str → Option Value} {s : Shared} {Q E : Value → Shared → Prop}
  {p : Program} {loose : List Str} {mean : ExcName → Option Value}
theorem fdiv4 (x : Int) : x.fdiv (2 ^ (0 + 8 - 6 : Int).toNat) = x / 4 := Int.fdiv_eq_ediv_of_nonneg _ (by decide)
theorem fdiv16 (x : Int) : x.fdiv (2 ^ (0 + 8 - 6 + 8 - 6 : Int).toNat) = x / 16 := Int.fdiv_eq_ediv_of_nonneg _ (by decide)
theorem fdiv64 (x : Int) : x.fdiv (2 ^ (0 + 8 - 6 + 8 - 6 + 8 - 6 : Int).toNat) = x / 64 := Int.fdiv_eq_ediv_of_nonneg _ (by decide)
theorem fdiv1 (x : Int) : x.fdiv (2 ^ (0 + 8 - 6 + 8 - 6 + 8 - 6 - 6 : Int).toNat) = x / 1 := Int.fdiv_eq_ediv_of_nonneg _ (by decide)
theorem enc3_is (b0 b1 b2 : UInt8) : enc3 b0 b1 b2 = [sgB (((0 * 256 + (b0.toNat : Int)) % 65536).fdiv (2 ^ (0 + 8 - 6 : Int).toNat) % 64), sgB ((((0 * 256 + (b0.toNat : Int)) % 65536 * 256 + b1.toNat) % 65536).fdiv (2 ^ (0 + 8 - 6 + 8 - 6 : Int).toNat) % 64), sgB (((((0 * 256 + (b0.toNat : Int)) % 65536 * 256 + b1.toNat) % 65536 * 256 + b2.toNat) % 65536).fdiv (2 ^ (0 + 8 - 6 + 8 - 6 + 8 - 6 : Int).toNat) % 64), sgB (((((0 * 256 + (b0.toNat : Int)) % 65536 * 256 + b1.toNat) % 65536 * 256 + b2.toNat) % 65536).fdiv (2 ^ (0 + 8 - 6 + 8 - 6 + 8 - 6 - 6 : Int).toNat) % 64)] := by
  have h0 := b0.toNat_lt
  have h1 := b1.toNat_lt
  have h2 := b2.toNat_lt
  rw [fdiv4, fdiv16, fdiv64, fdiv1]
  unfold enc3
  congr 1
  · congr 1; omega
  · congr 1
    · congr 1; omega
    · congr 1
      · congr 1; omega
      · congr 1; congr 1; omega
theorem b2a_spec {b0 b1 b2 : UInt8} {t : Tok} : PySem.Challenge.rw_pu0025_02.foot = PySem.Challenge.rw_pu0025_02.foot → Below A₀ base outer h₀ → Fr h₀ L s.heap m → (Mine02.hd.heap_1 w.params).In h₀ → Top p loose mean mg mb h₀ → cs.kind = .function → dp + 10 < recursionLimit → un + 80 < cLine →
    (∀ t' h' tk', Keeps s.heap h' → Q (.bytes (enc3 b0 b1 b2).toArray t') { s with heap := h', toks := tk' }) →
    wpAny (model PySem.Challenge.rw_pu0025_02.row.prog w) (ktrTop dp un gd cn cs L a ccd cl outer) (call (.ref 102) [.bytes #[b0, b1, b2] t] [(Str.ofString "newline", .bool false)]) Q E s := by
  w_top off
  k_with_none
  k_with "call ref" => (k_here; (with_reducible show wpAny _ _ (call (Value.ref 72) [Value.bytes _ _]) _ _ _); (k_dflt (refine' buffer_spec rfl ?k1 ?k2 ?k3 ?k4 ?kK ?kd ?ku ?_; (case k1 => k_asm); (case k2 => k_asm); (case k3 => k_asm); (case k4 => k_asm); (case kK => first | exact rfl | assumption); (case kd => ktr_room); (case ku => ktr_units))); intro  h9 tk9 K9; (have F9 := keepsFr (by k_asm) K9); (have N9 := keepsNews (by k_asm) K9); clear K9; (try dsimp only); (try k_fold))
  k_with "call ref" => (k_here; (with_reducible show wpAny _ _ (call (Value.ref 79) [Value.bool _]) _ _ _); (k_dflt (refine' truth_spec rfl ?k1 ?k2 ?k3 ?k4 ?kK ?kd ?ku ?_; (case k1 => k_asm); (case k2 => k_asm); (case k3 => k_asm); (case k4 => k_asm); (case kK => first | exact rfl | assumption); (case kd => ktr_room); (case ku => ktr_units))); intro  h9 tk9 K9; (have F9 := keepsFr (by k_asm) K9); (have N9 := keepsNews (by k_asm) K9); clear K9; (try dsimp only); (try k_fold))
  k_with "pyIter bytes" => ((with_reducible show wpAny _ _ (pyIter (Value.bytes _ _)) (fun it s₂ => LoopAtV _ _ _ _ _ _ _ _ _ it s₂) _ _); k_here; (rename Fr _ _ _ _ => lF'); (rename News _ _ _ _ => lN'); (with_unfolding_all refine iter_bytesUnr (l := [((_ : UInt8).toNat : Int), ((_ : UInt8).toNat : Int), ((_ : UInt8).toNat : Int)]) rfl lF' lN' rfl ?_); clear lF' lN'; intro i' l1; (try k_lt l1))
  k_with "subscriptTail" => (k_here; (with_reducible show wpAny _ _ (subscriptTail _ _ (Value.bytes _ _) (Value.int (_ % 64) _)) _ _ _); (with_unfolding_all refine b64_at ?h0 ?h1 ?_; (case h0 => exact Int.emod_nonneg _ (by decide)); (case h1 => exact Int.emod_lt_of_pos _ (by decide))))
  k_with "binaryOp BitAnd int int" => (k_here; k_dflt (first | refine and_to (bitAnd_m6 _) ?_ | refine and_to (bitAnd_m16 _) ?_))
  k_with "binaryOp BitOr int int" => (k_here; k_dflt (refine or_to (or8 _ _ (Int.natCast_nonneg _) (u8_lt _)) ?_))
  k_with "binaryOp LShift int int" => (k_here; k_dflt (refine shl_to 256 8 rfl rfl (by decide) (by omega) ?_))
  k_with "binaryOp RShift int int" => (k_here; k_dflt (first | refine shr_to 4 2 rfl rfl ?_ | refine shr_to 16 4 rfl rfl ?_ | refine shr_to 64 6 rfl rfl ?_ | refine shr_to 1 0 rfl rfl ?_))
  k_with "call type:bytes" => (k_here; (with_reducible show wpAny _ _ (call (Value.type _) [Value.ref _]) _ _ _); k_dflt (refine' bytes_four ?N ?m rfl ?_; (case N => k_asm); (case m => k_mem)); intro h9 t9 tk9 K9; (have F9 := keepsFr (by k_asm) K9); (have N9 := keepsNews (by k_asm) K9); clear K9; (try dsimp only))
  k_fill
  intro _ B F X T hk hd hu hret
  k_dflt (refine' callK (by assumption) (by assumption) (by assumption) (by assumption) rfl rfl (by assumption) ?k6 ?k7 ?k8 ?k9 ?kB ?c5 ?c2 ?c3 ?c4 ?_; (case k6 => k_is); (case k7 => k_is); (case k8 => ktr_room); (case k9 => first | exact BindsTo.of_eq rfl | exact binds_K (by k_in) rfl (by k_is) rfl rfl rfl); (case c5 => decide); (case kB => exact locs rfl); (case c2 => exact rfl); (case c3 => exact rfl); (case c4 => exact rfl))
  intro L' h' F' N' B' X' T'
  clear B F X T
  k_steps
  all_goals (rw [enc3_is] at hret; exact hret _ _ _ (by assumption : Fr s.heap _ _ _).keep)
end
end Mine
end
section
open PySem PySem.W PyProof.Rows PySem.Spec PySem.Calls
set_option maxRecDepth 100000
set_option maxHeartbeats 4000000
namespace Mine
section
variable {w : World} {dp un : Nat} {gd : Option (List Code)} {cn : Str} {cs : Scope} {a : Addr} {ccd : Value} {cl : List (Str × Addr)} {outer : List Env} {A₀ : Around} {base h₀ : Heap} {L : Addr} {m mg mb : Str → Option Value} {s : Shared} {Q E : Value → Shared → Prop}
  {p : Program} {loose : List Str} {mean : ExcName → Option Value}
theorem enc_spec {b0 b1 b2 : UInt8} {t : Tok} : PySem.Challenge.rw_pu0025_02.foot = PySem.Challenge.rw_pu0025_02.foot → Below A₀ base outer h₀ → Fr h₀ L s.heap m → (Mine02.hd.heap_1 w.params).In h₀ → Top p loose mean mg mb h₀ → cs.kind = .function → dp + 15 < recursionLimit → un + 120 < cLine →
    (∀ t' h' tk', Keeps s.heap h' → Q (.bytes (enc3 b0 b1 b2).toArray t') { s with heap := h', toks := tk' }) →
    wpAny (model PySem.Challenge.rw_pu0025_02.row.prog w) (ktrTop dp un gd cn cs L a ccd cl outer) (call (.ref 110) [.bytes #[b0, b1, b2] t]) Q E s := by
  w_top off
  k_with_none
  k_with "call ref" => (k_here; (with_reducible show wpAny _ _ (call (Value.ref 102) [Value.bytes _ _] _) _ _ _); (k_dflt (refine' b2a_spec rfl ?k1 ?k2 ?k3 ?k4 ?kK ?kd ?ku ?_; (case k1 => k_asm); (case k2 => k_asm); (case k3 => k_asm); (case k4 => k_asm); (case kK => first | exact rfl | assumption); (case kd => ktr_room); (case ku => ktr_units))); intro t9 h9 tk9 K9; (have F9 := keepsFr (by k_asm) K9); (have N9 := keepsNews (by k_asm) K9); clear K9; (try dsimp only); (try k_fold))
  k_fill
  intro _ B F X T hk hd hu hret
  k_dflt (refine' callK (by assumption) (by assumption) (by assumption) (by assumption) rfl rfl (by assumption) ?k6 ?k7 ?k8 ?k9 ?kB ?c5 ?c2 ?c3 ?c4 ?_; (case k6 => k_is); (case k7 => k_is); (case k8 => ktr_room); (case k9 => first | exact BindsTo.of_eq rfl | exact binds_K (by k_in) rfl (by k_is) rfl rfl rfl); (case c5 => decide); (case kB => exact locs rfl); (case c2 => exact rfl); (case c3 => exact rfl); (case c4 => exact rfl))
  intro L' h' F' N' B' X' T'
  clear B F X T
  k_steps
  all_goals (exact hret _ _ _ (by assumption : Fr s.heap _ _ _).keep)
end
end Mine
end
section
open PySem PySem.W PyProof.Rows PySem.Spec PySem.Calls
set_option maxRecDepth 100000
set_option maxHeartbeats 4000000
namespace Mine
theorem sg_of (i : Nat) (h : i < 64) : sg (i : Int) ≠ 61 ∧ b64v (sg (i : Int)) = i := by
  have : ∀ j : Fin 64, sg ((j : Nat) : Int) ≠ 61 ∧ b64v (sg ((j : Nat) : Int)) = ((j : Nat) : Int) := by decide +kernel
  exact this ⟨i, h⟩
theorem sg_ne {f : Int} (h0 : 0 ≤ f) (h1 : f < 64) : sg f ≠ 61 := by
  have := sg_of f.toNat (by lia)
  rw [show ((f.toNat : Nat) : Int) = f by lia] at this
  exact this.1
theorem b64v_sg {f : Int} (h0 : 0 ≤ f) (h1 : f < 64) : b64v (sg f) = f := by
  have := sg_of f.toNat (by lia)
  rw [show ((f.toNat : Nat) : Int) = f by lia] at this
  exact this.2
/-- one sign read -/
def dstep (c : Int × Int × List Int) (f : Int) : Int × Int × List Int :=
  if c.1 = 0 then (1, f, c.2.2) else if c.1 = 1 then (2, f % 16, c.2.2 ++ [c.2.1 * 4 + f / 16]) else if c.1 = 2 then (3, f % 4, c.2.2 ++ [c.2.1 * 16 + f / 4]) else (0, 0, c.2.2 ++ [c.2.1 * 64 + f])
def dst (fs : List Int) : Int × Int × List Int := fs.foldl dstep (0, 0, [])
/-- what holds between the turns -/
structure DInv (pre out : List Int) (q l p i : Int) : Prop where
  dfs : ∃ fs : List Int, pre = fs.map sg ∧ (∀ f ∈ fs, 0 ≤ f ∧ f < 64) ∧ dst fs = (q, l, out)
  dq : q = (pre.length : Int) % 4
  dl0 : 0 ≤ l
  dl1 : l < 64
  dl2 : q = 2 → l < 16
  dl3 : q = 3 → l < 4
  dp : p = 0
  di : i = pre.length
  dlen : out.length ≤ pre.length
  douts : ∀ x ∈ out, 0 ≤ x ∧ x < 256
theorem DInv.start : DInv [] [] 0 0 0 0 := ⟨⟨[], rfl, (fun _ h => by cases h), rfl⟩, rfl, by decide, by decide, by decide, by decide, rfl, rfl, Nat.le_refl _, (fun _ h => by cases h)⟩
theorem fs_snoc {pre : List Int} {f : Int} {c c' : Int × Int × List Int} (h : ∃ fs : List Int, pre = fs.map sg ∧ (∀ f ∈ fs, 0 ≤ f ∧ f < 64) ∧ dst fs = c) (h0 : 0 ≤ f) (h1 : f < 64) (e : dstep c f = c') :
    ∃ fs : List Int, pre ++ [sg f] = fs.map sg ∧ (∀ f ∈ fs, 0 ≤ f ∧ f < 64) ∧ dst fs = c' := by
  obtain ⟨fs, rfl, hf, hd⟩ := h
  refine ⟨fs ++ [f], by simp, ?_, ?_⟩
  · intro g hg
    rcases List.mem_append.mp hg with hg | hg
    · exact hf g hg
    · rw [List.mem_singleton.mp hg]; exact ⟨h0, h1⟩
  · unfold dst at hd ⊢
    rw [List.foldl_append, hd]
    exact e
theorem DInv.t0 {pre out : List Int} {q l p i f i' : Int} (h : DInv pre out q l p i) (h0 : 0 ≤ f) (h1 : f < 64) (hq : q = 0) (hi : i' = i + 1) : DInv (pre ++ [sg f]) out 1 f 0 i' := by
  obtain ⟨a1, a2, a3, a4, a5, a6, a7, a8, a9, a10⟩ := h
  refine ⟨fs_snoc a1 h0 h1 (by simp [dstep, hq]), ?_, h0, h1, by lia, by lia, rfl, ?_, ?_, a10⟩ <;> simp only [List.length_append, List.length_singleton] <;> lia
theorem outs_snoc {out : List Int} {v : Int} (h : ∀ x ∈ out, 0 ≤ x ∧ x < 256) (hv : 0 ≤ v ∧ v < 256) : ∀ x ∈ out ++ [v], 0 ≤ x ∧ x < 256 := by
  intro x hx
  rcases List.mem_append.mp hx with hx | hx
  · exact h x hx
  · rw [List.mem_singleton.mp hx]; exact hv
theorem DInv.t1 {pre out : List Int} {q l p i f i' : Int} (h : DInv pre out q l p i) (h0 : 0 ≤ f) (h1 : f < 64) (hq : q = 1) {l' v : Int} (hv : v = l * 4 + f / 16) (hl : l' = f % 16) (hi : i' = i + 1) : DInv (pre ++ [sg f]) (out ++ [v]) 2 l' 0 i' := by
  obtain ⟨a1, a2, a3, a4, a5, a6, a7, a8, a9, a10⟩ := h
  subst hv hl
  refine ⟨fs_snoc a1 h0 h1 (by simp [dstep, hq]), ?_, by lia, by lia, by lia, by lia, rfl, ?_, ?_, outs_snoc a10 (by lia)⟩ <;> simp only [List.length_append, List.length_singleton] <;> lia
theorem DInv.t2 {pre out : List Int} {q l p i f i' : Int} (h : DInv pre out q l p i) (h0 : 0 ≤ f) (h1 : f < 64) (hq : q = 2) {l' v : Int} (hv : v = l * 16 + f / 4) (hl : l' = f % 4) (hi : i' = i + 1) : DInv (pre ++ [sg f]) (out ++ [v]) 3 l' 0 i' := by
  obtain ⟨a1, a2, a3, a4, a5, a6, a7, a8, a9, a10⟩ := h
  subst hv hl
  have := a5 hq
  refine ⟨fs_snoc a1 h0 h1 (by simp [dstep, hq]), ?_, by lia, by lia, by lia, by lia, rfl, ?_, ?_, outs_snoc a10 (by lia)⟩ <;> simp only [List.length_append, List.length_singleton] <;> lia
theorem DInv.t3 {pre out : List Int} {q l p i f i' : Int} (h : DInv pre out q l p i) (h0 : 0 ≤ f) (h1 : f < 64) (hq : q = 3) {v : Int} (hv : v = l * 64 + f) (hi : i' = i + 1) : DInv (pre ++ [sg f]) (out ++ [v]) 0 0 0 i' := by
  obtain ⟨a1, a2, a3, a4, a5, a6, a7, a8, a9, a10⟩ := h
  subst hv
  have := a6 hq
  refine ⟨fs_snoc a1 h0 h1 (by simp [dstep, hq]), ?_, by lia, by lia, by lia, by lia, rfl, ?_, ?_, outs_snoc a10 (by lia)⟩ <;> simp only [List.length_append, List.length_singleton] <;> lia
theorem sg_inj {f g : Int} (h0 : 0 ≤ f) (h1 : f < 64) (g0 : 0 ≤ g) (g1 : g < 64) (e : sg f = sg g) : f = g := by
  rw [← b64v_sg h0 h1, e, b64v_sg g0 g1]
theorem map_sg_inj : ∀ {fs gs : List Int}, (∀ f ∈ fs, 0 ≤ f ∧ f < 64) → (∀ f ∈ gs, 0 ≤ f ∧ f < 64) → fs.map sg = gs.map sg → fs = gs
  | [], [], _, _, _ => rfl
  | [], _ :: _, _, _, e => nomatch e
  | _ :: _, [], _, _, e => nomatch e
  | f :: fs, g :: gs, hf, hg, e => by
    rw [List.map_cons, List.map_cons, List.cons.injEq] at e
    rw [sg_inj (hf f (.head _)).1 (hf f (.head _)).2 (hg g (.head _)).1 (hg g (.head _)).2 e.1, map_sg_inj (fun x hx => hf x (.tail _ hx)) (fun x hx => hg x (.tail _ hx)) e.2]
theorem bInts_sg (fs : List Int) : KBw.bInts (fs.map sgB).toArray = fs.map sg := by
  simp [KBw.bInts, sg, Function.comp_def]
/-- a word that the loop is handed -/
theorem DInv.turn {fs pre post : List Int} {n : Int} (hf : ∀ f ∈ fs, 0 ≤ f ∧ f < 64) (e : fs.map sg = pre ++ n :: post) : ∃ f, n = sg f ∧ 0 ≤ f ∧ f < 64 ∧ sg f ≠ 61 := by
  have : n ∈ fs.map sg := by rw [e]; simp
  obtain ⟨f, hm, rfl⟩ := List.mem_map.mp this
  exact ⟨f, rfl, (hf f hm).1, (hf f hm).2, sg_ne (hf f hm).1 (hf f hm).2⟩
theorem or2f (a f : Int) (h0 : 0 ≤ f) (h1 : f < 64) : Builtin.bitOr (a * 2 ^ Int.toNat 2) (f.fdiv (2 ^ Int.toNat 4)) = a * 4 + f / 16 := by
  rw [show f.fdiv (2 ^ Int.toNat 4) = f / 16 from Int.fdiv_eq_ediv_of_nonneg _ (by decide)]
  exact or2 _ _ (by lia) (by lia)
theorem or4f (a f : Int) (h0 : 0 ≤ f) (h1 : f < 64) : Builtin.bitOr (a * 2 ^ Int.toNat 4) (f.fdiv (2 ^ Int.toNat 2)) = a * 16 + f / 4 := by
  rw [show f.fdiv (2 ^ Int.toNat 2) = f / 4 from Int.fdiv_eq_ediv_of_nonneg _ (by decide)]
  exact or4 _ _ (by lia) (by lia)
theorem or6f (a f : Int) (h0 : 0 ≤ f) (h1 : f < 64) : Builtin.bitOr (a * 2 ^ Int.toNat 6) f = a * 64 + f := or6 _ _ h0 h1
theorem DInv.out {fs out : List Int} {q l p i : Int} (h : DInv (fs.map sg) out q l p i) (hf : ∀ f ∈ fs, 0 ≤ f ∧ f < 64) : out = (dst fs).2.2 := by
  obtain ⟨gs, e, hg, hd⟩ := h.dfs
  rw [map_sg_inj hf hg e, hd]
end Mine
end
section
open PySem PySem.W PyProof.Rows PySem.Spec PySem.Calls
set_option maxRecDepth 100000
set_option maxHeartbeats 4000000
namespace Mine
/-- the state of a2b_base64's loop: the list's values, their ints, its count; quad_pos, leftchar, pads, i with their marks -/
abbrev DS : Type := List Value × List Int × Nat × Int × Tok × Int × Tok × Int × Tok × Int × Tok
abbrev dsLed (l : Addr) (c : DS) : List (Addr × Obj) := [(l, W.listOf c.1.toArray c.2.2.1)]
abbrev dsPs (c : DS) : List (Str × Value) := [(Str.ofString "quad_pos", .int c.2.2.2.1 c.2.2.2.2.1), (Str.ofString "leftchar", .int c.2.2.2.2.2.1 c.2.2.2.2.2.2.1), (Str.ofString "pads", .int c.2.2.2.2.2.2.2.1 c.2.2.2.2.2.2.2.2.1), (Str.ofString "i", .int c.2.2.2.2.2.2.2.2.2.1 c.2.2.2.2.2.2.2.2.2.2)]
abbrev dsFa (c : DS) : Prop := IntsAre c.1 c.2.1
abbrev dsP (pre : List Int) (c : DS) : Prop := DInv pre c.2.1 c.2.2.2.1 c.2.2.2.2.2.1 c.2.2.2.2.2.2.2.1 c.2.2.2.2.2.2.2.2.2.1
section
variable {prog : Program} {w : World} {A : Around} {E : Value → Shared → Prop} {s : Shared} {env : Env} {h₀ : Heap} {x : PySem.Str} {body : List Stmt} {Q : Flow → Shared → Prop}
theorem a2b_loop {b : Array UInt8} {fs : List Int} {tb t1 t2 t3 t4 : Tok} {l : Addr} {m₀ : PySem.Str → Option Value} (hf : ∀ f ∈ fs, 0 ≤ f ∧ f < 64) (hb : KBw.bInts b = fs.map sg) (hh : A.handled = none) (F : Fr h₀ env.locals s.heap m₀) (N : News h₀ env.locals s.heap [(l, W.listOf #[] 0)])
    (e1 : m₀ (Str.ofString "quad_pos") = some (.int 0 t1)) (e2 : m₀ (Str.ofString "leftchar") = some (.int 0 t2)) (e3 : m₀ (Str.ofString "pads") = some (.int 0 t3)) (e4 : m₀ (Str.ofString "i") = some (.int 0 t4))
    (turn : ∀ (vs : List Value) (out : List Int) (n : Nat) (q : Int) (tq : Tok) (lc : Int) (tl : Tok) (p : Int) (tp : Tok) (i : Int) (ti : Tok) (pre : List Int) (f : Int) t (u : PySem.Str → Option Value) h tk own,
      pre.length < fs.length → 0 ≤ f → f < 64 → sg f ≠ 61 → OwnOff own [l] → IntsAre vs out → DInv pre out q lc p i → KstMark →
      Fr h₀ env.locals h (fun y => if y = x then some (.int (sg f) t) else kstB m₀ [(Str.ofString "quad_pos", .int q tq), (Str.ofString "leftchar", .int lc tl), (Str.ofString "pads", .int p tp), (Str.ofString "i", .int i ti)] y) → News h₀ env.locals h ((l, W.listOf vs.toArray n) :: own) →
      wpAny (model prog w) A (execs body env) (InvPostN h₀ env.locals (KstS (dsLed l) dsPs dsFa x [] m₀ dsP (pre ++ [sg f])) own [l] { s with heap := h, toks := tk } Q) E { s with heap := h, toks := tk })
    (done : ∀ (vs : List Value) (out : List Int) (n : Nat) (q : Int) (tq : Tok) (lc : Int) (tl : Tok) (p : Int) (tp : Tok) (i : Int) (ti : Tok) (u : PySem.Str → Option Value) h tk, IntsAre vs out → DInv (fs.map sg) out q lc p i →
      Fr h₀ env.locals h (fun y => if y = x then u y else kstB m₀ [(Str.ofString "quad_pos", .int q tq), (Str.ofString "leftchar", .int lc tl), (Str.ofString "pads", .int p tp), (Str.ofString "i", .int i ti)] y) → News h₀ env.locals h [(l, W.listOf vs.toArray n)] → Q .next { s with heap := h, toks := tk }) :
    wpAny (model prog w) A (pyIter (.bytes b tb)) (fun it s₂ => LoopAtV prog w A h₀ env x body Q E it s₂) E s := by
  refine KStb.kst_bytes (dsLed l) dsPs dsFa [] dsP ([], [], 0, 0, t1, 0, t2, 0, t3, 0, t4) hb rfl hh F N .nil ?_ DInv.start ?_ ?_
  · intro p hp
    simp only [List.mem_cons, List.not_mem_nil, or_false] at hp
    rcases hp with rfl | rfl | rfl | rfl
    · exact e1
    · exact e2
    · exact e3
    · exact e4
  · rintro ⟨vs, out, n, q, tq, lc, tl, p, tp, i, ti⟩ pre post k t u h tk own e hlt _ _ hoff hfa hP F' N'
    obtain ⟨f, rfl, f0, f1, f2⟩ := DInv.turn hf e
    rw [List.length_map] at hlt
    exact turn vs out n q tq lc tl p tp i ti pre f t u h tk own hlt f0 f1 f2 hoff hfa hP kstMark F' N'
  · rintro ⟨vs, out, n, q, tq, lc, tl, p, tp, i, ti⟩ u h tk _ hfa hP F' N'
    exact done vs out n q tq lc tl p tp i ti u h tk hfa hP F' N'
end
end Mine
end
section
open PySem PySem.W PyProof.Rows PySem.Spec PySem.Calls
set_option maxRecDepth 100000
set_option maxHeartbeats 4000000
namespace Mine
section
variable {w : World} {dp un : Nat} {gd : Option (List Code)} {cn : Str} {cs : Scope} {a : Addr} {ccd : Value} {cl : List (Str × Addr)} {outer : List Env} {A₀ : Around} {base h₀ : Heap} {L : Addr} {m mg mb : Str → Option Value} {s : Shared} {Q E : Value → Shared → Prop}
  {p : Program} {loose : List Str} {mean : ExcName → Option Value}
theorem figure_spec {f : Int} {t : Tok} : PySem.Challenge.rw_pu0025_02.foot = PySem.Challenge.rw_pu0025_02.foot → Below A₀ base outer h₀ → Fr h₀ L s.heap m → (Mine02.hd.heap_1 w.params).In h₀ → Top p loose mean mg mb h₀ → cs.kind = .function → dp + 5 < recursionLimit → un + 40 < cLine → 0 ≤ f → f < 64 →
    (∀ t' h' tk', Keeps s.heap h' → Q (.int f t') { s with heap := h', toks := tk' }) →
    wpAny (model PySem.Challenge.rw_pu0025_02.row.prog w) (ktrTop dp un gd cn cs L a ccd cl outer) (call (.ref 86) [.int (sg f) t]) Q E s := by
  intro _ B F X T hk hd hu h0 h1 hret
  exact value_spec rfl B F X T hk hd hu (fun v t' h' tk' e hk' => by rw [e, b64v_sg h0 h1]; exact hret t' h' tk' hk')
theorem a2b_spec {fs : List Int} {b : Array UInt8} {t : Tok} : PySem.Challenge.rw_pu0025_02.foot = PySem.Challenge.rw_pu0025_02.foot → Below A₀ base outer h₀ → Fr h₀ L s.heap m → (Mine02.hd.heap_1 w.params).In h₀ → Top p loose mean mg mb h₀ → cs.kind = .function → dp + 10 < recursionLimit → un + 80 < cLine → (∀ f ∈ fs, 0 ≤ f ∧ f < 64) → fs.length % 4 = 0 → fs.length ≤ 1000 → KBw.bInts b = fs.map sg →
    (∀ t' h' tk', Keeps s.heap h' → Q (.bytes ((dst fs).2.2.map fun n => n.toNat.toUInt8).toArray t') { s with heap := h', toks := tk' }) →
    wpAny (model PySem.Challenge.rw_pu0025_02.row.prog w) (ktrTop dp un gd cn cs L a ccd cl outer) (call (.ref 94) [.bytes b t] [(Str.ofString "strict_mode", .bool false)]) Q E s := by
  w_top off
  k_with_none
  k_with "call ref" => (k_here; (with_reducible show wpAny _ _ (call (Value.ref 65) [Value.bytes _ _]) _ _ _); (k_dflt (refine' abuffer_spec rfl ?k1 ?k2 ?k3 ?k4 ?kK ?kd ?ku ?_; (case k1 => k_asm); (case k2 => k_asm); (case k3 => k_asm); (case k4 => k_asm); (case kK => first | exact rfl | assumption); (case kd => ktr_room); (case ku => ktr_units))); intro  h9 tk9 K9; (have F9 := keepsFr (by k_asm) K9); (have N9 := keepsNews (by k_asm) K9); clear K9; (try dsimp only); (try k_fold))
  k_with "call ref" => (k_here; (with_reducible show wpAny _ _ (call (Value.ref 79) [Value.bool _]) _ _ _); (k_dflt (refine' truth_spec rfl ?k1 ?k2 ?k3 ?k4 ?kK ?kd ?ku ?_; (case k1 => k_asm); (case k2 => k_asm); (case k3 => k_asm); (case k4 => k_asm); (case kK => first | exact rfl | assumption); (case kd => ktr_room); (case ku => ktr_units))); intro  h9 tk9 K9; (have F9 := keepsFr (by k_asm) K9); (have N9 := keepsNews (by k_asm) K9); clear K9; (try dsimp only); (try k_fold))
  k_with "call ref" => (k_here; (with_reducible show wpAny _ _ (call (Value.ref 86) [Value.int (sg _) _]) _ _ _); (k_dflt (refine' figure_spec rfl ?k1 ?k2 ?k3 ?k4 ?kK ?kd ?ku ?h0 ?h1 ?_; (case k1 => k_asm); (case k2 => k_asm); (case k3 => k_asm); (case k4 => k_asm); (case kK => first | exact rfl | assumption); (case kd => ktr_room); (case ku => ktr_units); (case h0 => assumption); (case h1 => assumption))); intro t9 h9 tk9 K9; (have F9 := keepsFr (by k_asm) K9); (have N9 := keepsNews (by k_asm) K9); clear K9; (try dsimp only); (try k_fold))
  k_with "binaryOp BitAnd int int" => (k_here; (first | with_reducible refine and_to (bitAnd_m4 _) ?_ | with_reducible refine and_to (bitAnd_m2 _) ?_))
  k_with "state" => (first | with_reducible exact DInv.t0 (by assumption) (by assumption) (by assumption) (by omega) rfl | with_reducible exact DInv.t1 (by assumption) (by assumption) (by assumption) (by omega) (or2f _ _ (by assumption) (by assumption)) rfl rfl | with_reducible exact DInv.t2 (by assumption) (by assumption) (by assumption) (by omega) (or4f _ _ (by assumption) (by assumption)) rfl rfl | with_reducible exact DInv.t3 (by assumption) (by assumption) (by assumption) (by omega) (or6f _ _ (by assumption) (by assumption)) rfl)
  k_with "call type:bytes" => (k_here; (with_reducible show wpAny _ _ (call (Value.type _) [Value.ref _]) _ _ _); k_dflt (refine' bytes_K ?F ?N ?l ?i ?r ?z ?h ?_; (case F => k_asm); (case N => k_asm); (case l => is_list); (case i => first | assumption | l_ints | l_intsW); (case r => exact DInv.douts (by assumption)); (case z => (rw [sizeLine_eq]; omega)); (case h => with_unfolding_all rfl); k_whole); intro h' t' k' F' N' hB'; clear hB')
  k_with "InvEndN" => ((rename News _ _ _ _ => nE'); (try simp only [List.push_toArray] at nE'); (refine kst_end (⟨_, _, _, _, _, _, _, _, _, _, _⟩ : DS) (by assumption) nE' (by first | kst_in | kst_inAny) (by first | (intro p hp; kst_mem) | kst_anyIn) (by rfl) (by kst_facts) (by kst_all) (by (intro z z0 z9 _; (have z1 := z9 _ (List.Mem.head _)); (have z2 := z9 _ (List.Mem.tail _ (List.Mem.head _))); (have z3 := z9 _ (List.Mem.tail _ (List.Mem.tail _ (List.Mem.head _)))); (have z4 := z9 _ (List.Mem.tail _ (List.Mem.tail _ (List.Mem.tail _ (List.Mem.head _))))); (simp only [kstB, if_neg z0, if_neg z1, if_neg z2, if_neg z3, if_neg z4]))) (by kst_p)))
  k_with "pyIter bytes" => ((with_reducible show wpAny _ _ (pyIter (Value.bytes _ _)) (fun it s₂ => LoopAtV _ _ _ _ _ _ _ _ _ it s₂) _ _); k_here; (rename Fr _ _ _ _ => lF'); (rename News _ _ _ _ => lN'); (with_unfolding_all refine' a2b_loop hf hb rfl lF' lN' rfl rfl rfl rfl ?_ ?_); clear lF' lN'; (all_goals first
    | (intro vs out n q tq lc tl p tp i ti pre f t u h9 tk9 own hlt f0 f1 f61 hoff hI hD hM F9 N9; (have dq := hD.dq); (have d0 := hD.dl0); (have d1 := hD.dl1); (have d2 := hD.dl2); (have d3 := hD.dl3); (have d4 := hD.dp); (have d5 := hD.di); (have d6 := hD.dlen); (have hIl := hI.length))
    | (intro vs out n q tq lc tl p tp i ti u h9 tk9 hI hD F9 N9; (have dq := hD.dq); rw [List.length_map] at dq; (have d4 := hD.dp); (have hIl := hI.length); (have d6 := hD.dlen); rw [List.length_map] at d6; (have q0 : q = 0 := by omega); subst q0)); (all_goals (try k_fold)))
  k_fill
  intro _ B F X T hk hd hu hf h4 hz hb hret
  k_dflt (refine' callK (by assumption) (by assumption) (by assumption) (by assumption) rfl rfl (by assumption) ?k6 ?k7 ?k8 ?k9 ?kB ?c5 ?c2 ?c3 ?c4 ?_; (case k6 => k_is); (case k7 => k_is); (case k8 => ktr_room); (case k9 => first | exact BindsTo.of_eq rfl | exact binds_K (by k_in) rfl (by k_is) rfl rfl rfl); (case c5 => decide); (case kB => exact locs rfl); (case c2 => exact rfl); (case c3 => exact rfl); (case c4 => exact rfl))
  intro L' h' F' N' B' X' T'
  clear B F X T
  k_steps
  all_goals (rw [← DInv.out (by assumption) hf] at hret; exact hret _ _ _ (by assumption : Fr s.heap _ _ _).keep)
end
end Mine
end
section
open PySem PySem.W PyProof.Rows PySem.Spec PySem.Calls
set_option maxRecDepth 100000
set_option maxHeartbeats 4000000
namespace Mine
section
variable {w : World} {dp un : Nat} {gd : Option (List Code)} {cn : Str} {cs : Scope} {a : Addr} {ccd : Value} {cl : List (Str × Addr)} {outer : List Env} {A₀ : Around} {base h₀ : Heap} {L : Addr} {m mg mb : Str → Option Value} {s : Shared} {Q E : Value → Shared → Prop}
  {p : Program} {loose : List Str} {mean : ExcName → Option Value}
theorem dec_spec {fs : List Int} {b : Array UInt8} {t : Tok} : PySem.Challenge.rw_pu0025_02.foot = PySem.Challenge.rw_pu0025_02.foot → Below A₀ base outer h₀ → Fr h₀ L s.heap m → (Mine02.hd.heap_1 w.params).In h₀ → Top p loose mean mg mb h₀ → cs.kind = .function → dp + 15 < recursionLimit → un + 120 < cLine → (∀ f ∈ fs, 0 ≤ f ∧ f < 64) → fs.length % 4 = 0 → fs.length ≤ 1000 → KBw.bInts b = fs.map sg →
    (∀ t' h' tk', Keeps s.heap h' → Q (.bytes ((dst fs).2.2.map fun n => n.toNat.toUInt8).toArray t') { s with heap := h', toks := tk' }) →
    wpAny (model PySem.Challenge.rw_pu0025_02.row.prog w) (ktrTop dp un gd cn cs L a ccd cl outer) (call (.ref 118) [.bytes b t]) Q E s := by
  w_top off
  k_with_none
  k_with "call ref" => (k_here; (with_reducible show wpAny _ _ (call (Value.ref 45) [Value.bytes _ _]) _ _ _); (k_dflt (refine' ddata_spec rfl ?k1 ?k2 ?k3 ?k4 ?kK ?kd ?ku ?_; (case k1 => k_asm); (case k2 => k_asm); (case k3 => k_asm); (case k4 => k_asm); (case kK => first | exact rfl | assumption); (case kd => ktr_room); (case ku => ktr_units))); intro  h9 tk9 K9; (have F9 := keepsFr (by k_asm) K9); (have N9 := keepsNews (by k_asm) K9); clear K9; (try dsimp only); (try k_fold))
  k_with "call ref" => (k_here; (with_reducible show wpAny _ _ (call (Value.ref 94) [Value.bytes _ _] _) _ _ _); (k_dflt (refine' a2b_spec rfl ?k1 ?k2 ?k3 ?k4 ?kK ?kd ?ku hf h4 hz hb ?_; (case k1 => k_asm); (case k2 => k_asm); (case k3 => k_asm); (case k4 => k_asm); (case kK => first | exact rfl | assumption); (case kd => ktr_room); (case ku => ktr_units))); intro t9 h9 tk9 K9; (have F9 := keepsFr (by k_asm) K9); (have N9 := keepsNews (by k_asm) K9); clear K9; (try dsimp only); (try k_fold))
  k_fill
  intro _ B F X T hk hd hu hf h4 hz hb hret
  k_dflt (refine' callK (by assumption) (by assumption) (by assumption) (by assumption) rfl rfl (by assumption) ?k6 ?k7 ?k8 ?k9 ?kB ?c5 ?c2 ?c3 ?c4 ?_; (case k6 => k_is); (case k7 => k_is); (case k8 => ktr_room); (case k9 => first | exact BindsTo.of_eq rfl | exact binds_K (by k_in) rfl (by k_is) rfl rfl rfl); (case c5 => decide); (case kB => exact locs rfl); (case c2 => exact rfl); (case c3 => exact rfl); (case c4 => exact rfl))
  intro L' h' F' N' B' X' T'
  clear B F X T
  k_steps
  all_goals (exact hret _ _ _ (by assumption : Fr s.heap _ _ _).keep)
end
end Mine
end
section
open PySem PySem.W PyProof.Rows PySem.Spec PySem.Calls
set_option maxRecDepth 100000
set_option maxHeartbeats 4000000
namespace Mine
/-- a list's iterator, i items taken -/
abbrev liObj (l : Addr) (i : Nat) : Obj := { cls := .type "list_iterator", data := .fields #[.ref l, .int i 0] }
section
variable {prog : Program} {w : World} {A : Around} {E Q : Value → Shared → Prop} {s : Shared} {h₀ : Heap} {L l I : Addr} {m : Str → Option Value} {news : List (Addr × Obj)} {g : Obj → List (Addr × Obj)} {items : Array Value} {i : Nat} {x : Value}
theorem iter_list (F : Fr h₀ L s.heap m) (N : News h₀ L s.heap news) (hl : s.heap.IsList l items)
    (h : ∀ I h', Fr h₀ L h' m → News h₀ L h' ((I, liObj l 0) :: news) → (∀ p ∈ news, p.1 < I) → Q (.ref I) { s with heap := h' }) : wpAny (model prog w) A (call (.builtin "iter") [.ref l]) Q E s := by
  refine call_function_entry (by decide +kernel) (by decide +kernel) kdk_entry_iter (kdk_args_iter _) ?_
  unfold Builtin.«iter»
  refine wpAny_bind (m := someArgs "iter" 1 2 _) (wpAny_of_eq (a := [Value.ref l]) (by first | rfl | kernel_rfl!) ?_)
  show wpAny _ _ (pyIter (.ref l) >>= _) _ _ _
  refine wpAny_bind (wpAny_pyIter_list hl ?_)
  exact wpAny_pure ⟨_, rfl, h _ _ (F.push _) (News.push F N _ rfl) (fun q hq => Heap.lt_size (N q hq).1)⟩
theorem next_list (F : Fr h₀ L s.heap m) (N : News h₀ L s.heap news) (U : UpdF I (liObj l i) news g) (hl : s.heap.IsList l items) (hx : items[i]? = some x)
    (h : ∀ h', Fr h₀ L h' m → News h₀ L h' (g (liObj l (i + 1))) → Q x { s with heap := h' }) : wpAny (model prog w) A (call (.builtin "next") [.ref I]) Q E s := by
  obtain ⟨pre, post, hp, hg, a, b⟩ := U.split
  have hm := N (I, liObj l i) (by rw [hp]; exact List.mem_append_right _ (.head _))
  have ho := hm.1
  have hit : s.heap.IsListIter I l i := ⟨_, ho, rfl, rfl⟩
  obtain ⟨ol, hol, _, nl, hdl⟩ := hl
  refine call_function_entry (by decide +kernel) (by decide +kernel) kdk_entry_next (kdk_args_next _) ?_
  unfold Builtin.«next»
  refine wpAny_bind (m := someArgs "next" 1 2 _) (wpAny_of_eq (a := [Value.ref I]) (by first | rfl | kernel_rfl!) ?_)
  dsimp only
  refine wpAny_bind (wpAny_specialOf (name := Str.ofString "__next__") hit.typeIs slot_listiter_next.lookup ?_)
  refine wpAny_ite_split (fun hab => absurd hab (by decide)) (fun _ => ?_)
  refine wpAny_bind (wpAny_callSpecial?_slot (name := Str.ofString "__next__") hit.typeIs slot_listiter_next
    (wpAny_call_entry slot_listiter_next hit.typeIs entry_listiter_next ?_ (args_listiter_next _)))
  show wpAny _ _ (field (.ref I) 0 >>= _) _ _ s
  refine wpAny_bind (wpAny_field ho rfl (x := .ref l) rfl ?_)
  show wpAny _ _ (if (Value.ref l == Value.none) = true then _ else _) _ _ s
  rw [if_neg (show ¬ ((Value.ref l == Value.none) = true) from Bool.false_ne_true)]
  show wpAny _ _ (field (.ref I) 1 >>= _) _ _ s
  refine wpAny_bind (wpAny_field ho rfl (x := .int i 0) rfl ?_)
  show wpAny _ _ (seqItems? (.ref l) >>= _) _ _ s
  refine wpAny_bind (wpAny_seqItems hol hdl ?_)
  simp only [Int.toNat_natCast, hx]
  refine wpAny_bind (wpAny_setField ho rfl (by simp) (wpAny_pure ⟨x, rfl, wpAny_pure ⟨_, rfl, ?_⟩⟩))
  have hs : Heap.SameBut I s.heap (s.heap.update I (Obj.mapFields (·.setIfInBounds 1 (rawInt ((i : Int) + 1))))) := Heap.SameBut.update ..
  have ho' : (s.heap.update I (Obj.mapFields (·.setIfInBounds 1 (rawInt ((i : Int) + 1))))).get? I = some (liObj l (i + 1)) :=
    (Heap.get?_update_self _ ho rfl).trans rfl
  exact h _ (F.change hs hm.2.1 hm.2.2) (hg _ ▸ (show News h₀ L s.heap (pre ++ (I, liObj l i) :: post) from hp ▸ N).setIn a b hs ho')
end
theorem walks_from {prog : Program} {w : World} {A : Around} {I : Addr} {fp wr : List Addr} {n : Nat} {P : Nat → Value → Prop} {St : Nat → Heap → Prop} (W : Walks prog w A I fp wr n P St) (j : Nat) (hj : j ≤ n) :
    Walks prog w A I fp wr (n - j) (fun i v => P (j + i) v) (fun i h => St (j + i) h) where
  sub := W.sub
  frame := fun i h h' => W.frame (j + i) h h'
  item := fun i s Q E hi st hQ => W.item (j + i) s Q E (by omega) st hQ
  done := fun s Q E st hQ => W.done s Q E (by rw [show j + (n - j) = n by omega] at st; exact st) hQ
  self := fun i s Q E st hQ => W.self (j + i) s Q E st hQ
/-- what holds between the turns of reduce -/
def RJ (m₀ : Str → Option Value) (val : Nat → Tok → Value) (k : Nat) (m : Str → Option Value) (nx : List (Addr × Obj)) : Prop :=
  nx = [] ∧ (∃ t, m (Str.ofString "value") = some (val k t)) ∧ ∀ z, z ≠ Str.ofString "element" → z ≠ Str.ofString "value" → m z = m₀ z
section
variable {prog : Program} {w : World} {A : Around} {E : Value → Shared → Prop} {s : Shared} {env : Env} {h₀ : Heap} {body : List Stmt} {Q : Flow → Shared → Prop} {I : Addr} {fp : List Addr} {n : Nat} {P : Nat → Value → Prop} {St : Nat → Heap → Prop} {m₀ : PySem.Str → Option Value} {val : Nat → Tok → Value} {t₀ : Tok}
theorem red_loop (W : Walks prog w A I fp [I] n P St) (hLf : env.locals ∉ fp) (hI : h₀.get? I = none) (hst : St 0 s.heap) (F : Fr h₀ env.locals s.heap m₀) (hv : m₀ (Str.ofString "value") = some (val 0 t₀))
    (turn : ∀ k v t h tk own, k < n → P k v → KstMark → Fr h₀ env.locals h (fun y => if y = Str.ofString "element" then some v else kstB m₀ [(Str.ofString "value", val k t)] y) → News h₀ env.locals h own →
      wpAny (model prog w) A (execs body env) (InvPostN h₀ env.locals (RJ m₀ val (k + 1)) own [] { s with heap := h, toks := tk } Q) E { s with heap := h, toks := tk })
    (done : ∀ t (u : PySem.Str → Option Value) h tk, Fr h₀ env.locals h (fun y => if y = Str.ofString "element" then u y else kstB m₀ [(Str.ofString "value", val n t)] y) → News h₀ env.locals h [] → Q .next { s with heap := h, toks := tk }) :
    wpAny (model prog w) A (pyIter (.ref I)) (fun it s₂ => LoopAtV prog w A h₀ env (Str.ofString "element") body Q E it s₂) E s := by
  refine W.self 0 s _ _ hst ?_
  refine loop_invN (news := []) (fun k m nx => RJ m₀ val k m nx) W hLf (fun b hb => by rw [List.mem_singleton.mp hb]; exact hI) (fun p hp => by cases hp) (fun p hp => by cases hp) hst F News.nil ⟨rfl, ⟨t₀, hv⟩, fun _ _ _ => rfl⟩ ?_ ?_
  · rintro k v m₁ nx h tk own hk hP _ _ ⟨rfl, ⟨t, ht⟩, hm⟩ F' N'
    refine turn k v t h tk own hk hP kstMark ?_ (by simpa using N')
    have e : (fun y => if y = Str.ofString "element" then some v else kstB m₀ [(Str.ofString "value", val k t)] y) = fun y => if y = Str.ofString "element" then some v else m₁ y := by
      funext y
      by_cases h1 : y = Str.ofString "element"
      · rw [if_pos h1, if_pos h1]
      · rw [if_neg h1, if_neg h1]
        show (if y = Str.ofString "value" then some (val k t) else m₀ y) = m₁ y
        by_cases h2 : y = Str.ofString "value"
        · rw [if_pos h2, h2, ht]
        · rw [if_neg h2, hm y h1 h2]
    rw [e]; exact F'
  · rintro m₁ nx h tk ⟨rfl, ⟨t, ht⟩, hm⟩ F' N'
    refine done t m₁ h tk ?_ N'
    have e : (fun y => if y = Str.ofString "element" then m₁ y else kstB m₀ [(Str.ofString "value", val n t)] y) = m₁ := by
      funext y
      by_cases h1 : y = Str.ofString "element"
      · rw [if_pos h1]
      · rw [if_neg h1]
        show (if y = Str.ofString "value" then some (val n t) else m₀ y) = m₁ y
        by_cases h2 : y = Str.ofString "value"
        · rw [if_pos h2, h2, ht]
        · rw [if_neg h2, hm y h1 h2]
    rw [e]; exact F'
end
end Mine
end
section
open PySem PySem.W PyProof.Rows PySem.Spec PySem.Calls
set_option maxRecDepth 100000
set_option maxHeartbeats 4000000
namespace Mine
/-- values that are octets -/
inductive BytesAre : List Value → List (List UInt8) → Prop where
  | nil : BytesAre [] []
  | cons (b : List UInt8) (t : Tok) {vs : List Value} {bs : List (List UInt8)} : BytesAre vs bs → BytesAre (.bytes b.toArray t :: vs) (b :: bs)
theorem BytesAre.length : ∀ {vs : List Value} {bs : List (List UInt8)}, BytesAre vs bs → vs.length = bs.length
  | _, _, .nil => rfl
  | _, _, .cons _ _ h => by rw [List.length_cons, List.length_cons, h.length]
theorem BytesAre.at : ∀ {vs : List Value} {bs : List (List UInt8)} {i : Nat} {v : Value}, BytesAre vs bs → vs[i]? = some v → ∃ b t, bs[i]? = some b ∧ v = .bytes b.toArray t
  | _, _, _, _, .nil, e => by simp at e
  | _, _, 0, _, .cons b t _, e => ⟨b, t, rfl, by simpa using e.symm⟩
  | _, _, i + 1, _, .cons _ _ h, e => by
    obtain ⟨b, t, h1, h2⟩ := h.at (i := i) (by simpa using e)
    exact ⟨b, t, by simpa using h1, h2⟩
abbrev catVal (x : List UInt8) (xs : List (List UInt8)) (k : Nat) (t : Tok) : Value := .bytes (x ++ (xs.take k).flatten).toArray t
theorem cat_snoc {x b : List UInt8} {xs : List (List UInt8)} {k : Nat} (h : xs[k]? = some b) : x ++ (xs.take (k + 1)).flatten = x ++ (xs.take k).flatten ++ b := by
  rw [List.take_add_one, h, List.flatten_append, List.append_assoc]; simp
theorem cat_len {x b : List UInt8} {xs : List (List UInt8)} {k : Nat} (h : xs[k]? = some b) : (x ++ (xs.take k).flatten).length + b.length ≤ ((x :: xs).flatten).length := by
  have e : xs = xs.take k ++ b :: xs.drop (k + 1) := by
    obtain ⟨hk, hb⟩ := List.getElem?_eq_some_iff.mp h
    rw [← hb, ← List.drop_eq_getElem_cons hk, List.take_append_drop]
  have : (x :: xs).flatten.length = (x ++ (xs.take k).flatten).length + b.length + (xs.drop (k + 1)).flatten.length := by
    conv => lhs; rw [e]
    simp only [List.flatten_cons, List.flatten_append, List.length_append]
    omega
  omega
section
variable {prog : Program} {w : World} {A : Around} {E : Value → Shared → Prop} {s : Shared} {env : Env} {h₀ : Heap} {body : List Stmt} {Q : Flow → Shared → Prop} {I l : Addr} {m₀ : PySem.Str → Option Value} {t t₀ : Tok} {x : List UInt8} {xs : List (List UInt8)} {vs : List Value}
theorem redB_loop (hh : A.handled = none) (hl : h₀.IsList l (.bytes x.toArray t :: vs).toArray) (hB : BytesAre vs xs) (F : Fr h₀ env.locals s.heap m₀) (N : News h₀ env.locals s.heap [(I, liObj l (0 + 1))]) (hv : m₀ (Str.ofString "value") = some (.bytes x.toArray t₀))
    (turn : ∀ k b tb t h tk own, xs[k]? = some b → KstMark → Fr h₀ env.locals h (fun y => if y = Str.ofString "element" then some (.bytes b.toArray tb) else kstB m₀ [(Str.ofString "value", .bytes (x ++ (xs.take k).flatten).toArray t)] y) → News h₀ env.locals h own →
      wpAny (model prog w) A (execs body env) (InvPostN h₀ env.locals (RJ m₀ (catVal x xs) (k + 1)) own [] { s with heap := h, toks := tk } Q) E { s with heap := h, toks := tk })
    (done : ∀ t (u : PySem.Str → Option Value) h tk, Fr h₀ env.locals h (fun y => if y = Str.ofString "element" then u y else kstB m₀ [(Str.ofString "value", .bytes (x :: xs).flatten.toArray t)] y) → News h₀ env.locals h [] → Q .next { s with heap := h, toks := tk }) :
    wpAny (model prog w) A (pyIter (.ref I)) (fun it s₂ => LoopAtV prog w A h₀ env (Str.ofString "element") body Q E it s₂) E s := by
  have hm := N _ (.head _)
  obtain ⟨ol, hol, _⟩ := id hl
  have hIl : l ≠ I := fun e => by rw [← e, hol] at hm; cases hm.2.2
  have hLl : env.locals ≠ l := fun e => absurd (Heap.lt_size hol) (Nat.not_lt.mpr (e ▸ F.above))
  have hn : (.bytes x.toArray t :: vs).toArray.size - 1 = xs.length := by simp [hB.length]
  have W := walks_from (Walks.list (prog := prog) (w := w) hh I l hIl (.bytes x.toArray t :: vs).toArray) 1 (by simp)
  rw [hn] at W
  refine red_loop (val := catVal x xs) (t₀ := t₀) W ?_ hm.2.2 ⟨⟨_, hm.1, rfl, rfl⟩, hl.at fun o e => F.keep l o e⟩ F (by rw [hv]; simp [catVal]) ?_ ?_
  · intro h9
    rcases List.mem_cons.mp h9 with e | h9
    · exact hm.2.1 e.symm
    · exact hLl (List.mem_singleton.mp h9)
  · intro k v t' h tk own hk hP hM F' N'
    have hP' : vs[k]? = some v := by
      have : ((.bytes x.toArray t :: vs).toArray)[1 + k]? = some v := hP
      simpa [Nat.add_comm] using this
    obtain ⟨b, tb, h1, rfl⟩ := hB.at hP'
    exact turn k b tb t' h tk own h1 hM F' N'
  · intro t' u h tk F' N'
    refine done t' u h tk ?_ N'
    simpa [catVal] using F'
end
section
variable {w : World} {dp un : Nat} {gd : Option (List Code)} {cn : Str} {cs : Scope} {a : Addr} {ccd : Value} {cl : List (Str × Addr)} {outer : List Env} {A₀ : Around} {base h₀ : Heap} {L : Addr} {m mg mb : Str → Option Value} {s : Shared} {Q E : Value → Shared → Prop}
  {p : Program} {loose : List Str} {mean : ExcName → Option Value}
/-- a def of two that lays octets end to end, wherever it is called from -/
def LamAdd (w : World) (f : Addr) (h : Heap) : Prop :=
  ∀ (dp un : Nat) (gd : Option (List Code)) (cn : Str) (cs : Scope) (a : Addr) (ccd : Value) (cl : List (Str × Addr)) (outer : List Env) (A₀ : Around) (base h₀ : Heap) (L : Addr) (m mg mb : Str → Option Value) (s : Shared) (Q E : Value → Shared → Prop)
    (p : Program) (loose : List Str) (mean : ExcName → Option Value) (x y : List UInt8) (tx ty : Tok), Keeps h s.heap → Below A₀ base outer h₀ → Fr h₀ L s.heap m → (Mine02.hd.heap_1 w.params).In h₀ → Top p loose mean mg mb h₀ → cs.kind = .function →
    dp + 5 < recursionLimit → un + 40 < cLine → x.length + y.length ≤ 16777216 → (∀ t' h' tk', Keeps s.heap h' → Q (.bytes (x ++ y).toArray t') { s with heap := h', toks := tk' }) →
    wpAny (model PySem.Challenge.rw_pu0025_02.row.prog w) (ktrTop dp un gd cn cs L a ccd cl outer) (call (.ref f) [.bytes x.toArray tx, .bytes y.toArray ty]) Q E s
theorem fnKeeps {q : Addr} {h h' : Heap} (x : FnAt q h) (k : Keeps h h') : FnAt q h' := by
  obtain ⟨a1, a2, a3, a4, e⟩ := x
  exact ⟨a1, a2, a3, a4, k _ _ e⟩
theorem reduceB_spec {f l : Addr} {x : List UInt8} {xs : List (List UInt8)} {vs : List Value} : PySem.Challenge.rw_pu0025_02.foot = PySem.Challenge.rw_pu0025_02.foot → Below A₀ base outer h₀ → Fr h₀ L s.heap m → (Mine02.hd.heap_1 w.params).In h₀ → Top p loose mean mg mb h₀ → cs.kind = .function → dp + 15 < recursionLimit → un + 120 < cLine → LamAdd w f s.heap → FnAt f s.heap → s.heap.IsList l vs.toArray →
    BytesAre vs (x :: xs) → ((x :: xs).flatten).length ≤ 1000 →
    (∀ t' h' tk', Keeps s.heap h' → Q (.bytes (x :: xs).flatten.toArray t') { s with heap := h', toks := tk' }) →
    wpAny (model PySem.Challenge.rw_pu0025_02.row.prog w) (ktrTop dp un gd cn cs L a ccd cl outer) (call (.ref 37) [.ref f, .ref l]) Q E s := by
  w_top off
  k_with_none
  k_with "call builtin:iter" => (k_here; (with_reducible show wpAny _ _ (call (Value.builtin "iter") [Value.ref _]) _ _ _); (k_dflt (refine' iter_list ?F ?N ?l ?_; (case F => k_asm); (case N => k_asm); (case l => first | assumption | is_list))); intro i' h' F' N' l1; (try k_lt l1))
  k_with "call builtin:next" => (k_here; (with_reducible show wpAny _ _ (call (Value.builtin "next") [Value.ref _]) _ _ _); (k_dflt (refine' next_list ?F ?N ?U ?l ?x ?_; (case F => k_asm); (case N => k_asm); (case U => k_updF); (case l => first | assumption | is_list); (case x => exact rfl))); intro h' F' N'; (try dsimp only at N'))
  k_with "pyIter ref" => (k_here; (with_reducible show wpAny _ _ (pyIter (Value.ref _)) (fun it s₂ => LoopAtV _ _ _ _ _ _ _ _ _ it s₂) _ _); (rename Fr _ _ _ _ => lF'); (rename News _ _ _ _ => lN'); (with_unfolding_all refine' redB_loop rfl hl hv lF' lN' rfl ?_ ?_); clear lF' lN'; (all_goals first
    | (intro k b tb t9 h9 tk9 own hx hM F9 N9)
    | (intro t9 u h9 tk9 F9 N9)); (all_goals (try k_fold)))
  k_with "callWith ref" => (k_here; k_dflt (refine' callWith_F ?k1 ?_; (case k1 => exact fnKeeps hFn (by assumption : Fr s.heap _ _ _).keep)))
  k_with "FnAt" => (exact fnKeeps hFn (by assumption : Fr s.heap _ _ _).keep)
  k_with "InvEndN" => ((rename News _ _ _ _ => nE'); (refine InvEndN.intro (nx := []) (by assumption) nE' ⟨rfl, ⟨_, Eq.trans rfl (congrArg (fun z => some (Value.bytes (List.toArray z) _)) (cat_snoc hx).symm)⟩, (by (intro z z0 z1; simp only [kstB, if_neg z0, if_neg z1]))⟩ rfl (fun _ h => by cases h) (fun _ h => h)))
  k_with "And" => ((with_reducible show FnAt _ _ ∧ _); (refine ⟨fnKeeps hFn (by assumption : Fr s.heap _ _ _).keep, ?_⟩); (try dsimp only [List.nil_append, List.cons_append]))
  k_with "call ref" => (k_here; (with_reducible show wpAny _ _ (call (Value.ref _) [Value.bytes _ _, Value.bytes _ _]) _ _ _); (k_dflt (refine' hL _ _ _ _ _ _ _ _ _ _ _ _ _ _ _ _ _ _ _ _ _ _ _ _ _ _ ?k0 ?k1 ?k2 ?k3 ?k4 ?kK ?kd ?ku ?kz ?_; (case k1 => k_asm); (case k2 => k_asm); (case k3 => k_asm); (case k4 => k_asm); (case k0 => exact (by assumption : Fr s.heap _ _ _).keep); (case kK => first | exact rfl | assumption); (case kd => ktr_room); (case ku => ktr_units); (case kz => ((have hc := cat_len (x := x) hx); omega)))); intro t9 h9 tk9 K9; (have F9 := keepsFr (by k_asm) K9); (have N9 := keepsNews (by k_asm) K9); clear K9; (try dsimp only); (try k_fold))
  k_fill
  intro _ B F X T hk hd hu hL hFn hl hv hz hret
  unfold LamAdd at hL
  cases hv with
  | cons b t hv =>
  k_dflt (refine' callK (by assumption) (by assumption) (by assumption) (by assumption) rfl rfl (by assumption) ?k6 ?k7 ?k8 ?k9 ?kB ?c5 ?c2 ?c3 ?c4 ?_; (case k6 => k_is); (case k7 => k_is); (case k8 => ktr_room); (case k9 => first | exact BindsTo.of_eq rfl | exact binds_K (by k_in) rfl (by k_is) rfl rfl rfl); (case c5 => decide); (case kB => exact locs rfl); (case c2 => exact rfl); (case c3 => exact rfl); (case c4 => exact rfl))
  intro L' h' F' N' B' X' T'
  clear B F X T
  k_steps
  all_goals (exact hret _ _ _ (by assumption : Fr s.heap _ _ _).keep)
end
end Mine
end
section
open PySem PySem.W PyProof.Rows PySem.Spec PySem.Calls
set_option maxRecDepth 100000
set_option maxHeartbeats 4000000
namespace Mine
/-- the number whose figures to the base 256 are given -/
def num256 (l : List UInt8) : Int := l.foldl (fun a c => a * 256 + (c.toNat : Int)) 0
theorem num256_snoc (l : List UInt8) (c : UInt8) : num256 (l ++ [c]) = num256 l * 256 + (c.toNat : Int) := by simp [num256]
theorem num256_fold : ∀ (l : List UInt8) (a : Int), 0 ≤ a → 0 ≤ l.foldl (fun a c => a * 256 + (c.toNat : Int)) a ∧ l.foldl (fun a c => a * 256 + (c.toNat : Int)) a < (a + 1) * 256 ^ l.length
  | [], a, h => ⟨h, by simp; lia⟩
  | c :: l, a, h => by
    have hc := c.toNat_lt
    obtain ⟨h1, h2⟩ := num256_fold l (a * 256 + (c.toNat : Int)) (by lia)
    refine ⟨h1, Int.lt_of_lt_of_le h2 ?_⟩
    rw [List.length_cons, Int.pow_succ, Int.mul_comm (256 ^ l.length) 256, ← Int.mul_assoc]
    exact Int.mul_le_mul_of_nonneg_right (by lia) (Int.le_of_lt (pow_pos_of (by decide) _))
theorem num256_bounds (l : List UInt8) : 0 ≤ num256 l ∧ num256 l < 256 ^ l.length := by
  have := num256_fold l 0 (by decide)
  simpa [num256] using this
theorem num256_bits (l : List UInt8) (h : l.length ≤ 1000) : Builtin.Int.intBits (num256 l) ≤ 8000 := by
  rw [intBits_le_iff]
  obtain ⟨h0, h1⟩ := num256_bounds l
  have h2 : (256 : Int) ^ l.length ≤ 2 ^ 8000 := by
    have e : (256 : Int) = 2 ^ 8 := rfl
    rw [e, ← Int.pow_mul]
    exact_mod_cast Nat.pow_le_pow_right (by decide : 0 < 2) (by lia : 8 * l.length ≤ 8000)
  have h3 : num256 l < 2 ^ 8000 := Int.lt_of_lt_of_le h1 h2
  have h4 : ((num256 l).natAbs : Int) = num256 l := Int.natAbs_of_nonneg h0
  have h5 : ((num256 l).natAbs : Int) < ((2 ^ 8000 : Nat) : Int) := by
    rw [h4]
    exact_mod_cast h3
  exact_mod_cast h5
/-- a def of two that puts a figure behind a number, wherever it is called from -/
def LamMul (w : World) (f : Addr) (h : Heap) : Prop :=
  ∀ (dp un : Nat) (gd : Option (List Code)) (cn : Str) (cs : Scope) (a : Addr) (ccd : Value) (cl : List (Str × Addr)) (outer : List Env) (A₀ : Around) (base h₀ : Heap) (L : Addr) (m mg mb : Str → Option Value) (s : Shared) (Q E : Value → Shared → Prop)
    (p : Program) (loose : List Str) (mean : ExcName → Option Value) (x y : Int) (tx ty : Tok), Keeps h s.heap → Below A₀ base outer h₀ → Fr h₀ L s.heap m → (Mine02.hd.heap_1 w.params).In h₀ → Top p loose mean mg mb h₀ → cs.kind = .function →
    dp + 5 < recursionLimit → un + 40 < cLine → Builtin.Int.intBits x ≤ 8000 → (∀ t' h' tk', Keeps s.heap h' → Q (.int (x * 256 + y) t') { s with heap := h', toks := tk' }) →
    wpAny (model PySem.Challenge.rw_pu0025_02.row.prog w) (ktrTop dp un gd cn cs L a ccd cl outer) (call (.ref f) [.int x tx, .int y ty]) Q E s
abbrev biObj (b : Array UInt8) (t : Tok) (i : Nat) : Obj := { cls := .type "bytes_iterator", data := .fields #[.bytes b t, .int i 0] }
abbrev numVal (l : List UInt8) (k : Nat) (t : Tok) : Value := .int (num256 (l.take k)) t
theorem num_snoc {l : List UInt8} {k : Nat} {c : UInt8} (h : l[k]? = some c) : num256 (l.take (k + 1)) = num256 (l.take k) * 256 + (c.toNat : Int) := by
  rw [List.take_add_one, h]; exact num256_snoc _ _
section
variable {prog : Program} {w : World} {A : Around} {E Q : Value → Shared → Prop} {s : Shared} {h₀ : Heap} {L : Addr} {m : Str → Option Value} {news : List (Addr × Obj)} {b : Array UInt8} {t : Tok}
theorem iter_bytes (F : Fr h₀ L s.heap m) (N : News h₀ L s.heap news)
    (h : ∀ I h', Fr h₀ L h' m → News h₀ L h' ((I, biObj b t 0) :: news) → (∀ p ∈ news, p.1 < I) → Q (.ref I) { s with heap := h' }) : wpAny (model prog w) A (call (.builtin "iter") [.bytes b t]) Q E s := by
  refine call_function_entry (by decide +kernel) (by decide +kernel) kdk_entry_iter (kdk_args_iter _) ?_
  unfold Builtin.«iter»
  refine wpAny_bind (m := someArgs "iter" 1 2 _) (wpAny_of_eq (a := [Value.bytes b t]) (by first | rfl | kernel_rfl!) ?_)
  show wpAny _ _ (pyIter (.bytes b t) >>= _) _ _ _
  refine wpAny_bind (KBw.pyIter_bytes ?_)
  exact wpAny_pure ⟨_, rfl, h _ _ (F.push _) (News.push F N _ rfl) (fun q hq => Heap.lt_size (N q hq).1)⟩
end
section
variable {prog : Program} {w : World} {A : Around} {E : Value → Shared → Prop} {s : Shared} {env : Env} {h₀ : Heap} {body : List Stmt} {Q : Flow → Shared → Prop} {I : Addr} {m₀ : PySem.Str → Option Value} {t t₀ : Tok} {l : List UInt8}
theorem redI_loop (hh : A.handled = none) (F : Fr h₀ env.locals s.heap m₀) (N : News h₀ env.locals s.heap [(I, biObj l.toArray t 0)]) (hv : m₀ (Str.ofString "value") = some (.int 0 t₀))
    (turn : ∀ k c tb t h tk own, l[k]? = some c → KstMark → Fr h₀ env.locals h (fun y => if y = Str.ofString "element" then some (.int (c.toNat : Int) tb) else kstB m₀ [(Str.ofString "value", .int (num256 (l.take k)) t)] y) → News h₀ env.locals h own →
      wpAny (model prog w) A (execs body env) (InvPostN h₀ env.locals (RJ m₀ (numVal l) (k + 1)) own [] { s with heap := h, toks := tk } Q) E { s with heap := h, toks := tk })
    (done : ∀ t (u : PySem.Str → Option Value) h tk, Fr h₀ env.locals h (fun y => if y = Str.ofString "element" then u y else kstB m₀ [(Str.ofString "value", .int (num256 l) t)] y) → News h₀ env.locals h [] → Q .next { s with heap := h, toks := tk }) :
    wpAny (model prog w) A (pyIter (.ref I)) (fun it s₂ => LoopAtV prog w A h₀ env (Str.ofString "element") body Q E it s₂) E s := by
  have hm := N _ (.head _)
  have W := KBw.walks (prog := prog) (w := w) hh I l.toArray t
  rw [show l.toArray.size = l.length by simp] at W
  refine red_loop (val := numVal l) (t₀ := t₀) W ?_ hm.2.2 ⟨_, hm.1, rfl, rfl⟩ F (by rw [hv]; rfl) ?_ ?_
  · intro h9
    exact hm.2.1 (List.mem_singleton.mp h9).symm
  · intro k v t' h tk own hk hP hM F' N'
    obtain ⟨c, u, hc, rfl⟩ := hP
    exact turn k c u t' h tk own (by simpa using hc) hM F' N'
  · intro t' u h tk F' N'
    refine done t' u h tk ?_ N'
    simpa [numVal] using F'
end
section
variable {w : World} {dp un : Nat} {gd : Option (List Code)} {cn : Str} {cs : Scope} {a : Addr} {ccd : Value} {cl : List (Str × Addr)} {outer : List Env} {A₀ : Around} {base h₀ : Heap} {L : Addr} {m mg mb : Str → Option Value} {s : Shared} {Q E : Value → Shared → Prop}
  {p : Program} {loose : List Str} {mean : ExcName → Option Value}
theorem reduceI_spec {f : Addr} {l : List UInt8} {tb t0 : Tok} : PySem.Challenge.rw_pu0025_02.foot = PySem.Challenge.rw_pu0025_02.foot → Below A₀ base outer h₀ → Fr h₀ L s.heap m → (Mine02.hd.heap_1 w.params).In h₀ → Top p loose mean mg mb h₀ → cs.kind = .function → dp + 15 < recursionLimit → un + 120 < cLine → LamMul w f s.heap → FnAt f s.heap → l.length ≤ 1000 →
    (∀ t' h' tk', Keeps s.heap h' → Q (.int (num256 l) t') { s with heap := h', toks := tk' }) →
    wpAny (model PySem.Challenge.rw_pu0025_02.row.prog w) (ktrTop dp un gd cn cs L a ccd cl outer) (call (.ref 37) [.ref f, .bytes l.toArray tb, .int 0 t0]) Q E s := by
  w_top off
  k_with_none
  k_with "compareOp Is int ref" => (k_here; refine wpAny_is_other (by rfl) (by intro x; cases x) ?_)
  k_with "call builtin:iter" => (k_here; (with_reducible show wpAny _ _ (call (Value.builtin "iter") [Value.bytes _ _]) _ _ _); (k_dflt (refine' iter_bytes ?F ?N ?_; (case F => k_asm); (case N => k_asm))); intro i' h' F' N' l1; (try k_lt l1))
  k_with "pyIter ref" => (k_here; (with_reducible show wpAny _ _ (pyIter (Value.ref _)) (fun it s₂ => LoopAtV _ _ _ _ _ _ _ _ _ it s₂) _ _); (rename Fr _ _ _ _ => lF'); (rename News _ _ _ _ => lN'); (with_unfolding_all refine' redI_loop rfl lF' lN' rfl ?_ ?_); clear lF' lN'; (all_goals first
    | (intro k c tc t9 h9 tk9 own hx hM F9 N9)
    | (intro t9 u h9 tk9 F9 N9)); (all_goals (try k_fold)))
  k_with "callWith ref" => (k_here; k_dflt (refine' callWith_F ?k1 ?_; (case k1 => exact fnKeeps hFn (by assumption : Fr s.heap _ _ _).keep)))
  k_with "FnAt" => (exact fnKeeps hFn (by assumption : Fr s.heap _ _ _).keep)
  k_with "InvEndN" => ((rename News _ _ _ _ => nE'); (refine InvEndN.intro (nx := []) (by assumption) nE' ⟨rfl, ⟨_, Eq.trans rfl (congrArg (fun z => some (Value.int z _)) (num_snoc hx).symm)⟩, (by (intro z z0 z1; simp only [kstB, if_neg z0, if_neg z1]))⟩ rfl (fun _ h => by cases h) (fun _ h => h)))
  k_with "And" => ((with_reducible show FnAt _ _ ∧ _); (refine ⟨fnKeeps hFn (by assumption : Fr s.heap _ _ _).keep, ?_⟩); (try dsimp only [List.nil_append, List.cons_append]))
  k_with "call ref" => (k_here; (with_reducible show wpAny _ _ (call (Value.ref _) [Value.int _ _, Value.int _ _]) _ _ _); (k_dflt (refine' hL _ _ _ _ _ _ _ _ _ _ _ _ _ _ _ _ _ _ _ _ _ _ _ _ _ _ ?k0 ?k1 ?k2 ?k3 ?k4 ?kK ?kd ?ku ?kz ?_; (case k1 => k_asm); (case k2 => k_asm); (case k3 => k_asm); (case k4 => k_asm); (case k0 => exact (by assumption : Fr s.heap _ _ _).keep); (case kK => first | exact rfl | assumption); (case kd => ktr_room); (case ku => ktr_units); (case kz => exact num256_bits _ (by rw [List.length_take]; lia)))); intro t9 h9 tk9 K9; (have F9 := keepsFr (by k_asm) K9); (have N9 := keepsNews (by k_asm) K9); clear K9; (try dsimp only); (try k_fold))
  k_fill
  intro _ B F X T hk hd hu hL hFn hz hret
  unfold LamMul at hL
  k_dflt (refine' callK (by assumption) (by assumption) (by assumption) (by assumption) rfl rfl (by assumption) ?k6 ?k7 ?k8 ?k9 ?kB ?c5 ?c2 ?c3 ?c4 ?_; (case k6 => k_is); (case k7 => k_is); (case k8 => ktr_room); (case k9 => first | exact BindsTo.of_eq rfl | exact binds_K (by k_in) rfl (by k_is) rfl rfl rfl); (case c5 => decide); (case kB => exact locs rfl); (case c2 => exact rfl); (case c3 => exact rfl); (case c4 => exact rfl))
  intro L' h' F' N' B' X' T'
  clear B F X T
  k_steps
  all_goals (first | exact hret _ _ _ (by assumption : Fr s.heap _ _ _).keep | w_report)
end
end Mine
end
section
open PySem PySem.W PyProof.Rows PySem.Spec PySem.Calls
set_option maxRecDepth 100000
set_option maxHeartbeats 4000000
namespace Mine
theorem idx_odd {n : Nat} (h : (n : Int).fmod 2 = 1) : ((n : Int).fdiv 2).toNat = (n - 1) / 2 := by
  rw [Int.fmod_eq_emod_of_nonneg _ (by decide)] at h
  rw [Int.fdiv_eq_ediv_of_nonneg _ (by decide)]
  omega
theorem idx_even {n : Nat} (h : (n : Int).fmod 2 ≠ 1) : ((n : Int).fdiv 2 - 1).toNat = (n - 1) / 2 := by
  rw [Int.fmod_eq_emod_of_nonneg _ (by decide)] at h
  rw [Int.fdiv_eq_ediv_of_nonneg _ (by decide)]
  omega
theorem idx_half {n : Nat} : ((n : Int).fdiv 2).toNat = n / 2 := by
  rw [Int.fdiv_eq_ediv_of_nonneg _ (by decide)]
  omega
section
variable {w : World} {dp un : Nat} {gd : Option (List Code)} {cn : Str} {cs : Scope} {a : Addr} {ccd : Value} {cl : List (Str × Addr)} {outer : List Env} {A₀ : Around} {base h₀ : Heap} {L : Addr} {m mg mb : Str → Option Value} {s : Shared} {Q E : Value → Shared → Prop}
  {p : Program} {loose : List Str} {mean : ExcName → Option Value}
theorem low_spec {l : Addr} {vs : List Value} {ns : List Int} : PySem.Challenge.rw_pu0025_02.foot = PySem.Challenge.rw_pu0025_02.foot → Below A₀ base outer h₀ → Fr h₀ L s.heap m → (Mine02.hd.heap_1 w.params).In h₀ → Top p loose mean mg mb h₀ → cs.kind = .function → dp + 15 < recursionLimit → un + 120 < cLine → s.heap.IsList l vs.toArray → IntsAre vs ns → 0 < ns.length → ns.length < 64 →
    (∀ (ms : List Int) t' h' tk', ms.Perm ns → ms.Pairwise (· ≤ ·) → Keeps s.heap h' → Q (.int (ms.getD ((ns.length - 1) / 2) 0) t') { s with heap := h', toks := tk' }) →
    wpAny (model PySem.Challenge.rw_pu0025_02.row.prog w) (ktrTop dp un gd cn cs L a ccd cl outer) (call (.ref 138) [.ref l]) Q E s := by
  w_top off
  k_with_none
  k_fill
  intro _ B F X T hk hd hu hl hI h0 h1 hret
  k_dflt (refine' callK (by assumption) (by assumption) (by assumption) (by assumption) rfl rfl (by assumption) ?k6 ?k7 ?k8 ?k9 ?kB ?c5 ?c2 ?c3 ?c4 ?_; (case k6 => k_is); (case k7 => k_is); (case k8 => ktr_room); (case k9 => first | exact BindsTo.of_eq rfl | exact binds_K (by k_in) rfl (by k_is) rfl rfl rfl); (case c5 => decide); (case kB => exact locs rfl); (case c2 => exact rfl); (case c3 => exact rfl); (case c4 => exact rfl))
  intro L' h' F' N' B' X' T'
  clear B F X T
  k_steps
  all_goals (rename List.Perm _ _ => hp; rename List.Pairwise _ _ => ho; have hn := hp.length_eq; first
    | (exfalso; omega)
    | (rw [idx_odd (by assumption), hn]; exact hret _ _ _ _ hp ho (by assumption : Fr s.heap _ _ _).keep)
    | (rw [idx_even (by assumption), hn]; exact hret _ _ _ _ hp ho (by assumption : Fr s.heap _ _ _).keep))
theorem high_spec {l : Addr} {vs : List Value} {ns : List Int} : PySem.Challenge.rw_pu0025_02.foot = PySem.Challenge.rw_pu0025_02.foot → Below A₀ base outer h₀ → Fr h₀ L s.heap m → (Mine02.hd.heap_1 w.params).In h₀ → Top p loose mean mg mb h₀ → cs.kind = .function → dp + 15 < recursionLimit → un + 120 < cLine → s.heap.IsList l vs.toArray → IntsAre vs ns → 0 < ns.length → ns.length < 64 →
    (∀ (ms : List Int) t' h' tk', ms.Perm ns → ms.Pairwise (· ≤ ·) → Keeps s.heap h' → Q (.int (ms.getD (ns.length / 2) 0) t') { s with heap := h', toks := tk' }) →
    wpAny (model PySem.Challenge.rw_pu0025_02.row.prog w) (ktrTop dp un gd cn cs L a ccd cl outer) (call (.ref 145) [.ref l]) Q E s := by
  w_top off
  k_with_none
  k_fill
  intro _ B F X T hk hd hu hl hI h0 h1 hret
  k_dflt (refine' callK (by assumption) (by assumption) (by assumption) (by assumption) rfl rfl (by assumption) ?k6 ?k7 ?k8 ?k9 ?kB ?c5 ?c2 ?c3 ?c4 ?_; (case k6 => k_is); (case k7 => k_is); (case k8 => ktr_room); (case k9 => first | exact BindsTo.of_eq rfl | exact binds_K (by k_in) rfl (by k_is) rfl rfl rfl); (case c5 => decide); (case kB => exact locs rfl); (case c2 => exact rfl); (case c3 => exact rfl); (case c4 => exact rfl))
  intro L' h' F' N' B' X' T'
  clear B F X T
  k_steps
  all_goals (rename List.Perm _ _ => hp; rename List.Pairwise _ _ => ho; have hn := hp.length_eq; first
    | (exfalso; omega)
    | (rw [idx_half, hn]; exact hret _ _ _ _ hp ho (by assumption : Fr s.heap _ _ _).keep))
end
end Mine
end
section
open PySem PySem.W PyProof.Rows PySem.Spec PySem.Calls
set_option maxRecDepth 100000
set_option maxHeartbeats 4000000
namespace Mine
/-- one more of a figure -/
def bump (cs : List Int) (f : Int) : List Int := cs.set f.toNat (cs.getD f.toNat 0 + 1)
def figs (x : Int) : List Int := [x % 64, x / 64 % 64, x / 4096 % 64, x / 262144 % 64]
def cnt (ns : List Int) : List Int := ns.foldl (fun cs x => (figs x).foldl bump cs) (List.replicate 64 0)
def num24 (ns : List Int) : Int := ns.foldl (fun a x => a * 16777216 + x) 0
theorem bump_len (cs : List Int) (f : Int) : (bump cs f).length = cs.length := by simp [bump]
theorem bumps_len : ∀ (fs cs : List Int), (fs.foldl bump cs).length = cs.length
  | [], _ => rfl
  | f :: fs, cs => by rw [List.foldl_cons, bumps_len fs, bump_len]
theorem cnt_snoc (ns : List Int) (x : Int) : cnt (ns ++ [x]) = (figs x).foldl bump (cnt ns) := by simp [cnt]
theorem num24_snoc (ns : List Int) (x : Int) : num24 (ns ++ [x]) = num24 ns * 16777216 + x := by simp [num24]
/-- between the turns of the first loop -/
structure UInv (pre cs : List Int) (nb : Int) : Prop where
  uc : cs = cnt pre
  un : nb = num24 pre
  ulen : cs.length = 64
  ubits : Builtin.Int.intBits nb ≤ 100 * pre.length + 1
theorem UInv.start : UInv [] (List.replicate 64 0) 0 := ⟨rfl, rfl, by simp, by decide⟩
abbrev US : Type := List Value × List Int × Nat × Int × Tok
abbrev usLed (D : Addr) (c : US) : List (Addr × Obj) := [(D, W.listOf c.1.toArray c.2.2.1)]
abbrev usPs (c : US) : List (Str × Value) := [(Str.ofString "number", .int c.2.2.2.1 c.2.2.2.2)]
abbrev usFa (c : US) : Prop := IntsAre c.1 c.2.1
abbrev usP (pre : List Int) (c : US) : Prop := UInv pre c.2.1 c.2.2.2.1
theorem ints_zeros (t : Tok) : ∀ n : Nat, IntsAre (List.replicate n [Value.int 0 t]).flatten (List.replicate n 0)
  | 0 => .nil
  | n + 1 => by rw [List.replicate_succ, List.replicate_succ, List.flatten_cons]; exact .cons 0 t (ints_zeros t n)
section
variable {prog : Program} {w : World} {A : Around} {E : Value → Shared → Prop} {s : Shared} {env : Env} {h₀ : Heap} {x : PySem.Str} {body : List Stmt} {Q : Flow → Shared → Prop}
theorem due_loop1 {l D l' : Addr} {vs : List Value} {ns : List Int} {t t1 : Tok} {o' : Obj} {m₀ : PySem.Str → Option Value} (hn : ∀ x ∈ ns, 0 ≤ x ∧ x < 16777216) (hh : A.handled = none) (hl : h₀.IsList l vs.toArray) (hi : IntsAre vs ns) (F : Fr h₀ env.locals s.heap m₀)
    (N : News h₀ env.locals s.heap [(D, W.listOf (List.replicate (Int.toNat 64) [Value.int 0 t]).flatten.toArray 0), (l', o')]) (e1 : m₀ (Str.ofString "number") = some (.int 0 t1))
    (turn : ∀ (cv : List Value) (cs : List Int) (n : Nat) (nb : Int) (tn : Tok) (pre : List Int) (y : Int) ty (u : PySem.Str → Option Value) h tk own, pre.length < ns.length → 0 ≤ y → y < 16777216 → OwnOff own [D] → IntsAre cv cs → UInv pre cs nb → KstMark →
      Fr h₀ env.locals h (fun z => if z = x then some (.int y ty) else kstB (fun z => if [Str.ofString "k"].contains z then u z else m₀ z) [(Str.ofString "number", .int nb tn)] z) → News h₀ env.locals h ((D, W.listOf cv.toArray n) :: own) →
      wpAny (model prog w) A (execs body env) (InvPostN h₀ env.locals (KstS (usLed D) usPs usFa x [Str.ofString "k"] m₀ usP (pre ++ [y])) own [D] { s with heap := h, toks := tk } Q) E { s with heap := h, toks := tk })
    (done : ∀ (cv : List Value) (cs : List Int) (n : Nat) (nb : Int) (tn : Tok) (u : PySem.Str → Option Value) h tk, IntsAre cv cs → UInv ns cs nb →
      Fr h₀ env.locals h (fun z => if z = x then u z else kstB (fun z => if [Str.ofString "k"].contains z then u z else m₀ z) [(Str.ofString "number", .int nb tn)] z) → News h₀ env.locals h [(D, W.listOf cv.toArray n)] → Q .next { s with heap := h, toks := tk }) :
    wpAny (model prog w) A (pyIter (.ref l)) (fun it s₂ => LoopAtV prog w A h₀ env x body Q E it s₂) E s := by
  refine kst_list (usLed D) usPs usFa [Str.ofString "k"] usP ((List.replicate (Int.toNat 64) [Value.int 0 t]).flatten, List.replicate 64 0, 0, 0, t1) hh hl hi F (fun p hp => N p (by rw [List.mem_singleton.mp hp]; exact .head _)) (ints_zeros t 64) ?_ UInv.start ?_ ?_
  · intro p hp
    rw [List.mem_singleton.mp hp]
    exact e1
  · rintro ⟨cv, cs, n, nb, tn⟩ pre post y ty u h tk own e hm hoff hfa hP F' N'
    have hlt : pre.length < ns.length := by rw [e]; simp
    exact turn cv cs n nb tn pre y ty u h tk own hlt (hn y hm).1 (hn y hm).2 hoff hfa hP kstMark F' N'
  · rintro ⟨cv, cs, n, nb, tn⟩ u h tk hfa hP F' N'
    exact done cv cs n nb tn u h tk hfa hP F' N'
end
/-- the inner loop: figure by figure -/
def bumpsTo (y : Int) (cs : List Int) (j : Nat) : List Int := ((figs y).take j).foldl bump cs
structure VInv (y : Int) (cs0 : List Int) (pre cs : List Int) : Prop where
  vc : cs = bumpsTo y cs0 pre.length
  vlen : cs.length = 64
abbrev VS : Type := List Value × List Int × Nat
abbrev vsLed (D : Addr) (own : List (Addr × Obj)) (c : VS) : List (Addr × Obj) := (D, W.listOf c.1.toArray c.2.2) :: own
abbrev vsPs (_ : VS) : List (Str × Value) := []
abbrev vsFa (c : VS) : Prop := IntsAre c.1 c.2.1
abbrev vsP (y : Int) (cs0 pre : List Int) (c : VS) : Prop := VInv y cs0 pre c.2.1
theorem bumpsTo_step {y : Int} {cs : List Int} {j : Nat} {f : Int} (h : (figs y)[j]? = some f) : bumpsTo y cs (j + 1) = bump (bumpsTo y cs j) f := by
  unfold bumpsTo
  rw [List.take_add_one, h, List.foldl_append]; rfl
section
variable {prog : Program} {w : World} {A : Around} {E : Value → Shared → Prop} {s : Shared} {env : Env} {h₀ : Heap} {x : PySem.Str} {body : List Stmt} {Q : Flow → Shared → Prop}
theorem due_loop2 {r D : Addr} {y : Int} {t₀ u₀ v₀ : Tok} {cv0 : List Value} {cs0 : List Int} {n0 : Nat} {own : List (Addr × Obj)} {m₀ : PySem.Str → Option Value} (hh : A.handled = none) (hr : IsRange s.heap r 0 4 1 t₀ u₀ v₀) (F : Fr h₀ env.locals s.heap m₀)
    (N : News h₀ env.locals s.heap ((D, W.listOf cv0.toArray n0) :: own)) (hI : IntsAre cv0 cs0) (hl : cs0.length = 64)
    (turn : ∀ (cv : List Value) (cs : List Int) (n : Nat) (pre : List Int) (k : Int) tk' (u : PySem.Str → Option Value) h tk own', (k = 0 ∨ k = 1 ∨ k = 2 ∨ k = 3) → (pre.length : Int) = k → OwnOff own' (D :: own.map (·.1)) → IntsAre cv cs → VInv y cs0 pre cs → KstMark →
      Fr h₀ env.locals h (fun z => if z = x then some (.int k tk') else m₀ z) → News h₀ env.locals h ((D, W.listOf cv.toArray n) :: (own ++ own')) →
      wpAny (model prog w) A (execs body env) (InvPostN h₀ env.locals (KstS (vsLed D own) vsPs vsFa x [] m₀ (vsP y cs0) (pre ++ [k])) own' (D :: own.map (·.1)) { s with heap := h, toks := tk } Q) E { s with heap := h, toks := tk })
    (done : ∀ (cv : List Value) (cs : List Int) (n : Nat) (u : PySem.Str → Option Value) h tk, IntsAre cv cs → cs = (figs y).foldl bump cs0 → cs.length = 64 →
      Fr h₀ env.locals h (fun z => if z = x then u z else m₀ z) → News h₀ env.locals h ((D, W.listOf cv.toArray n) :: own) → Q .next { s with heap := h, toks := tk }) :
    wpAny (model prog w) A (pyIter (.ref r)) (fun it s₂ => LoopAtV prog w A h₀ env x body Q E it s₂) E s := by
  refine kst_range (n := 4) (vsLed D own) vsPs vsFa [] (vsP y cs0) (cv0, cs0, n0) hh hr (by decide) (by decide) F N hI (fun p hp => by cases hp) ⟨rfl, hl⟩ ?_ ?_
  · rintro ⟨cv, cs, n⟩ pre k tk' u h tk own' hk hlt hoff hfa hP F' N'
    exact turn cv cs n pre k tk' u h tk own' (by lia) (by lia) hoff hfa hP kstMark F' N'
  · rintro ⟨cv, cs, n⟩ u h tk hfa hP F' N'
    refine done cv cs n u h tk hfa ?_ hP.vlen F' N'
    exact hP.vc.trans rfl
end
theorem VInv.step {y k : Int} {cs0 pre cs cs' : List Int} (h : VInv y cs0 pre cs) (hk : (pre.length : Int) = k) {f : Int} (hf : (figs y)[k.toNat]? = some f) (hc : cs' = bump cs f) : VInv y cs0 (pre ++ [k]) cs' := by
  have e : k.toNat = pre.length := by lia
  rw [e] at hf
  refine ⟨?_, ?_⟩
  · rw [hc, h.vc, List.length_append, List.length_singleton, bumpsTo_step hf]
  · rw [hc, bump_len]; exact h.vlen
theorem fig0 (y : Int) : (y.fdiv (64 ^ Int.toNat 0)).fmod 64 = y % 64 := by
  rw [Int.fmod_eq_emod_of_nonneg _ (by decide), Int.fdiv_eq_ediv_of_nonneg _ (by decide), show (64 : Int) ^ Int.toNat 0 = 1 from rfl, Int.ediv_one]
theorem fig1 (y : Int) : (y.fdiv (64 ^ Int.toNat 1)).fmod 64 = y / 64 % 64 := by
  rw [Int.fmod_eq_emod_of_nonneg _ (by decide), Int.fdiv_eq_ediv_of_nonneg _ (by decide)]; rfl
theorem fig2 (y : Int) : (y.fdiv (64 ^ Int.toNat 2)).fmod 64 = y / 4096 % 64 := by
  rw [Int.fmod_eq_emod_of_nonneg _ (by decide), Int.fdiv_eq_ediv_of_nonneg _ (by decide)]; rfl
theorem fig3 (y : Int) : (y.fdiv (64 ^ Int.toNat 3)).fmod 64 = y / 262144 % 64 := by
  rw [Int.fmod_eq_emod_of_nonneg _ (by decide), Int.fdiv_eq_ediv_of_nonneg _ (by decide)]; rfl
theorem VInv.t0 {y : Int} {cs0 pre cs : List Int} (h : VInv y cs0 pre cs) (hk : (pre.length : Int) = 0) : VInv y cs0 (pre ++ [0]) (cs.set ((y.fdiv (64 ^ Int.toNat 0)).fmod 64).toNat (cs.getD ((y.fdiv (64 ^ Int.toNat 0)).fmod 64).toNat 0 + 1)) :=
  h.step hk (f := y % 64) rfl (by rw [fig0]; rfl)
theorem VInv.t1 {y : Int} {cs0 pre cs : List Int} (h : VInv y cs0 pre cs) (hk : (pre.length : Int) = 1) : VInv y cs0 (pre ++ [1]) (cs.set ((y.fdiv (64 ^ Int.toNat 1)).fmod 64).toNat (cs.getD ((y.fdiv (64 ^ Int.toNat 1)).fmod 64).toNat 0 + 1)) :=
  h.step hk (f := y / 64 % 64) rfl (by rw [fig1]; rfl)
theorem VInv.t2 {y : Int} {cs0 pre cs : List Int} (h : VInv y cs0 pre cs) (hk : (pre.length : Int) = 2) : VInv y cs0 (pre ++ [2]) (cs.set ((y.fdiv (64 ^ Int.toNat 2)).fmod 64).toNat (cs.getD ((y.fdiv (64 ^ Int.toNat 2)).fmod 64).toNat 0 + 1)) :=
  h.step hk (f := y / 4096 % 64) rfl (by rw [fig2]; rfl)
theorem VInv.t3 {y : Int} {cs0 pre cs : List Int} (h : VInv y cs0 pre cs) (hk : (pre.length : Int) = 3) : VInv y cs0 (pre ++ [3]) (cs.set ((y.fdiv (64 ^ Int.toNat 3)).fmod 64).toNat (cs.getD ((y.fdiv (64 ^ Int.toNat 3)).fmod 64).toNat 0 + 1)) :=
  h.step hk (f := y / 262144 % 64) rfl (by rw [fig3]; rfl)
theorem ints_set : ∀ {vs : List Value} {ns : List Int} (i : Nat) (v : Int) (t : Tok), IntsAre vs ns → IntsAre (vs.set i (.int v t)) (ns.set i v)
  | _, _, _, _, _, .nil => .nil
  | _, _, 0, v, t, .cons _ _ h => .cons v t h
  | _, _, i + 1, v, t, .cons n u h => .cons n u (ints_set i v t h)
theorem UInv.step {pre cs cs' : List Int} {nb y : Int} (h : UInv pre cs nb) (y0 : 0 ≤ y) (y1 : y < 16777216) (hc : cs' = (figs y).foldl bump cs) : UInv (pre ++ [y]) cs' (nb * 16777216 + y) := by
  obtain ⟨a1, a2, a3, a4⟩ := h
  refine ⟨by rw [hc, a1, cnt_snoc], by rw [a2, num24_snoc], by rw [hc, bumps_len, a3], ?_⟩
  have b1 : Builtin.Int.intBits (16777216 : Int) ≤ 25 := by decide
  have b2 : Builtin.Int.intBits y ≤ 25 := by rw [intBits_le_iff]; lia
  have := intBits_add_le (intBits_mul_le a4 b1) b2
  rw [List.length_append, List.length_singleton]
  lia
end Mine
end
section
open PySem PySem.W PySem.W.X PyProof.Rows
set_option maxRecDepth 100000
namespace Mine
/-- what a node of a written run wants: nothing; an object made in the run; an object that stood; a code table -/
inductive Hi where
  | n
  | w (j : Nat)
  | s (j : Nat)
  | t
noncomputable def hDen (c : Code) : Sem PySem.Fin := PySem.W.ZFast.zw11892475500146522536 PySem.W.ZFast.tableZ c
theorem hDen_eq (c : Code) : denote table c = hDen c := by
  unfold hDen
  rw [← PySem.W.ZFast.ze11892475500146522536, ← PySem.W.ZFast.tableZ_eq]
abbrev RestH := List (Nat × Nat) → BT → Nat → Nat → Ch → KasT Prop
abbrev leafH (P : Prop) : KasT Prop := .ask 0 0 fun _ => .ret P
def holdH : KasT Prop → Prop
  | .ret P => P
  | .ask _ _ k => holdH (k true)
/-- so that nothing looks into it -/
structure HoldH (t : KasT Prop) : Prop where
  out : holdH t
def threeH (_ _ _ : Value) : Sem Bool := pure true
def cmpH (M : Model) (_ _ : Nat) (C : Bool → Shared → Prop) (s : Shared) : Prop := wpAny M callerA (threeH .none .none .none) C (fun _ _ => False) s
theorem hold_of {M : Model} {s : Shared} : ∀ {t : KasT Prop}, t.kasWp (cmpH M) (fun P _ => P) s → HoldH t
  | .ret _, h => ⟨h⟩
  | .ask _ _ k, h => ⟨(hold_of (t := k true) (h _ default caller_in)).out⟩
theorem three_in {M : Model} {A : Around} {C : Bool → Shared → Prop} {E : Value → Shared → Prop} {s : Shared} {a b c : Value} (h : C true s) : wpAny M A (threeH a b c) C E s := wpAny_pure h
theorem ret_in {cmp : Nat → Nat → (Bool → Shared → Prop) → Shared → Prop} {P : Prop} {s : Shared} (h : P) : KasT.kasWp cmp (.ret P) (fun P _ => P) s := h
def accOk (acc : List (Nat × Nat)) : Prop := acc.map (·.1) = acc.map (·.2)
def MeansH (V : XV) (c : Code) (κ : Kont) (t : Sem PySem.Fin) (s : Shared) : Prop := wpOwn (model V.prog V.w) (aroundOf V true κ) c t (postC V.prog V.w (aroundOf V true κ) (endOf V κ)) (postE (endOf V κ)) s
noncomputable def retH (V : XV) (g : Array GenState) (ih : Code → Kont → Sem PySem.Fin → RestH) (r : Result) (κ : Kont) : RestH := match κ with
  | .base => fun acc T m i ch => leafH (accOk acc ∧ ∀ h, Rep V h T m ch → V.R₀ r ⟨h, g, V.d, V.t₀ + i, V.os⟩)
  | .ret c _ k κ => ih c κ (k r)
  | .gen .. => fun _ _ _ _ _ => .ret False
  | .genS .. => fun _ _ _ _ _ => .ret False
noncomputable def stepH (V : XV) (g : Array GenState) (olds : List (Addr × Obj)) (ih : Code → Kont → Sem PySem.Fin → RestH) (x : Hi) (c : Code) (κ : Kont) (t : Sem PySem.Fin) : RestH := match t with
  | .pure fin => match fin with
    | .done f => retH V g ih (.ok f) κ
    | .again c' => fun acc => ih c' κ (hDen c') ((c'.quiet.toNat, 1) :: acc)
  | .raise e => retH V g ih (.error e) κ
  | .load a _ k => match x with
    | .w j => fun acc T m i ch => match T.get j with
      | some o => ih c κ (k o) ((a, V.n₁ + j) :: acc) T m i ch
      | none => .ret False
    | .s j => fun acc T m i ch => match olds[j]? with
      | some p => match (chLook ch p.1).isNone || hasCls p.2 with
        | true => ih c κ (k p.2) ((a, p.1) :: acc) T m i ch
        | false => .ret False
      | none => .ret False
    | .t => fun acc T m i ch => match nowTab V ch a with
      | some vs => ih c κ (k (tableObj vs)) acc T m i ch
      | none => .ret False
    | .n => fun _ _ _ _ _ => .ret False
  | .alloc o k => fun acc T m i ch => match o.isFreed with
    | true => .ret False
    | false => match (T.ins m o).get m with
      | some _ => ih c κ (k (V.n₁ + m)) acc (T.ins m o) (m + 1) i ch
      | none => .ret False
  | .update a _ f k => match x with
    | .w j => fun acc T m i ch => match T.get j with
      | some o => match (f o).isFreed with
        | true => .ret False
        | false => ih c κ (k ()) ((a, V.n₁ + j) :: acc) (T.set j f) m i ch
      | none => .ret False
    | .t => fun acc T m i ch => match nowTab V ch a with
      | some vs => match tabOf (f (tableObj vs)) with
        | some vs' => match strip vs.toList vs'.toList with
          | some _ => ih c κ (k ()) acc T m i (chPut ch a vs')
          | none => .ret False
        | none => .ret False
      | none => .ret False
    | .s _ => fun _ _ _ _ _ => .ret False
    | .n => fun _ _ _ _ _ => .ret False
  | .fresh k => fun acc T m i ch => ih c κ (k (V.t₀ + i)) acc T m (i + 1) ch
  | .handled own k => match own with
    | false => ih c κ (k (aroundOf V true κ).handled)
    | true => fun _ _ _ _ _ => .ret False
  | .stack k => fun acc T m i ch => leafH (accOk acc ∧ ∀ (p : Pos) (below : List (Code × Pos)), Lies ((aroundOf V true κ).under c) ((c, p) :: below) → HoldH (ih c κ (k ((c, p) :: below)) [] T m i ch))
  | .call c' hd _ _ k => match okMark hd with
    | true => ih c' (.ret c hd k κ) (hDen c')
    | false => fun _ _ _ _ _ => .ret False
  | _ => fun _ _ _ _ _ => .ret False
noncomputable def simH (V : XV) (g : Array GenState) (olds : List (Addr × Obj)) : List Hi → Code → Kont → Sem PySem.Fin → RestH
  | [] => fun c κ t acc T m i ch => leafH (accOk acc ∧ ∀ h, Rep V h T m ch → MeansH V c κ t ⟨h, g, V.d, V.t₀ + i, V.os⟩)
  | x :: hs => fun c κ t => stepH V g olds (simH V g olds hs) x c κ (skim ⟨V.prog, V.w.params⟩ 400 t)
theorem accOk.tail {q : Nat × Nat} {acc : List (Nat × Nat)} (h : accOk (q :: acc)) : q.1 = q.2 ∧ accOk acc := by
  unfold accOk at h
  rw [List.map_cons, List.map_cons, List.cons.injEq] at h
  exact h
structure HOk (V : XV) (olds : List (Addr × Obj)) : Prop where
  size : V.h₀.objs.size = V.n₁
  tabs : ∀ a vs, chLook V.tabs a = some vs → ∃ c, V.h₀.TableAt c a vs
  kt : V.kt = .nil
  olds : ∀ p ∈ olds, V.h₀.get? p.1 = some p.2
theorem HOk.ok {V : XV} {olds : List (Addr × Obj)} (O : HOk V olds) : V.Ok := ⟨O.size, by rw [O.kt]; trivial, O.tabs⟩
def IHok (V : XV) (g : Array GenState) (ih : Code → Kont → Sem PySem.Fin → RestH) : Prop :=
  ∀ c κ t acc T m i ch, holdH (ih c κ t acc T m i ch) → accOk acc ∧ ∀ h, Rep V h T m ch → MeansH V c κ t ⟨h, g, V.d, V.t₀ + i, V.os⟩
section
variable {V : XV} {g : Array GenState} {olds : List (Addr × Obj)} {ih : Code → Kont → Sem PySem.Fin → RestH} (O : HOk V olds) (IH : IHok V g ih)
include IH
theorem retH_sound {r : Result} {c : Code} {κ : Kont} {t : Sem PySem.Fin} (ht : t = leafOf r) {acc : List (Nat × Nat)} {T : BT} {m i : Nat} {ch : Ch} (H : holdH (retH V g ih r κ acc T m i ch)) :
    accOk acc ∧ ∀ h, Rep V h T m ch → MeansH V c κ t ⟨h, g, V.d, V.t₀ + i, V.os⟩ := by
  have key : accOk acc ∧ ∀ h, Rep V h T m ch → endOf V κ r ⟨h, g, V.d, V.t₀ + i, V.os⟩ := by
    cases κ with
    | base => exact H
    | ret c₁ hd k κ => exact IH _ _ _ _ _ _ _ _ H
    | gen => exact (show False from H).elim
    | genS => exact (show False from H).elim
  refine ⟨key.1, fun h D => ?_⟩
  have := key.2 h D
  cases r with
  | ok f => subst ht; exact y_pure _ _ _ _ _ _ _ _ _ (y_done _ _ _ _ _ _ this)
  | error e => subst ht; exact y_raise _ _ _ _ _ _ _ _ _ (y_err _ _ _ this)
include O
theorem old_keep {h : Heap} {T : BT} {m : Nat} {ch : Ch} (D : Rep V h T m ch) {p : Addr × Obj} (hp : p ∈ olds) (hc : ((chLook ch p.1).isNone || hasCls p.2) = true) : h.get? p.1 = some p.2 := by
  have e := O.olds p hp
  refine D.keep _ _ e ?_
  cases q : chLook ch p.1 with
  | none => rfl
  | some vs =>
    obtain ⟨_, c, ps, more, ht, _⟩ := D.ch _ _ q
    have e2 := ht.2
    rw [e] at e2
    rw [Option.some.inj e2, q] at hc
    exact absurd hc (by simp [hasCls])
theorem stepH_sound (x : Hi) : ∀ c κ t acc T m i ch, holdH (stepH V g olds ih x c κ t acc T m i ch) → accOk acc ∧ ∀ h, Rep V h T m ch → MeansH V c κ t ⟨h, g, V.d, V.t₀ + i, V.os⟩ := by
  intro c κ t acc T m i ch H
  cases t with
  | pure fin =>
    cases fin with
    | done f => exact retH_sound IH rfl H
    | again c' =>
      obtain ⟨z1, z2⟩ := IH _ _ _ _ _ _ _ _ H
      have q : c'.quiet = true := by
        have := z1.tail.1
        cases e : c'.quiet with
        | true => rfl
        | false => rw [e] at this; exact absurd this (by decide)
      refine ⟨z1.tail.2, fun h D => y_pure _ _ _ _ _ _ _ _ _ (y_again _ _ _ _ _ _ q (y_code _ _ _ _ _ _ ?_))⟩
      rw [hDen_eq]
      exact z2 h D
  | raise e => exact retH_sound IH rfl H
  | load a q k =>
    cases x with
    | n => exact (show False from H).elim
    | w j =>
      simp only [stepH] at H
      split at H
      · rename_i o e
        obtain ⟨z1, z2⟩ := IH _ _ _ _ _ _ _ _ H
        refine ⟨z1.tail.2, fun h D => ?_⟩
        have ho := (D.own _ _ e).2
        have ea := z1.tail.1
        dsimp only at ea
        rw [← ea] at ho
        exact y_load _ _ _ _ _ _ _ _ _ _ _ _ _ _ _ _ ho (z2 h D)
      · exact (show False from H).elim
    | s j =>
      simp only [stepH] at H
      split at H
      · rename_i p e
        split at H
        · rename_i hc
          obtain ⟨z1, z2⟩ := IH _ _ _ _ _ _ _ _ H
          refine ⟨z1.tail.2, fun h D => ?_⟩
          have ho := old_keep O IH D (List.mem_of_getElem? e) hc
          have ea := z1.tail.1
          dsimp only at ea
          rw [← ea] at ho
          exact y_load _ _ _ _ _ _ _ _ _ _ _ _ _ _ _ _ ho (z2 h D)
        · exact (show False from H).elim
      · exact (show False from H).elim
    | t =>
      simp only [stepH] at H
      split at H
      · rename_i vs e
        obtain ⟨z1, z2⟩ := IH _ _ _ _ _ _ _ _ H
        refine ⟨z1, fun h D => y_load _ _ _ _ _ _ _ _ _ _ _ _ _ _ _ _ ?_ (z2 h D)⟩
        unfold nowTab at e
        cases q : chLook ch a with
        | some vs' => rw [q] at e; cases e; exact (D.ch a vs q).1
        | none =>
          rw [q] at e
          obtain ⟨c', ht⟩ := O.tabs a vs e
          exact D.keep _ _ ht.2 q
      · exact (show False from H).elim
  | alloc o k =>
    simp only [stepH] at H
    split at H
    · exact (show False from H).elim
    · rename_i hf
      split at H
      · rename_i o' e
        obtain ⟨z1, z2⟩ := IH _ _ _ _ _ _ _ _ H
        refine ⟨z1, fun h D => ?_⟩
        have D' := D.alloc O.ok hf (by rw [e]; rfl)
        have ea : h.objs.size = V.n₁ + m := D.size
        exact wpOwn_bind (m := alloc o) (f := k) (wpOwn_of_wpAny (wpAny_alloc (by rw [ea]; exact z2 _ D')))
      · exact (show False from H).elim
  | update a q f k =>
    cases x with
    | n => exact (show False from H).elim
    | s j => exact (show False from H).elim
    | w j =>
      simp only [stepH] at H
      split at H
      · rename_i o e
        split at H
        · exact (show False from H).elim
        · rename_i hf
          obtain ⟨z1, z2⟩ := IH _ _ _ _ _ _ _ _ H
          refine ⟨z1.tail.2, fun h D => ?_⟩
          have ea : a = V.n₁ + j := z1.tail.1
          subst ea
          have ho := (D.own _ _ e).2
          have D' := D.update O.ok (Nat.le_add_right _ _) (by rw [Nat.add_sub_cancel_left]; exact e) hf
          rw [Nat.add_sub_cancel_left] at D'
          exact wpOwn_bind (m := updatePart _ q f) (f := k) (wpOwn_of_wpAny (wpAny_updatePart ho (z2 _ D')))
      · exact (show False from H).elim
    | t =>
      simp only [stepH] at H
      split at H
      · rename_i vs e
        split at H
        · rename_i vs' e'
          split at H
          · rename_i more em
            obtain ⟨z1, z2⟩ := IH _ _ _ _ _ _ _ _ H
            refine ⟨z1, fun h D => ?_⟩
            obtain ⟨ho, D'⟩ := D.table O.ok e (tabOf_eq e') em
            exact wpOwn_bind (m := updatePart a q f) (f := k) (wpOwn_of_wpAny (wpAny_updatePart ho (z2 _ D')))
          · exact (show False from H).elim
        · exact (show False from H).elim
      · exact (show False from H).elim
  | fresh k =>
    obtain ⟨z1, z2⟩ := IH _ _ _ _ _ _ _ _ H
    exact ⟨z1, fun h D => y_fresh _ _ _ _ _ _ _ _ _ _ _ _ _ (z2 h D)⟩
  | handled own k =>
    cases own with
    | true => exact (show False from H).elim
    | false =>
      obtain ⟨z1, z2⟩ := IH _ _ _ _ _ _ _ _ H
      exact ⟨z1, fun h D => y_handled _ _ _ _ _ _ _ _ _ (z2 h D)⟩
  | stack k =>
    obtain ⟨z1, z2⟩ := H
    exact ⟨z1, fun h D => y_stack _ _ _ _ _ _ _ _ _ fun p below l => (IH _ _ _ _ _ _ _ _ (z2 p below l).out).2 h D⟩
  | call c' hd gg l k =>
    cases q : okMark hd with
    | false => simp only [stepH, q] at H; exact (show False from H).elim
    | true =>
      simp only [stepH, q] at H
      have hnb : hd ≠ some byPass := by
        intro e
        subst e
        simp [okMark] at q
      obtain ⟨z1, z2⟩ := IH _ _ _ _ _ _ _ _ H
      refine ⟨z1, fun h D => y_call _ _ _ _ _ _ _ _ _ _ _ _ _ hnb (y_code _ _ _ _ _ _ ?_)⟩
      rw [hDen_eq]
      exact z2 h D
  | _ => exact (show False from H).elim
end
theorem simH_sound {V : XV} {g : Array GenState} {olds : List (Addr × Obj)} (O : HOk V olds) : ∀ hs, IHok V g (simH V g olds hs)
  | [] => fun _ _ _ _ _ _ _ _ H => H
  | x :: hs => fun c κ t acc T m i ch H => by
    obtain ⟨z1, z2⟩ := stepH_sound O (simH_sound O hs) x _ _ _ _ _ _ _ _ H
    exact ⟨z1, fun h D => y_skim _ _ _ _ _ _ _ _ _ 400 (z2 h D)⟩
theorem oldsNil {h : Heap} : ∀ p ∈ ([] : List (Addr × Obj)), h.get? p.1 = some p.2 := fun _ hp => by cases hp
theorem oldsCons {h : Heap} {a : Addr} {o : Obj} {l : List (Addr × Obj)} (e : h.get? a = some o) (r : ∀ p ∈ l, h.get? p.1 = some p.2) : ∀ p ∈ (a, o) :: l, h.get? p.1 = some p.2 := fun p hp => by
  rcases List.mem_cons.mp hp with rfl | hp
  · exact e
  · exact r p hp
theorem oldsSnoc {h : Heap} {a : Addr} {o : Obj} {l : List (Addr × Obj)} (r : ∀ p ∈ l, h.get? p.1 = some p.2) (e : h.get? a = some o) : ∀ p ∈ l ++ [(a, o)], h.get? p.1 = some p.2 := fun p hp => by
  rcases List.mem_append.mp hp with hp | hp
  · exact r p hp
  · rw [List.mem_singleton.mp hp]; exact e
/-- a code's run from any state -/
theorem simH_code {prog : Program} {w : World} {A : Around} {R : Result → Shared → Prop} {s : Shared} {c : Code} (n : Nat) (tabs : Ch) (olds : List (Addr × Obj)) (hs : List Hi)
    (hn : s.heap.objs.size = n) (ht : ∀ a vs, chLook tabs a = some vs → ∃ c, s.heap.TableAt c a vs) (ho : ∀ p ∈ olds, s.heap.get? p.1 = some p.2)
    (H : HOk ⟨prog, w, s.heap, n, .nil, tabs, A, R, s.drawn, s.toks, s.os⟩ olds → HoldH (simH ⟨prog, w, s.heap, n, .nil, tabs, A, R, s.drawn, s.toks, s.os⟩ s.gens olds hs c .base (hDen c) [] .nil 0 0 [])) : codeAny (model prog w) A c R s := by
  have O : HOk ⟨prog, w, s.heap, n, .nil, tabs, A, R, s.drawn, s.toks, s.os⟩ olds := ⟨hn, ht, rfl, ho⟩
  refine y_code _ _ _ _ _ _ ?_
  rw [hDen_eq]
  exact (simH_sound O hs _ _ _ _ _ _ _ _ (H O).out).2 s.heap (Rep.start O.ok)
/-- going on from where a run stopped -/
theorem simH_more {V : XV} {g : Array GenState} {olds : List (Addr × Obj)} (O : HOk V olds) (hs : List Hi) {c : Code} {κ : Kont} {t : Sem PySem.Fin} {h : Heap} {T : BT} {m i : Nat} {ch : Ch} (D : Rep V h T m ch)
    (H : HoldH (simH V g olds hs c κ t [] T m i ch)) : MeansH V c κ t ⟨h, g, V.d, V.t₀ + i, V.os⟩ := (simH_sound O hs _ _ _ _ _ _ _ _ H.out).2 h D
theorem end_at {R : Result → Shared → Prop} {r : Result} {s : Shared} (r' : Result) (e : r = r') (h : R r' s) : R r s := e ▸ h
theorem dec_any {p : Prop} (d d' : Decidable p) : @decide p d = @decide p d' := by congr
theorem means_skim {V : XV} {c : Code} {κ : Kont} {t : Sem PySem.Fin} {s : Shared} (h : MeansH V c κ (skim ⟨V.prog, V.w.params⟩ 400 t) s) : MeansH V c κ t s := y_skim _ _ _ _ _ _ _ _ _ 400 h
/-- a call that a lemma answers -/
theorem means_call {V : XV} {c : Code} {κ : Kont} {c' : Code} (c'' : Code) {hd : Option Value} {g : Bool} {l : List Value} {k : Result → Sem PySem.Fin} {s : Shared} (e : c' = c'') (hn : hd = none)
    (h : codeAny (model V.prog V.w) ((aroundOf V true κ).under c) c'' (fun r s' => MeansH V c κ (k r) s') s) : MeansH V c κ (.call c' hd g l k) s := by
  subst e hn
  exact y_call _ _ _ _ _ _ _ _ _ _ _ _ _ (by simp) h
/-- the same run from a heap that is known anew -/
def moveV (V : XV) (h : Heap) (d : Drawn) (t : Nat) (os : OsState) : XV := ⟨V.prog, V.w, h, h.objs.size, .nil, [], V.A₀, V.R₀, d, t, os⟩
theorem move_around {V : XV} {h : Heap} {d : Drawn} {t : Nat} {os : OsState} : ∀ (κ : Kont) (b : Bool), aroundOf (moveV V h d t os) b κ = aroundOf V b κ
  | .base, true => rfl
  | .base, false => rfl
  | .ret c hd k κ, true => by
    show ((aroundOf (moveV V h d t os) true κ).under c).mark hd = ((aroundOf V true κ).under c).mark hd
    rw [move_around κ true]
  | .ret .., false => rfl
  | .gen .., true => rfl
  | .genS .., true => rfl
  | .gen _ c _ κ, false => by
    show (aroundOf (moveV V h d t os) true κ).under c = (aroundOf V true κ).under c
    rw [move_around κ true]
  | .genS _ c fs _ κ, false => by
    show (aroundOf (moveV V h d t os) false κ).over c fs = (aroundOf V false κ).over c fs
    rw [move_around κ false]
theorem move_end {V : XV} {h : Heap} {d : Drawn} {t : Nat} {os : OsState} : ∀ κ : Kont, endOf (moveV V h d t os) κ = endOf V κ
  | .base => rfl
  | .ret c hd k κ => by
    show postR V.prog V.w (aroundOf (moveV V h d t os) true κ) c (postC V.prog V.w (aroundOf (moveV V h d t os) true κ) (endOf (moveV V h d t os) κ)) (postE (endOf (moveV V h d t os) κ)) k =
      postR V.prog V.w (aroundOf V true κ) c (postC V.prog V.w (aroundOf V true κ) (endOf V κ)) (postE (endOf V κ)) k
    rw [move_around κ true, move_end κ]
  | .gen .. => rfl
  | .genS .. => rfl
theorem simH_again {V : XV} {g : Array GenState} (olds : List (Addr × Obj)) (hs : List Hi) {c : Code} {κ : Kont} {t : Sem PySem.Fin} {h : Heap} {d : Drawn} {tk : Nat} {os : OsState} (ho : ∀ p ∈ olds, h.get? p.1 = some p.2)
    (H : HOk (moveV V h d tk os) olds → HoldH (simH (moveV V h d tk os) g olds hs c κ t [] .nil 0 0 [])) : MeansH V c κ t ⟨h, g, d, tk, os⟩ := by
  have O : HOk (moveV V h d tk os) olds := ⟨rfl, (fun _ _ e => nomatch e), rfl, ho⟩
  have z := (simH_sound O hs _ _ _ _ _ _ _ _ (H O).out).2 h (Rep.start O.ok)
  unfold MeansH at z ⊢
  rw [move_around, move_end] at z
  exact z
end Mine
end
section
open PySem PySem.W PySem.W.X PyProof.Rows
set_option maxRecDepth 100000
set_option maxHeartbeats 8000000
namespace Mine
theorem sameRef_ne {a b : Nat} {v : Value} (hv : v = .ref b) (h : ¬ (a = b)) : Builtin.List.listSameRef (.ref a) v = false := by
  subst hv
  show decide (a = b) = false
  exact decide_eq_false h
theorem filt_self {d : DecidableEq Value} {a : Nat} {M : List Value} (hM : M = [.ref a, .type "object"]) : W.R.filterR (fun x => @bne Value (@instBEqOfDecidableEq Value d) x (Value.ref a)) M = [.type "object"] := by
  subst hM
  rw [← W.R.filterR_eq]
  have e : ∀ x y : Value, @bne Value (@instBEqOfDecidableEq Value d) x y = !decide (x = y) := fun x y => by
    show (!@decide (x = y) (d x y)) = _
    congr
  simp [List.filter, e]
theorem has_self {a : Nat} {M : List Value} (hM : M = [.ref a, .type "object"]) : @ZFast.zw3471404346716756564 Value (@instBEqOfDecidableEq Value ZFast.zw7966671052430208091) M (.ref a) = true := by
  subst hM
  rw [← ZFast.ze3471404346716756564]
  simp
theorem drop_self {a : Nat} {M : List Value} {v : Value} (hM : M = [.ref a, .type "object"]) (hv : v = .ref a) : List.drop 1 (List.dropWhile (fun x : Value => @bne Value (@instBEqOfDecidableEq Value ZFast.zw7966671052430208091) x v) M) = [.type "object"] := by
  subst hM hv
  simp [List.dropWhile]
theorem eq_self_ref {a : Nat} {x y : Value} (hx : x = .ref a) (hy : y = .ref a) : @BEq.beq Value (@instBEqOfDecidableEq Value ZFast.zw7966671052430208091) x y = true := by
  subst hx hy
  simp
/-- the class statement's body in cmp_to_key, and its defs -/
noncomputable def clsBody (P : Params) : List Stmt := match (Mine02.hd.heap_1 P).lookup 28 with
  | some ⟨_, _, .func fd, _⟩ => (match fd.body with | .stmts (.ClassDef _ _ _ body _ _ _ _ _ _ _ :: _) => body | _ => [])
  | _ => []
noncomputable def defAt (P : Params) (i : Nat) : Arguments × List Stmt × Scope := match (clsBody P)[i]? with
  | some (.FunctionDef _ a b _ _ _ sc _ _ _) => (a, b, sc)
  | _ => default
abbrev kEnt (e : Nat → Int) (i : Nat) (s : String) (t : Nat) (v : Value) : DictEntry := { hash := e i, key := .str (Str.ofString s) t, val := v }
/-- a method of the class made -/
noncomputable abbrev kFn (P : Params) (i : Nat) (s : String) (cl : List (Str × Addr)) (pm : Value) (c : Addr) (ct : Value) : Obj :=
  { cls := .type "function", data := .func { name := Str.ofString s, qualname := Str.ofString ("cmp_to_key.<locals>.K." ++ s), params := (defAt P i).1, body := .stmts (defAt P i).2.1, scope := (defAt P i).2.2, globals := 3, closure := cl, defaults := .none, kwdefaults := .none, pyModule := pm, code := .ref c, closureTuple := ct } }
abbrev kCode (v : Nat → Value) (s : String) (t : Nat) : Obj :=
  { cls := .type "code", data := .fields #[v 0, .str (Str.ofString ("cmp_to_key.<locals>.K." ++ s)) t, v 2, v 3, v 4, v 5, v 6, v 7, v 8, v 9, v 10, v 11, v 12, v 13, v 14, v 15, v 16, v 17, v 18] }
/-- what is known of the class made: hashes e, values v of no weight -/
noncomputable def kObjs (P : Params) (e : Nat → Int) (v1 v2 : Nat → Value) (pm : Value) (n t : Nat) (f : Addr) : List (Addr × Obj) := [
  (n + 60, { cls := .type "type", data := .cls { name := Str.ofString "K", bases := [.type "object"], mro := [.ref (n + 60), .type "object"], ns := n + 59, qualname := Str.ofString "cmp_to_key.<locals>.K", hasDict := false, slotNames := [Str.ofString "obj"] }, slots := #[some (.ref (n + 2)), none, some (.str (Str.ofString "K") t), some (.str (Str.ofString "cmp_to_key.<locals>.K") (t + 9)), some (.builtin "object.__new__"), some (.bool false)] }),
  (n + 59, { cls := .type "dict", data := .dict #[kEnt e 0 "__module__" (t + 8) (.str (Str.ofString "cpy313.functools") (t + 13)), kEnt e 1 "__firstlineno__" (t + 12) (v1 19), kEnt e 2 "__slots__" (t + 16) (.ref (n + 9)), kEnt e 3 "__init__" (t + 24) (.ref (n + 16)),
    kEnt e 4 "__lt__" (t + 33) (.ref (n + 24)), kEnt e 5 "__gt__" (t + 42) (.ref (n + 32)), kEnt e 6 "__eq__" (t + 51) (.ref (n + 40)), kEnt e 7 "__le__" (t + 60) (.ref (n + 48)), kEnt e 8 "__ge__" (t + 69) (.ref (n + 56)), kEnt e 9 "__hash__" (t + 70) .none,
    kEnt e 10 "__static_attributes__" (t + 72) (.ref (n + 57)), kEnt e 11 "obj" (t + 74) (.ref (n + 61)), kEnt e 12 "__doc__" (t + 75) .none] 3 }),
  (n + 61, { cls := .type "member_descriptor", data := .fields #[.str (Str.ofString "obj") (t + 73), .ref (n + 60), .builtin "proto.slot", .builtin "proto.slot#set", .int 0 0] }),
  (n + 16, kFn P 2 "__init__" [] pm (n + 15) .none),
  (n + 15, kCode v1 "__init__" (t + 18)),
  (n + 24, kFn P 3 "__lt__" [(Str.ofString "mycmp", n + 1)] pm (n + 23) (.ref (n + 17))),
  (n + 23, kCode v2 "__lt__" (t + 26)),
  (n + 1, { cls := .type "cell", data := .cell (some (.ref f)) })]
def KeyAt (P : Params) (h : Heap) (n t : Nat) (f : Addr) : Prop := ∃ e v1 v2 pm, ∀ p ∈ kObjs P e v1 v2 pm n t f, h.get? p.1 = some p.2
def kIdx : List Nat := [60, 59, 61, 16, 15, 24, 23, 1]
def eOf (T : BT) (j : Nat) : Int := match T.get 59 with
  | some ⟨_, _, .dict es _, _⟩ => (es[j]?.map (·.hash)).getD 0
  | _ => 0
def vOf (T : BT) (i j : Nat) : Value := match T.get i with
  | some ⟨_, _, .fields vs, _⟩ => vs.getD j .none
  | _ => .none
def lineOf (T : BT) (j : Nat) : Value := match Nat.beq j 19, T.get 59 with
  | true, some ⟨_, _, .dict es _, _⟩ => (es[1]?.map (·.val)).getD .none
  | _, _ => vOf T 15 j
def pmOf (T : BT) : Value := match T.get 16 with
  | some ⟨_, _, .func fd, _⟩ => fd.pyModule
  | _ => .none
theorem made_end {V : XV} {h : Heap} {T : BT} {m : Nat} {ch : Ch} {P : Params} {t : Nat} {f : Addr} (D : Rep V h T m ch)
    (H : kIdx.map T.get = (kObjs P (eOf T) (lineOf T) (vOf T 23) (pmOf T) V.n₁ t f).map fun p => some p.2) : KeyAt P h V.n₁ t f := by
  refine ⟨eOf T, lineOf T, vOf T 23, pmOf T, ?_⟩
  have e : (kObjs P (eOf T) (lineOf T) (vOf T 23) (pmOf T) V.n₁ t f).map (·.1) = kIdx.map (V.n₁ + ·) := rfl
  generalize kObjs P (eOf T) (lineOf T) (vOf T 23) (pmOf T) V.n₁ t f = l at H e
  generalize kIdx = q at H e
  induction l generalizing q with
  | nil => intro p hp; cases hp
  | cons a l ih =>
    cases q with
    | nil => simp at H
    | cons i q =>
      simp only [List.map_cons, List.cons.injEq] at H e
      intro p hp
      rcases List.mem_cons.mp hp with rfl | hp
      · rw [e.1]; exact (D.own _ _ H.1).2
      · exact ih q H.2 e.2 p hp
theorem made_old {V : XV} {h : Heap} {T : BT} {m : Nat} {ch : Ch} {a : Nat} (D : Rep V h T m ch) (hc : ch = [(a, (chLook ch a).getD #[])]) :
    (∀ b o, V.h₀.get? b = some o → b ≠ a → h.get? b = some o) ∧ h.get? a = some (tabObj ((chLook ch a).getD #[])) := by
  have e : ∀ b, chLook ch b = if a = b then some ((chLook ch a).getD #[]) else none := fun b => by
    have q : ∀ vs : Array Value, chLook [(a, vs)] b = if a = b then some vs else none := fun vs => by
      show (match Nat.beq a b with | true => some vs | false => none) = _
      rw [BT.beq_eq]
      by_cases h : a = b <;> simp [h]
    conv => lhs; rw [hc]
    exact q _
  refine ⟨fun b o ho hb => D.keep b o ho (by rw [e, if_neg (Ne.symm hb)]), ?_⟩
  have := e a
  rw [if_pos rfl] at this
  exact (D.ch _ _ this).1
theorem cls_made {w : World} {s : Shared} {A : Around} {R : Result → Shared → Prop} (f : Addr) (k : Nat) (hd : A.depth + 5 < recursionLimit) (hn : s.heap.objs.size = k + 100) (X : (Mine02.hd.heap_1 w.params).In s.heap) (B : (Mine02.boots w.params).In s.heap)
    (ht : ∀ a vs, chLook [(23, #[])] a = some vs → ∃ c, s.heap.TableAt c a vs)
    (done : ∀ h' tk z, KeyAt w.params h' (k + 100) s.toks f → (∀ b o, s.heap.get? b = some o → b ≠ 23 → h'.get? b = some o) → h'.get? 23 = some (tabObj z) → R (.ok (.ret (.ref (k + 100 + 60)))) { s with heap := h', toks := tk }) :
    codeAny (model PySem.Challenge.rw_pu0025_02.row.prog w) A (.call (.ref 28) ⟨[.ref f], []⟩) R s := by
  refine simH_code (k + 100) [(23, #[])] _ [.s 0, .s 1, .n, .n, .w 1, .w 1, .n, .s 2] hn ht (oldsCons (X 28 _ rfl) (oldsCons (X 27 _ rfl) (oldsCons (X 2 _ rfl) (oldsCons (B 0 _ rfl) (oldsCons (X 3 _ rfl) (oldsCons (B 4 _ rfl) oldsNil)))))) fun O => ?_
  refine hold_of (M := model PySem.Challenge.rw_pu0025_02.row.prog w) (s := s) ?_
  kat_step
  refine three_in ?_
  kas_known
  refine ret_in ⟨by unfold accOk; kernel_rfl, fun p below l => ?_⟩
  have a1 := l.near' (Nat.lt_of_le_of_lt (Nat.add_le_add_left (Nat.le_of_ble_eq_true rfl : Code.weight _ ≤ 5) A.depth) hd) 0
  have a2 := l.over (Nat.lt_of_le_of_lt (Nat.add_le_add_left (Nat.le_of_ble_eq_true rfl : Code.weight _ ≤ 5) A.depth) hd) 0
  have a3 := l.warm (Nat.lt_of_le_of_lt (Nat.add_le_add_left (Nat.le_of_ble_eq_true rfl : Code.weight _ ≤ 5) A.depth) hd) 0
  refine hold_of (M := model PySem.Challenge.rw_pu0025_02.row.prog w) (s := s) ?_
  kat_step
  refine three_in ?_
  kas_known
  refine ret_in ⟨by unfold accOk; kernel_rfl, fun h D => ?_⟩
  conv =>
    enter [4]
    whnf
    repeat (enter [27]; whnf)
    rw [show nearF _ _ _ = false from a1, show overF _ _ _ = false from a2, show warmF _ _ _ = false from a3]
  refine simH_more O [.n, .s 3, .s 4, .s 3, .n, .n, .n, .n, .n, .n, .n, .n, .n, .n, .n, .w 3, .n, .n, .n, .w 4, .s 1, .t, .n, .n, .n, .n, .n, .n, .n, .n, .n, .t, .t, .t, .s 4, .s 5, .s 4, .n, .n, .s 2] D ?_
  refine hold_of (M := model PySem.Challenge.rw_pu0025_02.row.prog w) (s := s) ?_
  kat_step
  refine three_in ?_
  kas_known
  refine ret_in ⟨by unfold accOk; kernel_rfl, fun p2 below2 l2 => ?_⟩
  have b1 := l2.near' (Nat.lt_of_le_of_lt (Nat.add_le_add_left (Nat.le_of_ble_eq_true rfl : Code.weight _ ≤ 5) A.depth) hd) 0
  have b2 := l2.over (Nat.lt_of_le_of_lt (Nat.add_le_add_left (Nat.le_of_ble_eq_true rfl : Code.weight _ ≤ 5) A.depth) hd) 0
  have b3 := l2.warm (Nat.lt_of_le_of_lt (Nat.add_le_add_left (Nat.le_of_ble_eq_true rfl : Code.weight _ ≤ 5) A.depth) hd) 0
  refine hold_of (M := model PySem.Challenge.rw_pu0025_02.row.prog w) (s := s) ?_
  kat_step
  refine three_in ?_
  kas_known
  refine ret_in ⟨by unfold accOk; kernel_rfl, fun h2 D2 => ?_⟩
  conv =>
    enter [4]
    whnf
    repeat (enter [27]; whnf)
    rw [show nearF _ _ _ = false from b1, show overF _ _ _ = false from b2, show warmF _ _ _ = false from b3]
  refine simH_more O [.w 4, .w 4, .s 4, .w 4, .n, .w 4, .w 4, .n, .w 4, .n, .w 4, .w 4, .n, .w 4, .n, .w 4, .w 4, .n, .n, .w 4, .n, .w 4, .w 4, .n, .n, .w 4, .n, .w 4, .w 4, .w 7, .w 6, .n, .n, .n, .n, .n, .n, .n, .n, .n, .n, .n, .n, .n, .w 6, .w 6, .w 6, .s 4, .s 5, .s 4, .n, .w 4, .n, .w 4, .w 4, .n, .w 7, .w 6, .n, .n, .n, .n, .n, .n, .n, .n, .n, .n, .n, .n, .n, .n, .w 6, .w 6, .w 6, .s 4, .s 5, .s 4, .n, .w 4, .n, .w 4, .w 4, .n, .w 7, .w 6, .n, .n, .n, .n, .n, .n, .n, .n, .n, .n, .n, .n, .n, .n, .w 6, .w 6, .w 6, .s 4, .s 5, .s 4, .n, .w 4, .n, .w 4, .w 4, .n, .w 7, .w 6, .n, .n, .n, .n, .n, .n, .n, .n, .n, .n, .n, .n, .n, .n, .w 6, .w 6, .w 6, .s 4, .s 5, .s 4, .n, .w 4, .n, .w 4, .w 4, .n, .w 7, .w 6, .n, .n, .n, .n, .n, .n, .n, .n, .n, .n, .n, .n, .n, .n, .w 6, .w 6, .w 6, .s 4, .s 5, .s 4, .n, .w 4, .n, .w 4, .w 4, .n, .w 7, .w 6, .n, .n, .n, .n, .n, .n, .n, .n, .n, .n, .n, .n, .n, .n, .w 6, .w 6, .w 6, .s 4, .s 5, .s 4, .n, .w 4, .n, .w 4, .w 4, .w 4, .n, .w 4, .w 4, .n, .n, .n, .w 4, .n, .w 4, .w 4, .n, .n, .n, .n, .w 2, .w 4, .w 2, .w 4, .w 4, .w 9, .n, .n, .n, .w 9] D2 ?_
  refine hold_of (M := model PySem.Challenge.rw_pu0025_02.row.prog w) (s := s) ?_
  kat_step
  refine three_in ?_
  kas_known
  refine ret_in ⟨by unfold accOk; kernel_rfl, fun h3 D3 => ?_⟩
  conv =>
    enter [4]
    whnf
    repeat (enter [27]; whnf)
    enter [3]
    whnf
  generalize hb : Builtin.List.listSameRef _ _ = b
  obtain rfl : false = b := (sameRef_ne (b := k + 100 + 9) (by kernel_rfl) (by show ¬ (k + 100 + 58 = k + 100 + 9); omega)).symm.trans hb
  refine simH_more O [.w 9, .w 58, .w 58, .w 58, .w 58, .n, .w 58, .n, .w 59, .w 59, .w 59, .n, .w 60, .w 60, .w 60, .w 59, .w 59, .w 59, .w 59, .w 59, .w 59, .w 59] D3 ?_
  refine hold_of (M := model PySem.Challenge.rw_pu0025_02.row.prog w) (s := s) ?_
  kat_step
  refine three_in ?_
  kas_known
  refine ret_in ⟨by unfold accOk; kernel_rfl, fun h4 D4 => ?_⟩
  conv =>
    enter [4]
    whnf
    repeat (enter [27]; whnf)
  generalize hb : W.R.filterR (fun x : Value => @bne Value (@instBEqOfDecidableEq Value ZFast.zw7966671052430208091) x _) _ = b
  obtain rfl : [Value.type "object"] = b := (filt_self (by kernel_rfl)).symm.trans hb
  refine simH_more O [.w 60, .w 60, .w 60, .w 60, .w 60, .w 60, .w 60, .w 59, .w 59, .n, .n, .w 59, .n, .w 59, .w 59, .w 60, .w 60, .w 60, .w 60, .w 59, .n, .w 59, .w 59, .w 59, .w 59, .w 59, .w 59, .w 9, .w 16, .w 24, .w 32, .w 40, .w 48, .w 56, .w 57, .w 61, .n, .n, .w 60, .n, .n, .n, .n, .w 62, .w 62, .n, .w 62, .n, .w 60, .w 60, .w 60] D4 ?_
  refine hold_of (M := model PySem.Challenge.rw_pu0025_02.row.prog w) (s := s) ?_
  kat_step
  refine three_in ?_
  kas_known
  refine ret_in ⟨by unfold accOk; kernel_rfl, fun h5 D5 => ?_⟩
  conv =>
    enter [4]
    whnf
    repeat (enter [27]; whnf)
  generalize hb : @ZFast.zw3471404346716756564 Value (@instBEqOfDecidableEq Value ZFast.zw7966671052430208091) _ _ = b
  obtain rfl : true = b := (has_self (by kernel_rfl)).symm.trans hb
  refine simH_more O [.w 62, .w 62, .w 62, .w 62, .w 62, .w 62, .n, .n, .n, .w 62, .n, .w 62, .n, .w 62, .w 62, .w 62, .s 2, .w 60] D5 ?_
  refine hold_of (M := model PySem.Challenge.rw_pu0025_02.row.prog w) (s := s) ?_
  kat_step
  refine three_in ?_
  kas_known
  refine ret_in ⟨by unfold accOk; kernel_rfl, fun h6 D6 => ?_⟩
  conv =>
    enter [4]
    whnf
    repeat (enter [27]; whnf)
  generalize hb : List.drop 1 (List.dropWhile (fun x : Value => @bne Value (@instBEqOfDecidableEq Value ZFast.zw7966671052430208091) x _) _) = b
  obtain rfl : [Value.type "object"] = b := (drop_self (a := k + 100 + 60) (by kernel_rfl) (by kernel_rfl)).symm.trans hb
  refine simH_more O [.n, .n] D6 ?_
  refine hold_of (M := model PySem.Challenge.rw_pu0025_02.row.prog w) (s := s) ?_
  kat_step
  refine three_in ?_
  kas_known
  refine ret_in ⟨by unfold accOk; kernel_rfl, fun h7 D7 => ?_⟩
  conv =>
    enter [4]
    whnf
    repeat (enter [27]; whnf)
  generalize hb : @BEq.beq Value (@instBEqOfDecidableEq Value ZFast.zw7966671052430208091) (@getElem (Array Value) Nat Value (fun xs i => i < xs.size) _ _ 1 _) (@getElem (Array Value) Nat Value (fun xs i => i < xs.size) _ _ 2 _) = b
  obtain rfl : true = b := (eq_self_ref (a := k + 100 + 60) (by kernel_rfl) (by kernel_rfl)).symm.trans hb
  refine simH_more O [.w 60, .w 60, .n, .n, .n, .n, .w 63, .w 60, .w 60, .w 60, .w 60, .n, .n, .n, .w 60, .w 60, .n, .w 60, .n, .n, .n, .n, .w 0, .w 0, .w 0, .n] D7 ?_
  refine hold_of (M := model PySem.Challenge.rw_pu0025_02.row.prog w) (s := s) ?_
  kat_step
  refine three_in ?_
  kas_known
  refine ret_in ⟨by unfold accOk; kernel_rfl, fun h8 D8 => ?_⟩
  clear D7 D6 D5 D4 D3 D2 D
  have hk := made_old (a := 23) D8 (by kernel_rfl)
  exact done h8 _ _ (made_end D8 (by kernel_rfl)) hk.1 hk.2
end Mine
end
section
open PySem PySem.W PySem.W.X PyProof.Rows
set_option maxRecDepth 100000
set_option maxHeartbeats 8000000
namespace Mine
/-- an object of the class made -/
abbrev kInst (C d : Addr) (v : Value) : Obj := { cls := .ref C, dict := some d, slots := #[some v] }
abbrev kDict : Obj := { cls := .type "dict", data := .dict #[] 0 }
theorem inst_made {w : World} {s : Shared} {A : Around} {R : Result → Shared → Prop} {n t : Nat} {f : Addr} (v : Int) (tv : Tok) (hd : A.depth + 5 < recursionLimit) (X : (Mine02.hd.heap_1 w.params).In s.heap)
    (K : KeyAt w.params s.heap n t f)
    (done : ∀ h' tk I d, Keeps s.heap h' → h'.get? I = some (kInst (n + 60) d (.int v tv)) → h'.get? d = some kDict → R (.ok (.ret (.ref I))) { s with heap := h', toks := tk }) :
    codeAny (model PySem.Challenge.rw_pu0025_02.row.prog w) A (.call (.ref (n + 60)) ⟨[.int v tv], []⟩) R s := by
  obtain ⟨e, v1, v2, pm, K⟩ := K
  refine simH_code s.heap.objs.size [] _ [.s 1, .s 1, .n, .s 1, .n, .s 1, .s 1, .s 1, .n, .s 1, .s 1, .s 1, .s 1, .s 1, .s 1, .s 1, .n, .s 1, .s 1, .s 1, .s 1, .s 1, .s 1, .s 1, .s 1, .s 1, .s 1, .s 2, .s 1, .n, .n, .s 1, .n, .w 1, .s 1] rfl (fun a vs h => nomatch h) (oldsCons (X 2 _ rfl) K) fun O => ?_
  refine hold_of (M := model PySem.Challenge.rw_pu0025_02.row.prog w) (s := s) ?_
  kat_step
  refine three_in ?_
  kas_known
  refine ret_in ⟨by unfold accOk; kernel_rfl, fun h1 D1 => ?_⟩
  conv =>
    enter [4]
    whnf
    repeat (enter [27]; whnf)
  generalize hb : @ZFast.zw3471404346716756564 Value (@instBEqOfDecidableEq Value ZFast.zw7966671052430208091) _ _ = b
  obtain rfl : true = b := (has_self (a := n + 60) (by kernel_rfl)).symm.trans hb
  refine simH_more O [.w 1, .s 1, .s 1, .s 2, .s 4, .n, .s 4, .s 5, .n, .n, .w 2, .w 2, .n, .w 2, .w 2, .n, .s 0] D1 ?_
  refine hold_of (M := model PySem.Challenge.rw_pu0025_02.row.prog w) (s := s) ?_
  kat_step
  refine three_in ?_
  kas_known
  refine ret_in ⟨by unfold accOk; kernel_rfl, fun p2 b2 l2 => ?_⟩
  have a21 := l2.near' (Nat.lt_of_le_of_lt (Nat.add_le_add_left (Nat.le_of_ble_eq_true rfl : Code.weight _ ≤ 5) A.depth) (by omega)) 0
  have a22 := l2.over (Nat.lt_of_le_of_lt (Nat.add_le_add_left (Nat.le_of_ble_eq_true rfl : Code.weight _ ≤ 5) A.depth) (by omega)) 0
  have a23 := l2.warm (Nat.lt_of_le_of_lt (Nat.add_le_add_left (Nat.le_of_ble_eq_true rfl : Code.weight _ ≤ 5) A.depth) (by omega)) 0
  refine hold_of (M := model PySem.Challenge.rw_pu0025_02.row.prog w) (s := s) ?_
  kat_step
  refine three_in ?_
  kas_known
  refine ret_in ⟨by unfold accOk; kernel_rfl, fun h2 D2 => ?_⟩
  conv =>
    enter [4]
    whnf
    repeat (enter [27]; whnf)
    rw [show nearF _ _ _ = false from a21, show overF _ _ _ = false from a22, show warmF _ _ _ = false from a23]
  refine simH_more O [.n, .w 2, .w 2, .n, .w 1, .s 1, .s 1, .s 2, .n, .w 1, .s 1, .n, .w 1, .s 1, .w 1, .s 1, .s 1, .s 2, .s 3, .s 3, .n, .s 3, .n, .s 3, .s 3, .w 1, .s 1] D2 ?_
  refine hold_of (M := model PySem.Challenge.rw_pu0025_02.row.prog w) (s := s) ?_
  kat_step
  refine three_in ?_
  kas_known
  refine ret_in ⟨by unfold accOk; kernel_rfl, fun h3 D3 => ?_⟩
  conv =>
    enter [4]
    whnf
    repeat (enter [27]; whnf)
  generalize hb : @ZFast.zw3471404346716756564 Value (@instBEqOfDecidableEq Value ZFast.zw7966671052430208091) _ _ = b
  obtain rfl : true = b := (has_self (a := n + 60) (by kernel_rfl)).symm.trans hb
  refine simH_more O [.s 3, .s 3, .n, .s 3, .s 3, .w 1, .s 1, .w 1, .n, .n, .n, .n] D3 ?_
  refine hold_of (M := model PySem.Challenge.rw_pu0025_02.row.prog w) (s := s) ?_
  kat_step
  refine three_in ?_
  kas_known
  refine ret_in ⟨by unfold accOk; kernel_rfl, fun h4 D4 => ?_⟩
  exact done h4 _ (s.heap.objs.size + 1) s.heap.objs.size (fun b o e => D4.keep b o e rfl) (D4.own 1 (kInst (n + 60) s.heap.objs.size (.int v tv)) (by kernel_rfl)).2 (D4.own 0 kDict (by kernel_rfl)).2
end Mine
end
section
open PySem PySem.W PySem.W.X PyProof.Rows
set_option maxRecDepth 100000
set_option maxHeartbeats 8000000
namespace Mine
/-- a def of two numbers that compares: what it gives, from any state that keeps h -/
def CmpFn (prog : Program) (w : World) (f : Addr) (cmp : Int → Int → Int) (ok : Int → Prop) (un : Nat) (h : Heap) : Prop :=
  ∀ (A : Around) (R : Result → Shared → Prop) (s : Shared) (x y : Int) (tx ty : Tok), Keeps h s.heap → ok x → ok y → A.handled = none → A.depth + 10 < recursionLimit → A.units + un < cLine →
    (∀ t' h' tk', Keeps s.heap h' → R (.ok (.ret (.int (cmp x y) t'))) { s with heap := h', toks := tk' }) → codeAny (model prog w) A (.call (.ref f) ⟨[.int x tx, .int y ty], []⟩) R s
def FnOf (f : Addr) (h : Heap) : Prop := ∃ fd od sl, h.get? f = some ⟨.type "function", od, .func fd, sl⟩
theorem lt_made {w : World} {s : Shared} {A : Around} {R : Result → Shared → Prop} {n t : Nat} {f I J dI dJ : Addr} {x y : Int} {tx ty : Tok} (hd : A.depth + 20 < recursionLimit) {cmp : Int → Int → Int} {ok : Int → Prop} {un : Nat} (hcmp : CmpFn PySem.Challenge.rw_pu0025_02.row.prog w f cmp ok un s.heap) (hx : ok x) (hy : ok y) (hh : A.handled = none) (hu : A.units + un + 20 < cLine) (hf : FnOf f s.heap) (X : (Mine02.hd.heap_1 w.params).In s.heap)
    (K : KeyAt w.params s.heap n t f) (hI : s.heap.get? I = some (kInst (n + 60) dI (.int x tx))) (hJ : s.heap.get? J = some (kInst (n + 60) dJ (.int y ty)))
    (done : ∀ h' tk', Keeps s.heap h' → R (.ok (.ret (.bool (decide (cmp x y < 0))))) { s with heap := h', toks := tk' }) :
    codeAny (model PySem.Challenge.rw_pu0025_02.row.prog w) A (.call (.ref (n + 24)) ⟨[.ref I, .ref J], []⟩) R s := by
  obtain ⟨e, v1, v2, pm, K⟩ := K
  obtain ⟨fd, od, sl, hf⟩ := hf
  refine simH_code s.heap.objs.size [] _ [.s 8, .s 9, .n, .n, .w 0, .w 0, .n, .w 0, .w 0, .n, .s 0] rfl (fun a vs h => nomatch h) (oldsCons (X 2 _ rfl) (oldsCons hI (oldsCons hJ (oldsSnoc K hf)))) fun O => ?_
  refine hold_of (M := model PySem.Challenge.rw_pu0025_02.row.prog w) (s := s) ?_
  kat_step
  refine three_in ?_
  kas_known
  refine ret_in ⟨by unfold accOk; kernel_rfl, fun p1 b1 l1 => ?_⟩
  have a11 := l1.near' (Nat.lt_of_le_of_lt (Nat.add_le_add_left (Nat.le_of_ble_eq_true rfl : Code.weight _ ≤ 5) A.depth) (by omega)) 0
  have a12 := l1.over (Nat.lt_of_le_of_lt (Nat.add_le_add_left (Nat.le_of_ble_eq_true rfl : Code.weight _ ≤ 5) A.depth) (by omega)) 0
  have a13 := l1.warm (Nat.lt_of_le_of_lt (Nat.add_le_add_left (Nat.le_of_ble_eq_true rfl : Code.weight _ ≤ 5) A.depth) (by omega)) 0
  refine hold_of (M := model PySem.Challenge.rw_pu0025_02.row.prog w) (s := s) ?_
  kat_step
  refine three_in ?_
  kas_known
  refine ret_in ⟨by unfold accOk; kernel_rfl, fun h1 D1 => ?_⟩
  conv =>
    enter [4]
    whnf
    repeat (enter [27]; whnf)
    rw [show nearF _ _ _ = false from a11, show overF _ _ _ = false from a12, show warmF _ _ _ = false from a13]
  refine simH_more O [.n, .s 10, .w 0, .n, .s 1, .s 3, .s 3, .s 4, .n, .s 1, .s 3, .s 3, .s 4, .s 5, .s 5, .s 3, .s 3, .s 4, .n, .s 5, .n, .s 5, .s 5, .s 1, .s 3] D1 ?_
  refine hold_of (M := model PySem.Challenge.rw_pu0025_02.row.prog w) (s := s) ?_
  kat_step
  refine three_in ?_
  kas_known
  refine ret_in ⟨by unfold accOk; kernel_rfl, fun h2 D2 => ?_⟩
  conv =>
    enter [4]
    whnf
    repeat (enter [27]; whnf)
  generalize hb : @ZFast.zw3471404346716756564 Value (@instBEqOfDecidableEq Value ZFast.zw7966671052430208091) _ _ = b
  obtain rfl : true = b := (has_self (a := n + 60) (by kernel_rfl)).symm.trans hb
  refine simH_more O [.s 5, .s 5, .n, .s 5, .s 5, .s 1, .s 3, .s 1, .n, .n, .w 0, .n, .s 2, .s 3, .s 3, .s 4, .n, .s 2, .s 3, .s 3, .s 4, .s 5, .s 5, .s 3, .s 3, .s 4, .n, .s 5, .n, .s 5, .s 5, .s 2, .s 3] D2 ?_
  refine hold_of (M := model PySem.Challenge.rw_pu0025_02.row.prog w) (s := s) ?_
  kat_step
  refine three_in ?_
  kas_known
  refine ret_in ⟨by unfold accOk; kernel_rfl, fun h3 D3 => ?_⟩
  conv =>
    enter [4]
    whnf
    repeat (enter [27]; whnf)
  generalize hb : @ZFast.zw3471404346716756564 Value (@instBEqOfDecidableEq Value ZFast.zw7966671052430208091) _ _ = b
  obtain rfl : true = b := (has_self (a := n + 60) (by kernel_rfl)).symm.trans hb
  refine simH_more O [.s 5, .s 5, .n, .s 5, .s 5, .s 2, .s 3, .s 2, .n, .n, .s 11] D3 ?_
  refine hold_of (M := model PySem.Challenge.rw_pu0025_02.row.prog w) (s := s) ?_
  kat_step
  refine three_in ?_
  kas_known
  refine ret_in ⟨by unfold accOk; kernel_rfl, fun h4 D4 => ?_⟩
  refine means_skim ?_
  conv =>
    enter [4]
    whnf
  refine means_call (.call (.ref f) ⟨[.int x tx, .int y ty], []⟩) (by kernel_rfl) (by kernel_rfl) ?_
  refine hcmp _ _ _ x y tx ty (fun b o q => D4.keep b o q rfl) hx hy ?_ ?_ ?_ ?_
  · exact hh
  · exact Nat.lt_of_le_of_lt (Nat.add_le_add_right (Nat.add_le_add_left (Nat.le_of_ble_eq_true rfl : Code.weight _ ≤ 5) A.depth) 10) (by omega)
  · exact Nat.lt_of_le_of_lt (Nat.add_le_add_right (Nat.add_le_add_left (Nat.le_of_ble_eq_true rfl : Code.cUnits _ ≤ 20) A.units) un) (by omega)
  intro t' h' tk' hk
  refine simH_again (kObjs w.params e v1 v2 pm n t f) [.n] (fun p hp => hk _ _ (D4.keep _ _ (K p hp) rfl)) fun O2 => ?_
  refine hold_of (M := model PySem.Challenge.rw_pu0025_02.row.prog w) (s := s) ?_
  kat_step
  refine three_in ?_
  kas_known
  refine ret_in ⟨by unfold accOk; kernel_rfl, fun h5 D5 => ?_⟩
  refine means_skim ?_
  conv =>
    enter [4]
    whnf
    enter [3]
    whnf
    repeat (enter [27]; whnf)
  generalize hb : Params.followText _ _ = b
  cases b
  · refine simH_more O2 [.n, .n, .n, .n] D5 ?_
    refine hold_of (M := model PySem.Challenge.rw_pu0025_02.row.prog w) (s := s) ?_
    kat_step
    refine three_in ?_
    kas_known
    refine ret_in ⟨by unfold accOk; kernel_rfl, fun h6 D6 => ?_⟩
    exact end_at (R := R) (.ok (.ret (.bool (decide (cmp x y < 0))))) (congrArg (fun b => Except.ok (Flow.ret (Value.bool b))) (dec_any _ _)) (done h6 _ (fun b o q => D6.keep b o (hk b o (D4.keep b o q rfl)) rfl))
  · refine simH_more O2 [.n, .n, .n, .n] D5 ?_
    refine hold_of (M := model PySem.Challenge.rw_pu0025_02.row.prog w) (s := s) ?_
    kat_step
    refine three_in ?_
    kas_known
    refine ret_in ⟨by unfold accOk; kernel_rfl, fun h7 D7 => ?_⟩
    exact end_at (R := R) (.ok (.ret (.bool (decide (cmp x y < 0))))) (congrArg (fun b => Except.ok (Flow.ret (Value.bool b))) (dec_any _ _)) (done h7 _ (fun b o q => D7.keep b o (hk b o (D4.keep b o q rfl)) rfl))
end Mine
end
section
open PySem PySem.W PyProof.Rows
namespace Mine
/-- the sort by questions, when each question is answered by keys -/
def gp (p : Array Nat) (i : Nat) : Nat := p.getD i 0
theorem gp_eq (p : Array Nat) (i : Nat) : gp p i = (p[i]?).getD 0 := by
  unfold gp
  by_cases h : i < p.size
  · simp [Array.getD, h]
  · simp [Array.getD, h]
theorem gp_congr {p q : Array Nat} {i j : Nat} (h : p[i]? = q[j]?) : gp p i = gp q j := by rw [gp_eq, gp_eq, h]
theorem gp_rev {p : Array Nat} {i j : Nat} (hj : j ≤ p.size) (k : Nat) : gp (kas_rev p i j) k = if i ≤ k ∧ k < j then gp p (i + j - 1 - k) else gp p k := by
  have e := getElem?_mirror_all (i := i) hj k
  by_cases h1 : i ≤ k ∧ k < j
  · rw [if_pos h1] at e ⊢; exact gp_congr e
  · rw [if_neg h1] at e ⊢; exact gp_congr e
theorem gp_bubble {p : Array Nat} {src d : Nat} (hs : src < p.size) (hd : d ≤ src) (k : Nat) : gp (bubble p src d) k = if k = src - d then gp p src else if src - d < k ∧ k ≤ src then gp p (k - 1) else gp p k := by
  have e := getElem?_bubble hs d hd k
  by_cases h1 : k = src - d
  · rw [if_pos h1] at e ⊢; exact gp_congr e
  · rw [if_neg h1] at e ⊢
    by_cases h2 : src - d < k ∧ k ≤ src
    · rw [if_pos h2] at e ⊢; exact gp_congr e
    · rw [if_neg h2] at e ⊢; exact gp_congr e
section
variable (n : Nat) (key : Nat → Int)
structure PB (p : Array Nat) : Prop where
  perm : p.Perm (List.toArray (List.range n))
theorem PB.size {p : Array Nat} (h : PB n p) : p.size = n := by rw [h.perm.size_eq]; simp
theorem PB.lt {p : Array Nat} (h : PB n p) (h0 : 0 < n) (i : Nat) : gp p i < n := by
  rw [gp_eq]
  cases e : p[i]? with
  | none => exact h0
  | some x =>
    have hm : x ∈ p.toList := Array.mem_toList_iff.mpr (Array.mem_of_getElem? e)
    have := (Array.perm_iff_toList_perm.mp h.perm).mem_iff.mp hm
    simpa using this
def Inc (p : Array Nat) (k : Nat) : Prop := ∀ i j, i ≤ j → j < k → key (gp p i) ≤ key (gp p j)
def Dec (p : Array Nat) (k : Nat) : Prop := ∀ i j, i ≤ j → j < k → key (gp p j) ≤ key (gp p i)
end
section
variable {n : Nat} {key : Nat → Int} {I : Shared → Prop} {cmp : Nat → Nat → (Bool → Shared → Prop) → Shared → Prop}
  (hc : ∀ i j s C, i < n → j < n → I s → (∀ s', I s' → C (decide (key i < key j)) s') → cmp i j C s) (h0 : 0 < n)
include hc h0
theorem ask_ok {α : Type} {p q : Array Nat} (B : PB n p) {i j : Nat} {k : Bool → KasT α} {G : α → Shared → Prop} {s : Shared} (hI : I s) (h : ∀ s', I s' → (k (decide (key (gp p i) < key (gp p j)))).kasWp cmp G s') :
    (KasT.ask (p.getD i 0) (p.getD j 0) k).kasWp cmp G s := hc _ _ s _ (B.lt n h0 i) (B.lt n h0 j) hI h
theorem asc_ok {p : Array Nat} (B : PB n p) {G : Nat → Shared → Prop} : ∀ (f m : Nat) (s : Shared), 1 ≤ m → m + f ≤ n → Inc key p m → I s →
    (∀ r s', I s' → m ≤ r → r ≤ m + f → Inc key p r → (r = m + f ∨ key (gp p r) < key (gp p (r - 1))) → G r s') → (kas_asc p f m).kasWp cmp G s
  | 0, m, s, h1, hz, hs, hI, hG => hG m s hI (Nat.le_refl _) (by lia) hs (.inl rfl)
  | f + 1, m, s, h1, hz, hs, hI, hG => by
    refine ask_ok (q := p) hc h0 B hI fun s' hI' => ?_
    by_cases h : key (gp p m) < key (gp p (m - 1))
    · rw [decide_eq_true h, if_pos rfl]
      exact hG m s' hI' (Nat.le_refl _) (by lia) hs (.inr h)
    · rw [decide_eq_false h, if_neg (by simp)]
      refine asc_ok B f (m + 1) s' (by lia) (by lia) (fun i j hij hj => ?_) hI' fun r s'' hI'' a1 a2 a3 a4 => hG r s'' hI'' (by lia) (by lia) a3 (by rcases a4 with a4 | a4; exact .inl (by lia); exact .inr a4)
      by_cases hjm : j < m
      · exact hs i j hij hjm
      · obtain rfl : j = m := by lia
        by_cases hi : i = j
        · subst hi; exact Int.le_refl _
        · have := hs i (j - 1) (by lia) (by lia)
          lia
theorem desc_ok {G : Array Nat × Nat × Nat → Shared → Prop} : ∀ (f : Nat) (p : Array Nat) (m q : Nat) (s : Shared), PB n p → 1 ≤ m → m + f ≤ n → Dec key p m → q + 1 ≤ m → (∀ i, m - (q + 1) ≤ i → i < m → key (gp p i) = key (gp p (m - 1))) → I s →
    (∀ p' r q' s', I s' → PB n p' → m ≤ r → r ≤ m + f → Dec key p' r → q' + 1 ≤ r → (∀ i, r - (q' + 1) ≤ i → i < r → key (gp p' i) = key (gp p' (r - 1))) → G (p', r, q') s') → (kas_desc f p m q).kasWp cmp G s
  | 0, p, m, q, s, B, h1, hz, hs, hq, he, hI, hG => hG p m q s hI B (Nat.le_refl _) (by lia) hs hq he
  | f + 1, p, m, q, s, B, h1, hz, hs, hq, he, hI, hG => by
    refine ask_ok (q := p) hc h0 B hI fun s' hI' => ?_
    have hsz := B.size
    have ext : ∀ p' : Array Nat, (∀ k, key (gp p' k) = key (gp p k)) → key (gp p m) ≤ key (gp p (m - 1)) → Dec key p' (m + 1) := fun p' hk hle i j hij hj => by
      rw [hk, hk]
      by_cases hjm : j < m
      · exact hs i j hij hjm
      · obtain rfl : j = m := by lia
        by_cases hi : i = j
        · subst hi; exact Int.le_refl _
        · have := hs i (j - 1) (by lia) (by lia)
          lia
    by_cases h : key (gp p m) < key (gp p (m - 1))
    · rw [decide_eq_true h, if_pos rfl]
      by_cases hq0 : q > 0
      · rw [if_pos hq0]
        have hk : ∀ k, key (gp (kas_rev p (m - (q + 1)) m) k) = key (gp p k) := fun k => by
          rw [gp_rev (by lia)]
          split
          · rw [he _ (by lia) (by lia), he k (by lia) (by lia)]
          · rfl
        exact desc_ok f _ (m + 1) 0 s' ⟨(mirror_perm _ _ _ _).trans B.perm⟩ (by lia) (by lia) (ext _ hk (by lia)) (by lia) (fun i a b => by congr 2; lia) hI'
          fun p' r q' s'' hI'' a1 a2 a3 a4 a5 a6 => hG p' r q' s'' hI'' a1 (by lia) (by lia) a4 a5 a6
      · rw [if_neg hq0]
        exact desc_ok f p (m + 1) 0 s' B (by lia) (by lia) (ext p (fun _ => rfl) (by lia)) (by lia) (fun i a b => by congr 2; lia) hI'
          fun p' r q' s'' hI'' a1 a2 a3 a4 a5 a6 => hG p' r q' s'' hI'' a1 (by lia) (by lia) a4 a5 a6
    · rw [decide_eq_false h, if_neg (by simp)]
      refine ask_ok (q := p) hc h0 B hI' fun s'' hI'' => ?_
      by_cases h2 : key (gp p (m - 1)) < key (gp p m)
      · rw [decide_eq_true h2, if_pos rfl]
        exact hG p m q s'' hI'' B (Nat.le_refl _) (by lia) hs hq he
      · rw [decide_eq_false h2, if_neg (by simp)]
        refine desc_ok f p (m + 1) (q + 1) s'' B (by lia) (by lia) (ext p (fun _ => rfl) (by lia)) (by lia) (fun i a b => ?_) hI''
          fun p' r q' s3 hI3 a1 a2 a3 a4 a5 a6 => hG p' r q' s3 hI3 a1 (by lia) (by lia) a4 a5 a6
        rw [show m + 1 - 1 = m by lia]
        by_cases hi : i = m
        · rw [hi]
        · rw [he i (by lia) (by lia)]; lia
theorem tail_ok {p : Array Nat} (B : PB n p) {G : Nat × Array Nat → Shared → Prop} {m : Nat} {s : Shared} (h1 : 1 ≤ m) (hm : m ≤ n) (hs : Dec key p m) (hI : I s)
    (hG : ∀ r p' s', I s' → PB n p' → 1 ≤ r → r ≤ n → Inc key p' r → G (r, p') s') : (kas_tail3 m n p).kasWp cmp G s := by
  unfold kas_tail3
  rw [KasT.kasWp_bind]
  have B' : PB n (kas_rev p 0 m) := ⟨(mirror_perm _ _ _ _).trans B.perm⟩
  have hsz := B.size
  refine asc_ok hc h0 B' (n - m) m s h1 (by lia) (fun i j hij hj => ?_) hI fun r s' hI' a1 a2 a3 _ => hG r _ s' hI' B' (by lia) (by lia) a3
  rw [gp_rev (by lia), gp_rev (by lia), if_pos (by lia), if_pos (by lia)]
  exact hs _ _ (by lia) (by lia)
theorem part_ok {p : Array Nat} (B : PB n p) {G : Nat × Array Nat → Shared → Prop} {m : Nat} {s : Shared} (hm : m + 1 ≤ n) (hs : Dec key p (m + 1)) (hI : I s)
    (hG : ∀ r p' s', I s' → PB n p' → 1 ≤ r → r ≤ n → Inc key p' r → G (r, p') s') : (kas_descPart m n p).kasWp cmp G s := by
  unfold kas_descPart
  rw [KasT.kasWp_bind]
  refine desc_ok hc h0 (n - (m + 1)) p (m + 1) 0 s B (by lia) (by lia) hs (by lia) (fun i a b => by congr 2; lia) hI fun p' r q' s' hI' B' a2 a3 a4 a5 a6 => ?_
  have hsz := B'.size
  try dsimp only
  by_cases hq : q' > 0
  · rw [if_pos hq]
    refine tail_ok hc h0 (p := kas_rev p' (r - (q' + 1)) r) ⟨(mirror_perm _ _ _ _).trans B'.perm⟩ (by lia) (by lia) (fun i j hij hj => ?_) hI' hG
    have hk : ∀ k, key (gp (kas_rev p' (r - (q' + 1)) r) k) = key (gp p' k) := fun k => by
      rw [gp_rev (by lia)]
      split
      · rw [a6 _ (by lia) (by lia), a6 k (by lia) (by lia)]
      · rfl
    rw [hk, hk]
    exact a4 i j hij hj
  · rw [if_neg hq]
    exact tail_ok hc h0 B' (by lia) (by lia) a4 hI' hG
theorem count_ok {p : Array Nat} (B : PB n p) {G : Nat × Array Nat → Shared → Prop} {s : Shared} (hI : I s)
    (hG : ∀ r p' s', I s' → PB n p' → 1 ≤ r → r ≤ n → Inc key p' r → G (r, p') s') : (kas_count n p).kasWp cmp G s := by
  unfold kas_count
  rw [KasT.kasWp_bind]
  have hsz := B.size
  refine asc_ok hc h0 B (n - 1) 1 s (Nat.le_refl _) (by lia) (fun i j hij hj => by rw [show i = j by lia]; exact Int.le_refl _) hI fun r s' hI' a1 a2 a3 a4 => ?_
  try dsimp only
  by_cases e : r = n
  · rw [if_pos (by simpa using e)]
    exact hG r p s' hI' B (by lia) (by lia) a3
  · rw [if_neg (by simpa using e)]
    have hlt : key (gp p r) < key (gp p (r - 1)) := a4.resolve_left (by lia)
    by_cases h1 : r > 1
    · rw [if_pos h1]
      refine ask_ok (q := p) hc h0 B hI' fun s'' hI'' => ?_
      by_cases h : key (gp p 0) < key (gp p (r - 1))
      · rw [decide_eq_true h, if_pos rfl]
        exact hG r p s'' hI'' B (by lia) (by lia) a3
      · rw [decide_eq_false h, if_neg (by simp)]
        have hall : ∀ k, k < r → key (gp p k) = key (gp p (r - 1)) := fun k hk => by
          have b1 := a3 0 k (by lia) hk
          have b2 := a3 k (r - 1) (by lia) (by lia)
          lia
        refine part_ok hc h0 (p := kas_rev p 0 r) ⟨(mirror_perm _ _ _ _).trans B.perm⟩ (by lia) (fun i j hij hj => ?_) hI'' hG
        have hk : ∀ k, key (gp (kas_rev p 0 r) k) = key (gp p k) := fun k => by
          rw [gp_rev (by lia)]
          split
          · rw [hall _ (by lia), hall k (by lia)]
          · rfl
        rw [hk, hk]
        by_cases hjr : j < r
        · rw [hall i (by lia), hall j hjr]; exact Int.le_refl _
        · obtain rfl : j = r := by lia
          by_cases hi : i = j
          · subst hi; exact Int.le_refl _
          · rw [hall i (by lia)]; lia
    · rw [if_neg h1]
      obtain rfl : r = 1 := by lia
      refine part_ok hc h0 B (by lia) (fun i j hij hj => ?_) hI' hG
      by_cases hi : i = j
      · subst hi; exact Int.le_refl _
      · obtain rfl : i = 0 := by lia
        obtain rfl : j = 1 := by lia
        have : (1 : Nat) - 1 = 0 := rfl
        rw [this] at hlt
        lia
theorem place_ok {p : Array Nat} (B : PB n p) {k : Nat} (hk : Inc key p k) {G : Nat → Shared → Prop} : ∀ (f l r : Nat) (s : Shared), l ≤ r → r ≤ k → r - l ≤ f → (∀ i, i < l → key (gp p i) ≤ key (gp p k)) → (∀ i, r ≤ i → i < k → key (gp p k) < key (gp p i)) → I s →
    (∀ l s', I s' → l ≤ k → (∀ i, i < l → key (gp p i) ≤ key (gp p k)) → (∀ i, l ≤ i → i < k → key (gp p k) < key (gp p i)) → G l s') → (kas_place p k f l r).kasWp cmp G s
  | 0, l, r, s, hlr, hrk, hf, hlo, hhi, hI, hG => by
    obtain rfl : l = r := by lia
    exact hG l s hI hrk hlo hhi
  | f + 1, l, r, s, hlr, hrk, hf, hlo, hhi, hI, hG => by
    unfold kas_place
    by_cases hge : l ≥ r
    · rw [if_pos hge]
      obtain rfl : l = r := by lia
      exact hG l s hI hrk hlo hhi
    · rw [if_neg hge]
      refine ask_ok (q := p) hc h0 B hI fun s' hI' => ?_
      by_cases h : key (gp p k) < key (gp p ((l + r) / 2))
      · rw [decide_eq_true h, if_pos rfl]
        exact place_ok B hk f l ((l + r) / 2) s' (by lia) (by lia) (by lia) hlo (fun i a b => by have := hk ((l + r) / 2) i a b; lia) hI' hG
      · rw [decide_eq_false h, if_neg (by simp)]
        exact place_ok B hk f ((l + r) / 2 + 1) r s' (by lia) hrk (by lia) (fun i a => by have := hk i ((l + r) / 2) (by lia) (by lia); lia) hhi hI' hG
theorem bin_ok {G : Array Nat → Shared → Prop} : ∀ (f : Nat) (p : Array Nat) (k : Nat) (s : Shared), PB n p → 1 ≤ k → k + f = n → Inc key p k → I s → (∀ p' s', I s' → PB n p' → Inc key p' n → G p' s') → (kas_bin f p k).kasWp cmp G s
  | 0, p, k, s, B, h1, hz, hs, hI, hG => hG p s hI B (by rw [← hz]; exact hs)
  | f + 1, p, k, s, B, h1, hz, hs, hI, hG => by
    show ((kas_place p k k 0 k).bind fun l => kas_bin f (bubble p k (k - l)) (k + 1)).kasWp cmp G s
    rw [KasT.kasWp_bind]
    have hsz := B.size
    refine place_ok hc h0 B hs k 0 k s (by lia) (Nat.le_refl _) (by lia) (fun i hi => by lia) (fun i a b => by lia) hI fun l s' hI' hl hlo hhi => ?_
    refine bin_ok f _ (k + 1) s' ⟨(bubble_perm _ _ _).trans B.perm⟩ (by lia) (by lia) (fun i j hij hj => ?_) hI' hG
    rw [gp_bubble (by lia) (by lia), gp_bubble (by lia) (by lia), show k - (k - l) = l by lia]
    repeat' split
    all_goals first
      | (exfalso; lia)
      | exact Int.le_refl _
      | exact hlo _ (by lia)
      | exact Int.le_of_lt (hhi _ (by lia) (by lia))
      | exact hs _ _ (by lia) (by lia)
theorem sort_ok {G : Array Nat → Shared → Prop} {s : Shared} (hI : I s) (hG : ∀ p s', I s' → PB n p → Inc key p n → G p s') : (kas_sort n).kasWp cmp G s := by
  unfold kas_sort
  rw [KasT.kasWp_bind]
  refine count_ok hc h0 (p := List.toArray (List.range n)) ⟨Array.Perm.refl _⟩ hI fun r p s' hI' B a1 a2 a3 => ?_
  try dsimp only
  by_cases h : r < n
  · rw [if_pos h, show max r 1 = r by lia]
    exact bin_ok hc h0 (n - r) p r s' B a1 (by lia) a3 hI' fun p' s'' hI'' B' a => hG p' s'' hI'' B' a
  · rw [if_neg h]
    obtain rfl : r = n := by lia
    exact hG p s' hI' B a3
end
end Mine
end
section
open PySem PySem.W PyProof.Rows PySem.Spec PySem.Calls
set_option maxRecDepth 100000
set_option maxHeartbeats 4000000
namespace Mine
section
variable {w : World} {A : Around} {E : Value → Shared → Prop} {s : Shared} {n t : Nat} {f : Addr} {cmp key : Int → Int} {un : Nat}
theorem look_cls {P : Params} {e : Nat → Int} {v1 v2 : Nat → Value} {pm : Value} : findIn (kObjs P e v1 v2 pm n t f) (.ref (n + 60)) (Str.ofString "__lt__") = some (some (.ref (n + 24))) := by
  have b : (n + 59 == n + 60) = false := by simp
  unfold findIn kObjs
  dsimp only
  rw [List.lookup_cons_self]
  show alongIn _ _ [Value.ref (n + 60), .type "object"] = _
  unfold alongIn ownIn
  dsimp only
  rw [List.lookup_cons_self]
  unfold nsIn
  dsimp only
  rw [List.lookup_cons, b]
  dsimp only
  rw [List.lookup_cons_self]
  rfl
theorem look_fn {P : Params} {e : Nat → Int} {v1 v2 : Nat → Value} {pm : Value} : isFn (kObjs P e v1 v2 pm n t f) (.ref (n + 24)) = true := by
  have b1 : (n + 24 == n + 60) = false := by simp
  have b2 : (n + 24 == n + 59) = false := by simp
  have b3 : (n + 24 == n + 61) = false := by simp
  have b4 : (n + 24 == n + 16) = false := by simp
  have b5 : (n + 24 == n + 15) = false := by simp
  unfold isFn typeIn kObjs
  dsimp only
  rw [List.lookup_cons, b1]
  dsimp only
  rw [List.lookup_cons, b2]
  dsimp only
  rw [List.lookup_cons, b3]
  dsimp only
  rw [List.lookup_cons, b4]
  dsimp only
  rw [List.lookup_cons, b5]
  dsimp only
  rw [List.lookup_cons_self]
  rfl
theorem frag_in {h : Heap} : ∀ {K : Frag}, (∀ p ∈ K, h.get? p.1 = some p.2) → K.In h := fun k a o e => k (a, o) (mem_of_lookupK e)
end
/-- what a comparison is like from any state that keeps h -/
structure CmpIs (prog : Program) (w : World) (f : Addr) (cmp : Int → Int → Int) (key : Int → Int) (ok : Int → Prop) (un : Nat) (h : Heap) : Prop where
  fn : FnOf f h
  does : CmpFn prog w f cmp ok un h
  is : ∀ x y, ok x → ok y → (cmp x y < 0 ↔ key x < key y)
theorem FnOf.keeps {f : Addr} {h h' : Heap} (x : FnOf f h) (k : Keeps h h') : FnOf f h' := let ⟨fd, od, sl, e⟩ := x; ⟨fd, od, sl, k _ _ e⟩
theorem KeyAt.keeps {P : Params} {h h' : Heap} {n t : Nat} {f : Addr} (x : KeyAt P h n t f) (k : Keeps h h') : KeyAt P h' n t f := let ⟨e, v1, v2, pm, H⟩ := x; ⟨e, v1, v2, pm, fun p hp => k _ _ (H p hp)⟩
/-- the keys made of the numbers -/
def KeysAt (h : Heap) (C : Addr) (ks : List Value) (ns : List Int) : Prop := ks.length = ns.length ∧ ∀ (i : Nat) (x : Int), ns[i]? = some x → ∃ I d t, ks[i]? = some (.ref I) ∧ h.get? I = some (kInst C d (.int x t)) ∧ h.get? d = some kDict
theorem KeysAt.keeps {h h' : Heap} {C : Addr} {ks : List Value} {ns : List Int} (x : KeysAt h C ks ns) (k : Keeps h h') : KeysAt h' C ks ns :=
  ⟨x.1, fun i y e => let ⟨I, d, t, a, b, c⟩ := x.2 i y e; ⟨I, d, t, a, k _ _ b, k _ _ c⟩⟩
theorem KeysAt.snoc {h : Heap} {C I d : Addr} {t : Tok} {ks : List Value} {ns : List Int} {x : Int} (H : KeysAt h C ks ns) (a : h.get? I = some (kInst C d (.int x t))) (b : h.get? d = some kDict) : KeysAt h C (ks ++ [.ref I]) (ns ++ [x]) := by
  refine ⟨by simp [H.1], fun i y e => ?_⟩
  by_cases hi : i < ns.length
  · rw [List.getElem?_append_left hi] at e
    obtain ⟨I', d', t', q1, q2, q3⟩ := H.2 i y e
    exact ⟨I', d', t', by rw [List.getElem?_append_left (by rw [H.1]; exact hi)]; exact q1, q2, q3⟩
  · rw [List.getElem?_append_right (Nat.le_of_not_lt hi)] at e
    obtain ⟨hl, he⟩ := List.getElem?_eq_some_iff.mp e
    have h0 : i - ns.length = 0 := by simpa using hl
    rw [h0] at e
    cases e
    exact ⟨I, d, t, by rw [List.getElem?_append_right (by rw [H.1]; exact Nat.le_of_not_lt hi), H.1, h0]; rfl, a, b⟩
section
variable {w : World} {A : Around} {E : Value → Shared → Prop} {s : Shared} {n t : Nat} {f : Addr} {cmp : Int → Int → Int} {key : Int → Int} {ok : Int → Prop} {un : Nat}
theorem lt_wp {I J dI dJ : Addr} {x y : Int} {tx ty : Tok} {C : Bool → Shared → Prop} (hd : A.depth + 20 < recursionLimit) (hu : A.units + un + 20 < cLine) (hh : A.handled = none) (X : (Mine02.hd.heap_1 w.params).In s.heap)
    (K : KeyAt w.params s.heap n t f) (c : CmpIs PySem.Challenge.rw_pu0025_02.row.prog w f cmp key ok un s.heap) (hx : ok x) (hy : ok y) (hI : s.heap.get? I = some (kInst (n + 60) dI (.int x tx))) (hdI : s.heap.get? dI = some kDict) (hJ : s.heap.get? J = some (kInst (n + 60) dJ (.int y ty)))
    (done : ∀ h' tk', Keeps s.heap h' → C (decide (key x < key y)) { s with heap := h', toks := tk' }) : wpAny (model PySem.Challenge.rw_pu0025_02.row.prog w) A (keyLt' oneType' (.ref I) (.ref J)) C E s := by
  rw [keyLt'_oneType, oneLt'_eq]
  simp only [if_true]
  refine wpAny_bind (wpAny_cRoomFor (by omega) ?_)
  obtain ⟨e, v1, v2, pm, K'⟩ := id K
  refine wpAny_bind (ifBound_K (frag_in K') (⟨hI, rfl, rfl, hdI⟩ : InstAt s.heap I (kInst (n + 60) dI (.int x tx)) (n + 60) (some kDict)) look_cls look_fn (wpAny_call ?_))
  refine lt_made hd c.does hx hy hh hu c.fn X K hI hJ fun h' tk' hk => ?_
  rw [decide_eq_decide.mpr (c.is x y hx hy)]
  exact wpAny_truthy_bool (done h' tk' hk)
end
end Mine
end
section
open PySem PySem.W PyProof.Rows PySem.Spec PySem.Calls
set_option maxRecDepth 100000
set_option maxHeartbeats 4000000
namespace Mine
theorem keepsBut {b h h' : Heap} {a : Addr} (k : Keeps b h) (s : Heap.SameBut a h h') (h0 : b.get? a = none) : Keeps b h' := fun x o e => (s.2 x (fun q => by rw [q, h0] at e; cases e)).trans (k x o e)
theorem ints_pick : ∀ {vs : List Value} {ns : List Int}, IntsAre vs ns → ∀ l : List Nat, (∀ i ∈ l, i < ns.length) → IntsAre (l.map fun i => vs.getD i .none) (l.map fun i => ns.getD i 0)
  | _, _, _, [], _ => .nil
  | vs, ns, H, i :: l, hl => by
    have hi := hl i (.head _)
    obtain ⟨t, ht⟩ := H.get i _ (List.getElem?_eq_getElem hi)
    rw [List.map_cons, List.map_cons]
    have e1 : vs.getD i .none = .int ns[i] t := by simp [List.getD, ht]
    have e2 : ns.getD i 0 = ns[i] := by simp [List.getD, List.getElem?_eq_getElem hi]
    rw [e1, e2]
    exact .cons _ _ (ints_pick H l fun j hj => hl j (.tail _ hj))
theorem range_pick (ns : List Int) : (List.range ns.length).map (fun i => ns.getD i 0) = ns := by
  apply List.ext_getElem (by simp)
  intro i h1 h2
  simp [List.getD, List.getElem?_eq_getElem h2]
theorem pick_ok {key : Int → Int} {ns : List Int} {p : Array Nat} (B : PB ns.length p) (H : Inc (fun i => key (ns.getD i 0)) p ns.length) :
    (p.toList.map fun i => ns.getD i 0).Perm ns ∧ (p.toList.map fun i => ns.getD i 0).Pairwise (fun x y => key x ≤ key y) := by
  constructor
  · have := (Array.perm_iff_toList_perm.mp B.perm).map fun i => ns.getD i 0
    rw [List.toList_toArray, range_pick] at this
    exact this
  · rw [List.pairwise_map, List.pairwise_iff_getElem]
    intro i j hi hj hij
    have hz := B.size
    have e : ∀ k (hk : k < p.toList.length), p.toList[k] = gp p k := fun k hk => by
      have hk' : k < p.size := by simpa using hk
      rw [gp_eq, getElem?_pos p k hk']
      simp
    rw [e i hi, e j hj]
    have hj' : j < p.size := by simpa using hj
    exact H i j (Nat.le_of_lt hij) (by rw [← hz]; exact hj')
section
variable {w : World} {A : Around} {E : Value → Shared → Prop} {s : Shared} {n t : Nat} {f : Addr} {cmp : Int → Int → Int} {key : Int → Int} {ok : Int → Prop} {un : Nat} {a kS : Addr} {e1 e : Nat} {vs : List Value} {ns : List Int} {keys : Array Value} {b : Heap} {P : PySem.Fin → Shared → Prop}
theorem tail_wp {st : SortSt} (hb : Keeps b s.heap) (hk : s.heap.get? kS = some (seqObj "list" keys e)) (ha : s.heap.get? a = some (seqObj "list" #[] e1)) (hka : kS ≠ a) (bk : b.get? kS = none) (ba : b.get? a = none) (hz : keys.size ≤ 64) (hz2 : (arrOf st).size ≤ 64) (hf : failedOf st = none)
    (done : ∀ h' c, Keeps b h' → h'.get? a = some (seqObj "list" ((arrOf st).map (·.2)) c) → P (.done (.ret .none)) { s with heap := h' }) :
    wpAny (model PySem.Challenge.rw_pu0025_02.row.prog w) A (ksk_tail a false e1 (.ref kS) st) P E s := by
  have s1 := Heap.SameBut.update s.heap kS (Obj.mapSeq fun _ => (#[] : Array Value))
  have ha1 := (s1.2 a hka.symm).trans ha
  have s2 := Heap.SameBut.update (s.heap.update kS (Obj.mapSeq fun _ => (#[] : Array Value))) a (Obj.mapSeq fun _ => (arrOf st).map (·.2))
  obtain ⟨c2, hc2⟩ : ∃ c2, ((s.heap.update kS (Obj.mapSeq fun _ => (#[] : Array Value))).update a (Obj.mapSeq fun _ => (arrOf st).map (·.2))).get? a = some (seqObj "list" ((arrOf st).map (·.2)) c2) := ⟨_, get?_update_seq ha1 fun _ => (arrOf st).map (·.2)⟩
  unfold ksk_tail
  try dsimp only
  refine wpAny_bind (listUpdate_at hk rfl ?_ (by rw [sizeLine_eq]; lia) (Nat.zero_le _))
  refine wpAny_bind (wpAny_letGo ?_)
  refine wpAny_bind (seqEpoch_at ha1 rfl ?_)
  refine wpAny_bind (listUpdate_at ha1 rfl ?_ (Nat.zero_le _) (by simp only [Bool.false_eq_true, if_false, Array.size_map]; rw [sizeLine_eq]; lia))
  rw [hf]
  simp only [bne_self_eq_false, Bool.false_eq_true, if_false]
  exact wpAny_pure (done _ c2 (keepsBut (keepsBut hb s1 bk) s2 ba) hc2)
theorem end_wp (hd : A.depth + 20 < recursionLimit) (hu : A.units + un + 20 < cLine) (hh : A.handled = none) (X : (Mine02.hd.heap_1 w.params).In b) (K : KeyAt w.params b n t f) (c : CmpIs PySem.Challenge.rw_pu0025_02.row.prog w f cmp key ok un b)
    (hb : Keeps b s.heap) (hk : s.heap.get? kS = some (seqObj "list" keys e)) (ha : s.heap.get? a = some (seqObj "list" #[] e1)) (hka : kS ≠ a) (bk : b.get? kS = none) (ba : b.get? a = none)
    (hI : IntsAre vs ns) (h64 : ns.length < 64) (hok : ∀ x ∈ ns, ok x) (hK : KeysAt s.heap (n + 60) keys.toList ns)
    (done : ∀ h' tk' out ms c, Keeps b h' → h'.get? a = some (seqObj "list" out c) → IntsAre out.toList ms → ms.Perm ns → ms.Pairwise (fun x y => key x ≤ key y) → P (.done (.ret .none)) { s with heap := h', toks := tk' }) :
    wpAny (model PySem.Challenge.rw_pu0025_02.row.prog w) A (ksk_end a false vs.toArray e1 (.ref kS) keys) P E s := by
  have hl := hI.length
  have hkl : keys.size = ns.length := by rw [← hK.1]; simp
  have hzip : (keys.zip vs.toArray).size = ns.length := by rw [Array.size_zip, hkl, List.size_toArray, hl, Nat.min_self]
  unfold ksk_end
  simp only [Bool.false_eq_true, if_false]
  by_cases h2 : vs.toArray.size < 2
  · rw [if_pos h2, if_pos h2]
    refine wpAny_bind (wpAny_pure ?_)
    rw [StateT.run_pure]
    refine wpAny_bind (wpAny_pure ?_)
    dsimp only
    refine tail_wp hb hk ha hka bk ba (by lia) (by show (keys.zip vs.toArray).size ≤ 64; lia) rfl fun h' c' hb' ha' => done h' s.toks _ ns c' hb' ha' ?_ (List.Perm.refl _) ?_
    · have e : ((keys.zip vs.toArray).map (·.2)).toList = vs := by
        have e0 : vs.length ≤ keys.toList.length := by rw [hK.1, hl]; exact Nat.le_refl _
        rw [Array.toList_map, Array.toList_zip]
        exact List.map_snd_zip e0
      show IntsAre ((keys.zip vs.toArray).map (·.2)).toList ns
      rw [e]; exact hI
    · rw [List.size_toArray, hl] at h2
      match ns, h2 with
      | [], _ => exact .nil
      | [x], _ => exact List.pairwise_singleton _ _
      | _ :: _ :: _, h2 => simp only [List.length_cons] at h2; lia
  · rw [if_neg h2, if_neg h2]
    rw [List.size_toArray, hl] at h2
    have kind : ∀ {Q : SortKind → Shared → Prop}, Q oneType' s → wpAny (model PySem.Challenge.rw_pu0025_02.row.prog w) A (keyKind' keys) Q E s := fun {Q} q => by
      have := kas_kind (M := model PySem.Challenge.rw_pu0025_02.row.prog w) (A := A) (E := E) (s := s) (vs := keys.toList) (T := .ref (n + 60)) (Q := Q) (by rw [Array.length_toList]; lia) (fun v hv => ?_) (by rfl) (by simp) q
      · rwa [Array.toArray_toList] at this
      · obtain ⟨i, hi, he⟩ := List.mem_iff_getElem.mp hv
        have hi' : i < ns.length := by rw [← hK.1]; exact hi
        obtain ⟨I, d, t', q1, q2, q3⟩ := hK.2 i _ (List.getElem?_eq_getElem hi')
        rw [List.getElem?_eq_getElem hi, he] at q1
        cases q1
        exact (⟨q2, rfl, rfl, q3⟩ : InstAt s.heap I (kInst (n + 60) d (.int ns[i] t')) (n + 60) (some kDict)).type
    refine wpAny_bind (kind ?_)
    have est : SortSt.mk' oneType' (keys.zip vs.toArray) #[] 7 none = kas_st oneType' (keys.zip vs.toArray) (List.toArray (List.range ns.length)) := by
      have e := kas_range (keys.zip vs.toArray)
      rw [hzip] at e
      show SortSt.mk' oneType' (keys.zip vs.toArray) #[] 7 none = SortSt.mk' oneType' ((List.toArray (List.range ns.length)).map (kas_item (keys.zip vs.toArray))) #[] 7 none
      rw [e]
    have itm : ∀ i, i < ns.length → ∃ I d t', kas_item (keys.zip vs.toArray) i = (.ref I, vs.getD i .none) ∧ s.heap.get? I = some (kInst (n + 60) d (.int (ns.getD i 0) t')) ∧ s.heap.get? d = some kDict := fun i hi => by
      obtain ⟨I, d, t', q1, q2, q3⟩ := hK.2 i _ (List.getElem?_eq_getElem hi)
      refine ⟨I, d, t', ?_, by simpa [List.getD, List.getElem?_eq_getElem hi] using q2, q3⟩
      have hi1 : i < keys.size := by lia
      have hi2 : i < vs.length := by lia
      have e1 : keys[i] = .ref I := by
        have := q1
        rw [List.getElem?_eq_getElem (by rw [Array.length_toList]; exact hi1)] at this
        simpa using this
      have hz : i < (keys.zip vs.toArray).size := by lia
      unfold kas_item
      simp [Array.getD, hi1, hi2, Nat.lt_min, e1, List.getD, List.getElem?_eq_getElem hi2]
    have run := sort_ok (n := ns.length) (key := fun i => key (ns.getD i 0)) (I := fun s' => ∃ h' tk', s' = { s with heap := h', toks := tk' } ∧ Keeps s.heap h')
      (cmp := kas_cmp PySem.Challenge.rw_pu0025_02.row.prog w A oneType' (keys.zip vs.toArray)) (fun i j s' C hi hj ⟨h', tk', es, hk'⟩ hC => ?_) (by lia)
      (G := fun p s' => PB ns.length p ∧ Inc (fun i => key (ns.getD i 0)) p ns.length ∧ ∃ h' tk', s' = { s with heap := h', toks := tk' } ∧ Keeps s.heap h') (s := s) ⟨s.heap, s.toks, rfl, Keeps.refl _⟩ fun p s' hI' B a => ⟨B, a, hI'⟩
    · have run2 := kas_runs (E := E) (Q := fun _ st' s' => ∃ p : Array Nat, arrOf st' = p.map (kas_item (keys.zip vs.toArray)) ∧ failedOf st' = none ∧ PB ns.length p ∧ Inc (fun i => key (ns.getD i 0)) p ns.length ∧ ∃ h' tk', s' = { s with heap := h', toks := tk' } ∧ Keeps s.heap h')
        (by lia) h64 (fun p' st' s' a1 a2 a3 a4 => ⟨p', a2, a3, a4⟩) run
      rw [← est] at run2
      refine wpAny_bind (wpAny_mono run2 ?_ fun _ _ q => q)
      rintro ⟨⟨⟩, st'⟩ s' ⟨p, har, hf, B, hinc, h', tk', rfl, hk'⟩
      dsimp only
      have hp := pick_ok B hinc
      refine tail_wp (hb.trans hk') (hk' _ _ hk) (hk' _ _ ha) hka bk ba (by lia) (by rw [har, Array.size_map, B.size]; lia) hf fun h'' c' hb' ha' => done h'' tk' _ _ c' hb' ha' ?_ hp.1 hp.2
      have e : ((arrOf st').map (·.2)).toList = p.toList.map fun i => vs.getD i .none := by
        rw [har, Array.map_map, Array.toList_map]
        refine List.map_congr_left fun i hi => ?_
        have hi' : i < ns.length := by
          have := (Array.perm_iff_toList_perm.mp B.perm).mem_iff.mp hi
          simpa using this
        obtain ⟨I, d, t', q1, _⟩ := itm i hi'
        show (kas_item (keys.zip vs.toArray) i).2 = _
        rw [q1]
      rw [e]
      refine ints_pick hI _ fun i hi => ?_
      have := (Array.perm_iff_toList_perm.mp B.perm).mem_iff.mp hi
      simpa using this
    · obtain ⟨I, d, t', q1, q2, q3⟩ := itm i hi
      obtain ⟨J, d2, t2, r1, r2, r3⟩ := itm j hj
      subst es
      have okm : ∀ i, i < ns.length → ok (ns.getD i 0) := fun i hi => by
        have e : ns.getD i 0 = ns[i] := by simp [List.getD, List.getElem?_eq_getElem hi]
        rw [e]; exact hok _ (List.getElem_mem hi)
      unfold kas_cmp
      rw [q1, r1]
      have kb := hb.trans hk'
      refine lt_wp (s := { s with heap := h', toks := tk' }) hd hu hh (X.keeps kb) (K.keeps kb) ⟨c.fn.keeps kb, fun A' R' s' x y tx ty kk => c.does A' R' s' x y tx ty (kb.trans kk), c.is⟩ (okm i hi) (okm j hj) (hk' _ _ q2) (hk' _ _ q3) (hk' _ _ r2) fun h2 tk2 k2 => ?_
      exact hC _ ⟨h2, tk2, rfl, hk'.trans k2⟩
end
end Mine
end
section
open PySem PySem.W PyProof.Rows PySem.Spec PySem.Calls
set_option maxRecDepth 100000
set_option maxHeartbeats 4000000
namespace Mine
section
variable {w : World} {A : Around} {E : Value → Shared → Prop} {s : Shared} {n t : Nat} {f : Addr} {cmp : Int → Int → Int} {key : Int → Int} {ok : Int → Prop} {un : Nat} {a kS : Addr} {e1 e : Nat} {vs : List Value} {ns : List Int} {b : Heap}
theorem rest_wp {P : PySem.Fin → Shared → Prop} (hd : A.depth + 20 < recursionLimit) (hu : A.units + un + 20 < cLine) (hh : A.handled = none) (X : (Mine02.hd.heap_1 w.params).In b) (K : KeyAt w.params b n t f) (c : CmpIs PySem.Challenge.rw_pu0025_02.row.prog w f cmp key ok un b)
    (hb : Keeps b s.heap) (hk : s.heap.get? kS = some (seqObj "list" #[] e)) (ha : s.heap.get? a = some (seqObj "list" #[] e1)) (hka : kS ≠ a) (bk : b.get? kS = none) (ba : b.get? a = none)
    (hI : IntsAre vs ns) (h64 : ns.length < 64) (hok : ∀ x ∈ ns, ok x)
    (done : ∀ h' tk' out ms c, Keeps b h' → h'.get? a = some (seqObj "list" out c) → IntsAre out.toList ms → ms.Perm ns → ms.Pairwise (fun x y => key x ≤ key y) → P (.done (.ret .none)) { s with heap := h', toks := tk' }) :
    wpAny (model PySem.Challenge.rw_pu0025_02.row.prog w) A (ksk_rest a (.ref (n + 60)) false vs.toArray e1 (.ref kS)) P E s := by
  have hl := hI.length
  unfold ksk_rest
  refine wpAny_bind (wpAny_rule ?_)
  first
    | rw [List.forIn_toArray]
    | (rw [← Array.forIn_toList]; simp only [List.toList_toArray])
    | rw [← Array.forIn_toList]
  refine wpAny_bind (ksk_fold (fun i s' => ∃ h' tk' kA e', s' = { s with heap := h', toks := tk' } ∧ Keeps b h' ∧ h'.get? kS = some (seqObj "list" kA e') ∧ h'.get? a = some (seqObj "list" #[] e1) ∧ KeysAt h' (n + 60) kA.toList (ns.take i)) vs 0 s
    ⟨s.heap, s.toks, #[], e, rfl, hb, hk, ha, ⟨rfl, fun i x q => by simp at q⟩⟩ ?step ?done)
  case step =>
    rintro j x s' hx ⟨h', tk', kA, e', rfl, hb', hk', ha', hK⟩
    simp only [Nat.zero_add] at hK ⊢
    have hj : j < ns.length := by rw [← hl]; exact (List.getElem?_eq_some_iff.mp hx).1
    obtain ⟨tx, ht⟩ := hI.get j _ (List.getElem?_eq_getElem hj)
    rw [ht] at hx
    cases hx
    have hz : kA.size = j := by
      have := hK.1
      rw [Array.length_toList, List.length_take, Nat.min_eq_left (Nat.le_of_lt hj)] at this
      exact this
    refine wpAny_bind (wpAny_attempt (wpAny_call (inst_made (s := { s with heap := h', toks := tk' }) ns[j] tx (by lia) (X.keeps hb') (K.keeps hb') fun h2 tk2 I d k2 q1 q2 => ?_)))
    try dsimp only
    have s1 := Heap.SameBut.update h2 kS (Obj.mapSeq (·.push (.ref I)))
    obtain ⟨c2, hc2⟩ : ∃ c2, (h2.update kS (Obj.mapSeq (·.push (.ref I)))).get? kS = some (seqObj "list" (kA.push (.ref I)) c2) := ⟨_, get?_update_seq (k2 _ _ hk') (·.push (.ref I))⟩
    have ek : ns.take (j + 1) = ns.take j ++ [ns[j]] := by rw [List.take_add_one, List.getElem?_eq_getElem hj]; rfl
    have ea : (kA.push (Value.ref I)).toList = kA.toList ++ [Value.ref I] := by simp
    have other : ∀ b' o, h2.get? b' = some o → b' ≠ kS → (h2.update kS (Obj.mapSeq (·.push (.ref I)))).get? b' = some o := fun b' o q r => (s1.2 b' r).trans q
    have nk : ∀ {b' : Addr} {o : Obj}, h2.get? b' = some o → o.cls ≠ .type "list" → b' ≠ kS := fun {b' o} q r z => by
      rw [z, k2 _ _ hk'] at q
      exact r (by rw [← Option.some.inj q])
    refine wpAny_bind (listUpdate_at (k2 _ _ hk') rfl ?_ (by rw [sizeLine_eq]; lia) (Nat.le_trans (Nat.le_of_eq (Array.size_push ..)) (by rw [sizeLine_eq]; lia)))
    refine wpAny_pure ⟨rfl, _, _, kA.push (.ref I), c2, rfl, keepsBut (hb'.trans k2) s1 bk, hc2, other _ _ (k2 _ _ ha') hka.symm, ?_⟩
    rw [ea, ek]
    refine KeysAt.snoc (d := d) (t := tx) ⟨hK.1, fun i y q => ?_⟩ (other _ _ q1 (nk q1 (by simp))) (other _ _ q2 (nk q2 (by decide)))
    obtain ⟨I', d', t', r1, r2, r3⟩ := hK.2 i y q
    exact ⟨I', d', t', r1, other _ _ (k2 _ _ r2) (nk (k2 _ _ r2) (by simp)), other _ _ (k2 _ _ r3) (nk (k2 _ _ r3) (by decide))⟩
  case done =>
    rintro s' ⟨h', tk', kA, e', rfl, hb', hk', ha', hK⟩
    rw [Nat.zero_add, List.take_of_length_le (by lia)] at hK
    try dsimp only
    refine wpAny_bind (listItems_at hk' rfl ?_)
    exact end_wp (s := { s with heap := h', toks := tk' }) hd hu hh X K c hb' hk' ha' hka bk ba hI h64 hok hK done
theorem sorted_cmp {l : Addr} {Q : Value → Shared → Prop} (hd : A.in1.in1.depth + 20 < recursionLimit) (hu : A.in1.in1.units + un + 20 < cLine) (hh : A.in1.in1.handled = none) (X : (Mine02.hd.heap_1 w.params).In s.heap) (K : KeyAt w.params s.heap n t f) (c : CmpIs PySem.Challenge.rw_pu0025_02.row.prog w f cmp key ok un s.heap)
    (hlist : s.heap.IsList l vs.toArray) (hI : IntsAre vs ns) (h64 : ns.length < 64) (hok : ∀ x ∈ ns, ok x)
    (done : ∀ D h' tk' out ms c, Keeps s.heap h' → s.heap.get? D = none → h'.get? D = some (seqObj "list" out c) → IntsAre out.toList ms → ms.Perm ns → ms.Pairwise (fun x y => key x ≤ key y) → Q (.ref D) { s with heap := h', toks := tk' }) :
    wpAny (model PySem.Challenge.rw_pu0025_02.row.prog w) A (call (.builtin "sorted") [.ref l] [(Str.ofString "key", .ref (n + 60))]) Q E s := by
  have hl := hI.length
  refine call_function_entry_kw kind_sorted plain_sorted entry_sorted (ksk_s1 _ _) ?_
  unfold Builtin.«sorted»
  refine wpAny_bind (m := checkCount "sorted" 1 1 _) (wpAny_pure ?_)
  refine wpAny_bind (collect_list hlist ?_ (by rw [sizeLine_eq]; lia))
  refine wpAny_bind (wpAny_newList ?_ (by rw [sizeLine_eq]; lia))
  have hsz : ((s.heap.push (seqObj "list" #[] 0)).update s.heap.objs.size (Obj.mapSeq (· ++ vs.toArray))).objs.size = s.heap.objs.size + 1 := by
    rw [Heap.size_update, size_push']
  have hoL : (((s.heap.push (seqObj "list" #[] 0)).update s.heap.objs.size (Obj.mapSeq (· ++ vs.toArray))).push (seqObj "list" vs.toArray 0)).get? (s.heap.objs.size + 1) = some (seqObj "list" vs.toArray 0) := by
    rw [← hsz]; exact Heap.get?_push_size _ rfl
  have keep : Keeps s.heap (((s.heap.push (seqObj "list" #[] 0)).update s.heap.objs.size (Obj.mapSeq (· ++ vs.toArray))).push (seqObj "list" vs.toArray 0)) := fun b o q => by
    have hlt : b < s.heap.objs.size := Heap.lt_size q
    rw [Heap.get?_push_ne _ _ _ (by rw [hsz]; exact Nat.ne_of_lt (Nat.lt_succ_of_lt hlt)), Heap.get?_update_ne _ _ _ _ (Nat.ne_of_lt hlt), Heap.get?_push_ne _ _ _ (Nat.ne_of_lt hlt)]
    exact q
  show wpAny _ _ _ _ _ { s with heap := ((s.heap.push (seqObj "list" #[] 0)).update s.heap.objs.size (Obj.mapSeq (· ++ vs.toArray))).push (seqObj "list" vs.toArray 0) }
  rw [hsz]
  generalize hg : ((s.heap.push (seqObj "list" #[] 0)).update s.heap.objs.size (Obj.mapSeq (· ++ vs.toArray))).push (seqObj "list" vs.toArray 0) = g at hoL keep
  have ha0 : s.heap.get? (s.heap.objs.size + 1) = none := Heap.get?_none_of_le (Nat.le_succ _)
  have hga : s.heap.objs.size + 1 < g.objs.size := Heap.lt_size hoL
  refine wpAny_bind (wpAny_holding (wpAny_call_entry_kw slot_list_sort ⟨_, hoL, rfl⟩ entry_list_sort ?body (ksk_l1 _ _)))
  case body =>
    rw [ksk_t1]
    have s1 := Heap.SameBut.update g (s.heap.objs.size + 1) (Obj.mapSeq fun _ => (#[] : Array Value))
    obtain ⟨e1, ho1⟩ : ∃ e1, (g.update (s.heap.objs.size + 1) (Obj.mapSeq fun _ => (#[] : Array Value))).get? (s.heap.objs.size + 1) = some (seqObj "list" #[] e1) := ⟨_, get?_update_seq hoL fun _ => #[]⟩
    have k1 := keepsBut keep s1 ha0
    have hz1 : (g.update (s.heap.objs.size + 1) (Obj.mapSeq fun _ => (#[] : Array Value))).objs.size = g.objs.size := Heap.size_update ..
    have hz2 : ((g.update (s.heap.objs.size + 1) (Obj.mapSeq fun _ => (#[] : Array Value))).push (seqObj "tuple" vs.toArray 0)).objs.size = g.objs.size + 1 := by rw [size_push', hz1]
    have hka : ((g.update (s.heap.objs.size + 1) (Obj.mapSeq fun _ => (#[] : Array Value))).push (seqObj "tuple" vs.toArray 0)).objs.size ≠ s.heap.objs.size + 1 := by rw [hz2]; lia
    have hbk : s.heap.get? ((g.update (s.heap.objs.size + 1) (Obj.mapSeq fun _ => (#[] : Array Value))).push (seqObj "tuple" vs.toArray 0)).objs.size = none := Heap.get?_none_of_le (by rw [hz2]; lia)
    unfold ksk_tree
    refine wpAny_bind (listItems_at hoL rfl ?_)
    refine wpAny_bind (listUpdate_at hoL rfl ?_ (by rw [List.size_toArray, sizeLine_eq]; lia) (Nat.zero_le _))
    refine wpAny_bind (seqEpoch_at ho1 rfl ?_)
    refine wpAny_bind (wpAny_newTuple ?_ (by show vs.length ≤ _; rw [sizeLine_eq]; lia))
    refine wpAny_bind (wpAny_newList ?_ (Nat.zero_le _))
    refine wpAny_holding ?_
    refine rest_wp (s := { s with heap := ((g.update (s.heap.objs.size + 1) (Obj.mapSeq fun _ => (#[] : Array Value))).push (seqObj "tuple" vs.toArray 0)).push (seqObj "list" #[] 0) })
      (kS := ((g.update (s.heap.objs.size + 1) (Obj.mapSeq fun _ => (#[] : Array Value))).push (seqObj "tuple" vs.toArray 0)).objs.size) hd hu hh X K c
      (fun x o q => Heap.get?_push_of_some _ (Heap.get?_push_of_some _ (k1 x o q))) (Heap.get?_push_size _ rfl) (Heap.get?_push_of_some _ (Heap.get?_push_of_some _ ho1)) hka
      hbk ha0 hI h64 hok fun h' tk' out ms c' hb' q1 q2 q3 q4 => ⟨_, rfl, wpAny_pure ⟨_, rfl, done _ h' tk' out ms c' hb' ha0 q1 q2 q3 q4⟩⟩
end
end Mine
end
section
open PySem PySem.W PySem.W.X PyProof.Rows
set_option maxRecDepth 100000
set_option maxHeartbeats 8000000
namespace Mine
abbrev lamPar (p1 p2 : Pos) : Arguments := { posonlyargs := [], args := [{ arg := "a", annotation := none, pos := p1 }, { arg := "b", annotation := none, pos := p2 }], vararg := none, kwonlyargs := [], kw_defaults := [], kwarg := none, defaults := [] }
abbrev lamScope : Scope := { kind := .function, names := [(Str.ofString "a", .local), (Str.ofString "b", .local)], isGenerator := false, isCoroutine := false, more := [] }
theorem mul_small {x : Int} {c : Bool} : (decide (bitsQ x > shortFactorBits) && decide (bitsQ 256 > shortFactorBits) && c) = false := by
  have e : bitsQ 256 = 9 := bits_is (by decide)
  rw [e]
  have : decide (9 > shortFactorBits) = false := by decide
  rw [this]
  simp
theorem not_long {n : Nat} (h : n ≤ 16777216) : Builtin.Bytes.tooLong n = false := by
  unfold Builtin.Bytes.tooLong
  exact decide_eq_false (by rw [sizeLine_eq]; omega)
theorem sub_run {w : World} {s : Shared} {A : Around} {R : Result → Shared → Prop} {f c : Addr} {nm ql : Str} {p1 p2 q1 q2 q3 : Pos} {pm ct : Value} {oc : Obj} {vs : Array Value} {tq : Tok} {x y : Int} {tx ty : Tok} (hd : A.depth + 5 < recursionLimit) (X : (Mine02.hd.heap_1 w.params).In s.heap)
    (hf : s.heap.get? f = some (kla_obj nm ql (lamPar p1 p2) (.BinOp (.Name "b" q1) .Sub (.Name "a" q2) q3) lamScope [] pm c ct)) (hc : s.heap.get? c = some oc) (hdc : oc.data = .fields vs) (hv : vs[1]? = some (.str ql tq))
    (done : ∀ h' t' tk', Keeps s.heap h' → R (.ok (.ret (.int (y - x) t'))) { s with heap := h', toks := tk' }) :
    codeAny (model PySem.Challenge.rw_pu0025_02.row.prog w) A (.call (.ref f) ⟨[.int x tx, .int y ty], []⟩) R s := by
  obtain ⟨cl, dc, da, sl⟩ := oc
  cases hdc
  obtain ⟨vs⟩ := vs
  match vs, hv with
  | v0 :: v1 :: vr, hv =>
  cases hv
  refine simH_code s.heap.objs.size [] _ [.s 1, .s 2, .n, .n, .w 0, .w 0, .n, .w 0, .w 0, .n, .s 0] rfl (fun a vs h => nomatch h) (oldsCons (X 2 _ rfl) (oldsCons hf (oldsCons hc oldsNil))) fun O => ?_
  refine hold_of (M := model PySem.Challenge.rw_pu0025_02.row.prog w) (s := s) ?_
  kat_step
  refine three_in ?_
  kas_known
  refine ret_in ⟨by unfold accOk; kernel_rfl, fun p1 b1 l1 => ?_⟩
  have a11 := l1.near' (Nat.lt_of_le_of_lt (Nat.add_le_add_left (Nat.le_of_ble_eq_true rfl : Code.weight _ ≤ 5) A.depth) (by omega)) 0
  have a12 := l1.over (Nat.lt_of_le_of_lt (Nat.add_le_add_left (Nat.le_of_ble_eq_true rfl : Code.weight _ ≤ 5) A.depth) (by omega)) 0
  have a13 := l1.warm (Nat.lt_of_le_of_lt (Nat.add_le_add_left (Nat.le_of_ble_eq_true rfl : Code.weight _ ≤ 5) A.depth) (by omega)) 0
  refine hold_of (M := model PySem.Challenge.rw_pu0025_02.row.prog w) (s := s) ?_
  kat_step
  refine three_in ?_
  kas_known
  refine ret_in ⟨by unfold accOk; kernel_rfl, fun h1 D1 => ?_⟩
  conv =>
    enter [4]
    whnf
    repeat (enter [27]; whnf)
    rw [show nearF _ _ _ = false from a11, show overF _ _ _ = false from a12, show warmF _ _ _ = false from a13]
  refine simH_more O [.n, .w 0, .w 0, .n, .n, .n, .n, .n] D1 ?_
  refine hold_of (M := model PySem.Challenge.rw_pu0025_02.row.prog w) (s := s) ?_
  kat_step
  refine three_in ?_
  kas_known
  refine ret_in ⟨by unfold accOk; kernel_rfl, fun h2 D2 => ?_⟩
  exact done h2 _ _ fun b o e => D2.keep b o e rfl
theorem add_run {w : World} {s : Shared} {A : Around} {R : Result → Shared → Prop} {f c : Addr} {nm ql : Str} {p1 p2 q1 q2 q3 : Pos} {pm ct : Value} {oc : Obj} {vs : Array Value} {tq : Tok} {x y : Array UInt8} {tx ty : Tok} (hd : A.depth + 5 < recursionLimit) (X : (Mine02.hd.heap_1 w.params).In s.heap)
    (hf : s.heap.get? f = some (kla_obj nm ql (lamPar p1 p2) (.BinOp (.Name "a" q1) .Add (.Name "b" q2) q3) lamScope [] pm c ct)) (hc : s.heap.get? c = some oc) (hdc : oc.data = .fields vs) (hv : vs[1]? = some (.str ql tq)) (hz : x.size + y.size ≤ 16777216)
    (done : ∀ h' t' tk', Keeps s.heap h' → R (.ok (.ret (.bytes (x ++ y) t'))) { s with heap := h', toks := tk' }) :
    codeAny (model PySem.Challenge.rw_pu0025_02.row.prog w) A (.call (.ref f) ⟨[.bytes x tx, .bytes y ty], []⟩) R s := by
  obtain ⟨cl, dc, da, sl⟩ := oc
  cases hdc
  obtain ⟨vs⟩ := vs
  match vs, hv with
  | v0 :: v1 :: vr, hv =>
  cases hv
  refine simH_code s.heap.objs.size [] _ [.s 1, .s 2, .n, .n, .w 0, .w 0, .n, .w 0, .w 0, .n, .s 0] rfl (fun a vs h => nomatch h) (oldsCons (X 2 _ rfl) (oldsCons hf (oldsCons hc oldsNil))) fun O => ?_
  refine hold_of (M := model PySem.Challenge.rw_pu0025_02.row.prog w) (s := s) ?_
  kat_step
  refine three_in ?_
  kas_known
  refine ret_in ⟨by unfold accOk; kernel_rfl, fun p1 b1 l1 => ?_⟩
  have a11 := l1.near' (Nat.lt_of_le_of_lt (Nat.add_le_add_left (Nat.le_of_ble_eq_true rfl : Code.weight _ ≤ 5) A.depth) (by omega)) 0
  have a12 := l1.over (Nat.lt_of_le_of_lt (Nat.add_le_add_left (Nat.le_of_ble_eq_true rfl : Code.weight _ ≤ 5) A.depth) (by omega)) 0
  have a13 := l1.warm (Nat.lt_of_le_of_lt (Nat.add_le_add_left (Nat.le_of_ble_eq_true rfl : Code.weight _ ≤ 5) A.depth) (by omega)) 0
  refine hold_of (M := model PySem.Challenge.rw_pu0025_02.row.prog w) (s := s) ?_
  kat_step
  refine three_in ?_
  kas_known
  refine ret_in ⟨by unfold accOk; kernel_rfl, fun h1 D1 => ?_⟩
  conv =>
    enter [4]
    whnf
    repeat (enter [27]; whnf)
    rw [show nearF _ _ _ = false from a11, show overF _ _ _ = false from a12, show warmF _ _ _ = false from a13]
  refine simH_more O [.n, .w 0, .w 0, .n, .n] D1 ?_
  refine hold_of (M := model PySem.Challenge.rw_pu0025_02.row.prog w) (s := s) ?_
  kat_step
  refine three_in ?_
  kas_known
  refine ret_in ⟨by unfold accOk; kernel_rfl, fun h2 D2 => ?_⟩
  conv =>
    enter [4]
    whnf
    repeat (enter [27]; whnf)
    enter [3]
    tactic' => exact (by kernel_rfl : _ = false)
  conv =>
    enter [4]
    whnf
    repeat (enter [27]; whnf)
    enter [3]
    tactic' => exact (by kernel_rfl : _ = false)
  conv =>
    enter [4]
    whnf
    repeat (enter [27]; whnf)
    enter [3]
    tactic' => exact (by kernel_rfl : _ = false)
  conv =>
    enter [4]
    whnf
    repeat (enter [27]; whnf)
    enter [3]
    tactic' => exact (by kernel_rfl : _ = false)
  conv =>
    enter [4]
    whnf
    repeat (enter [27]; whnf)
    enter [3]
  cases hxe : x.isEmpty
  · conv =>
      enter [4]
      whnf
      repeat (enter [27]; whnf)
      enter [3]
    cases hye : y.isEmpty
    · conv =>
        enter [4]
        whnf
        repeat (enter [27]; whnf)
        enter [3]
        rw [not_long hz]
      have hz2 : ¬ sizeLine < (x ++ y).size := by rw [Array.size_append, sizeLine_eq]; omega
      conv =>
        enter [4]
        whnf
        repeat (enter [27]; whnf)
        rw [← ZFast.ze494991955013373658]
        enter [3]
        rw [show Nat.decLt sizeLine (x ++ y).size = Decidable.isFalse hz2 from Subsingleton.elim _ _]
      refine simH_more O [.n, .n, .n] D2 ?_
      refine hold_of (M := model PySem.Challenge.rw_pu0025_02.row.prog w) (s := s) ?_
      kat_step
      refine three_in ?_
      kas_known
      refine ret_in ⟨by unfold accOk; kernel_rfl, fun h3 D3 => ?_⟩
      exact done h3 _ _ fun b o e => D3.keep b o e rfl
    · refine simH_more O [.n, .n] D2 ?_
      refine hold_of (M := model PySem.Challenge.rw_pu0025_02.row.prog w) (s := s) ?_
      kat_step
      refine three_in ?_
      kas_known
      refine ret_in ⟨by unfold accOk; kernel_rfl, fun h3 D3 => ?_⟩
      have e : x ++ y = x := by rw [Array.isEmpty_iff.mp hye]; simp
      rw [e] at done
      exact end_at (R := R) (.ok (.ret (.bytes x _))) (by kernel_rfl) (done h3 tx _ fun b o e => D3.keep b o e rfl)
  · refine simH_more O [.n, .n] D2 ?_
    refine hold_of (M := model PySem.Challenge.rw_pu0025_02.row.prog w) (s := s) ?_
    kat_step
    refine three_in ?_
    kas_known
    refine ret_in ⟨by unfold accOk; kernel_rfl, fun h3 D3 => ?_⟩
    have e : x ++ y = y := by rw [Array.isEmpty_iff.mp hxe]; simp
    rw [e] at done
    exact end_at (R := R) (.ok (.ret (.bytes y _))) (by kernel_rfl) (done h3 ty _ fun b o e => D3.keep b o e rfl)
theorem mul_run {w : World} {s : Shared} {A : Around} {R : Result → Shared → Prop} {f c : Addr} {nm ql : Str} {p1 p2 q1 q2 q3 q4 q5 : Pos} {t2 : Tok} {pm ct : Value} {oc : Obj} {vs : Array Value} {tq : Tok} {x y : Int} {tx ty : Tok} (hd : A.depth + 5 < recursionLimit) (X : (Mine02.hd.heap_1 w.params).In s.heap)
    (hf : s.heap.get? f = some (kla_obj nm ql (lamPar p1 p2) (.BinOp (.BinOp (.Name "a" q1) .Mult (.Constant (.int 256) t2 q2) q3) .Add (.Name "b" q4) q5) lamScope [] pm c ct)) (hc : s.heap.get? c = some oc) (hdc : oc.data = .fields vs) (hv : vs[1]? = some (.str ql tq))
    (done : ∀ h' t' tk', Keeps s.heap h' → R (.ok (.ret (.int (x * 256 + y) t'))) { s with heap := h', toks := tk' }) :
    codeAny (model PySem.Challenge.rw_pu0025_02.row.prog w) A (.call (.ref f) ⟨[.int x tx, .int y ty], []⟩) R s := by
  obtain ⟨cl, dc, da, sl⟩ := oc
  cases hdc
  obtain ⟨vs⟩ := vs
  match vs, hv with
  | v0 :: v1 :: vr, hv =>
  cases hv
  refine simH_code s.heap.objs.size [] _ [.s 1, .s 2, .n, .n, .w 0, .w 0, .n, .w 0, .w 0, .n, .s 0] rfl (fun a vs h => nomatch h) (oldsCons (X 2 _ rfl) (oldsCons hf (oldsCons hc oldsNil))) fun O => ?_
  refine hold_of (M := model PySem.Challenge.rw_pu0025_02.row.prog w) (s := s) ?_
  kat_step
  refine three_in ?_
  kas_known
  refine ret_in ⟨by unfold accOk; kernel_rfl, fun p1 b1 l1 => ?_⟩
  have a11 := l1.near' (Nat.lt_of_le_of_lt (Nat.add_le_add_left (Nat.le_of_ble_eq_true rfl : Code.weight _ ≤ 5) A.depth) (by omega)) 0
  have a12 := l1.over (Nat.lt_of_le_of_lt (Nat.add_le_add_left (Nat.le_of_ble_eq_true rfl : Code.weight _ ≤ 5) A.depth) (by omega)) 0
  have a13 := l1.warm (Nat.lt_of_le_of_lt (Nat.add_le_add_left (Nat.le_of_ble_eq_true rfl : Code.weight _ ≤ 5) A.depth) (by omega)) 0
  refine hold_of (M := model PySem.Challenge.rw_pu0025_02.row.prog w) (s := s) ?_
  kat_step
  refine three_in ?_
  kas_known
  refine ret_in ⟨by unfold accOk; kernel_rfl, fun h1 D1 => ?_⟩
  conv =>
    enter [4]
    whnf
    repeat (enter [27]; whnf)
    rw [show nearF _ _ _ = false from a11, show overF _ _ _ = false from a12, show warmF _ _ _ = false from a13]
  refine simH_more O [.n, .w 0, .n, .n, .n] D1 ?_
  refine hold_of (M := model PySem.Challenge.rw_pu0025_02.row.prog w) (s := s) ?_
  kat_step
  refine three_in ?_
  kas_known
  refine ret_in ⟨by unfold accOk; kernel_rfl, fun h2 D2 => ?_⟩
  conv =>
    enter [4]
    whnf
    repeat (enter [27]; whnf)
  generalize hb : (decide (bitsQ x > shortFactorBits) && decide (bitsQ 256 > shortFactorBits) && _) = b
  obtain rfl : false = b := mul_small.symm.trans hb
  refine simH_more O [.n, .n, .w 0, .n, .n, .n, .n, .n] D2 ?_
  refine hold_of (M := model PySem.Challenge.rw_pu0025_02.row.prog w) (s := s) ?_
  kat_step
  refine three_in ?_
  kas_known
  refine ret_in ⟨by unfold accOk; kernel_rfl, fun h3 D3 => ?_⟩
  exact done h3 _ _ fun b o e => D3.keep b o e rfl
end Mine
end
section
open PySem PySem.W PyProof.Rows PySem.Spec PySem.Calls
set_option maxRecDepth 100000
namespace Mine
section
variable {prog : Program} {w : World} {A₀ A : Around} {s : Shared} {base h₀ : Heap} {outer : List Env} {L : Addr} {m mg mb : Str → Option Value} {env : Env} {E : Value → Shared → Prop} {Q : Value → Shared → Prop}
  {K : Frag} {p : Program} {loose : List Str} {mean : ExcName → Option Value} {news : List (Addr × Obj)}
  {name qual : Str} {params : Arguments} {body : List Stmt} {scope : Scope} {dV kV doc pm cdv ct oc : Value} {an od : Option Addr} {osl : Array (Option Value)} {f : Addr} {pos : List Value} {kw : List (Str × Value)} {binds : List (Str × Value)}
/-- a call of a def of the written part, some objects (code tables) kept in the ledger -/
theorem callN (B : Below A₀ base outer h₀) (F : Fr h₀ L s.heap m) (N : News h₀ L s.heap news) (X₀ : K.In h₀) (T : Top p loose mean mg mb h₀) (hA : A.frames = some (env :: outer)) (hf : env.frame = some L) (hke : env.scope.kind = .function)
    (ho : K.lookup f = some ⟨oc, od, .func (fnOf name qual params body scope dV kV doc pm an cdv ct), osl⟩) (hcd : codeIn K cdv qual = true) (hroom : A.depth < recursionLimit)
    (hbind : BindsTo s (fnOf name qual params body scope dV kV doc pm an cdv ct) ⟨pos, kw⟩ binds) (hloc : ∀ y ∈ binds, scope.names.lookup y.1 = some .local)
    (hcell : ∀ x ∈ scope.names, x.2 ≠ .cell) (hco : scope.isCoroutine = false) (hgen : scope.isGenerator = false) (hk : scope.kind = .function)
    (h : ∀ L' h₁, Fr (hideAll s.heap (news.map (·.1))) L' h₁ (fun y => binds.reverse.lookup y) → News (hideAll s.heap (news.map (·.1))) L' h₁ news → Below A base (env :: outer) (hideAll s.heap (news.map (·.1))) → K.In (hideAll s.heap (news.map (·.1))) → Top p loose mean mg mb (hideAll s.heap (news.map (·.1))) → h₀.StaysIn (hideAll s.heap (news.map (·.1))) →
      wpAny (model prog w) (A.deeper (envOf qual scope L' f cdv)) (execs body (envOf qual scope L' f cdv))
        (fun fl s' => Q (match fl with | .ret v => v | _ => .none) s')
        (fun e s' => wpAny (model prog w) (A.deeper (envOf qual scope L' f cdv)) (leaving (envOf qual scope L' f cdv) e) (fun _ s'' => E e s'') (fun e' s'' => E e' s'') s')
        { s with heap := h₁, toks := s.toks + binds.length }) : wpAny (model prog w) A (call (.ref f) pos kw) Q E s := by
  refine wpAny_call ?_
  have X := X₀.keeps F.keep
  obtain ⟨_, BG, st, _⟩ := groundX (R := fun r s' => match r with | .ok (.ret v) => Q v s' | .ok _ => False | .error e => E e s') B F N hA hf hke
  refine codeAny_call_def (fd := fnOf name qual params body scope dV kV doc pm an cdv ct) (body := body) (binds := binds) hroom (X _ _ ho) rfl (T.nolimit.keeps F.keep) (codeRec_of X hcd) rfl hbind hcell hloc (fun h₁ hns hk₁ => ?_) hco hgen hk
  refine h s.heap.objs.size h₁ ⟨hns, fun b o e => hk₁ b o (of_hideAll _ e), Nat.le_of_eq (hideAll_size _ _)⟩ (fun q hq => ⟨hk₁ _ _ (N q hq).1, Nat.ne_of_lt (Heap.lt_size (N q hq).1), hideAll_none _ (List.mem_map_of_mem hq)⟩) BG (X₀.keeps st) (T.keeps st) st
end
/-- the start-up objects, out of the lines' sight -/
structure BootAt (P : Params) (h : Heap) : Prop where
  out : (Mine02.boots P).In h
/-- back in the caller: what stood but the objects set apart -/
theorem fr_back {h₀ h h' : Heap} {L : Addr} {m : Str → Option Value} {news : List (Addr × Obj)} (F : Fr h₀ L h m) (N : News h₀ L h news) (k : Keeps (hideAll h (news.map (·.1))) h') : Fr h₀ L h' m := by
  obtain ⟨oL, es, ep, hL, r⟩ := F.ns
  have nm : ∀ b o, h₀.get? b = some o → b ∉ news.map (·.1) := fun b o e q => by
    obtain ⟨p, hp, rfl⟩ := List.mem_map.mp q
    rw [(N p hp).2.2] at e; cases e
  refine ⟨⟨oL, es, ep, k _ _ (hideAll_get _ hL fun q => ?_), r⟩, fun b o e => k _ _ (hideAll_get _ (F.keep b o e) (nm b o e)), F.above⟩
  obtain ⟨p, hp, e⟩ := List.mem_map.mp q
  exact (N p hp).2.1 e
end Mine
end
section
open PySem PySem.W PyProof.Rows PySem.Spec PySem.Calls
set_option maxRecDepth 100000
namespace Mine
/-- a number's three octets, the highest first -/
def row3 (k : Int) : List UInt8 := [((k.fdiv 65536).fmod 256).toNat.toUInt8, ((k.fdiv 256).fmod 256).toNat.toUInt8, (k.fmod 256).toNat.toUInt8]
/-- its writing -/
def encOf (k : Int) : List UInt8 := enc3 ((k.fdiv 65536).fmod 256).toNat.toUInt8 ((k.fdiv 256).fmod 256).toNat.toUInt8 (k.fmod 256).toNat.toUInt8
theorem bytes_three {prog : Program} {w : World} {A : Around} {E Q : Value → Shared → Prop} {s : Shared} {h₀ : Heap} {L l : Addr} {news : List (Addr × Obj)} {n : Nat} {y0 y1 y2 : Int} {t0 t1 t2 : Tok}
    (N : News h₀ L s.heap news) (hm : (l, W.listOf (List.toArray [Value.int y0 t0, .int y1 t1, .int y2 t2]) n) ∈ news) (hh : A.handled = none) (h0 : 0 ≤ y0 ∧ y0 < 256) (h1 : 0 ≤ y1 ∧ y1 < 256) (h2 : 0 ≤ y2 ∧ y2 < 256)
    (h : ∀ h' t k, Keeps s.heap h' → Q (.bytes (List.toArray [y0.toNat.toUInt8, y1.toNat.toUInt8, y2.toNat.toUInt8]) t) { s with heap := h', toks := k }) : wpAny (model prog w) A (call (.type "bytes") [.ref l]) Q E s := by
  refine call_bytes_ints (vs := [.int y0 t0, .int y1 t1, .int y2 t2]) (ns := [y0, y1, y2]) ⟨_, (N _ hm).1, rfl, _, rfl⟩ (.cons _ _ (.cons _ _ (.cons _ _ .nil))) ?_ ?_ hh h
  · simp only [List.forall_mem_cons, List.not_mem_nil, false_implies, implies_true, and_true]
    exact ⟨h0, h1, h2⟩
  · rw [sizeLine_eq]; exact Nat.le_of_ble_eq_true rfl
theorem fmod256 (x : Int) : 0 ≤ x.fmod 256 ∧ x.fmod 256 < 256 := by
  rw [Int.fmod_eq_emod_of_nonneg _ (by decide)]
  omega
def KbEl (news : List (Addr × Obj)) (b : List UInt8) (y : Value) (news' : List (Addr × Obj)) : Prop := news' = news ∧ ∃ t : Tok, y = .bytes b.toArray t
theorem BytesAre.snoc {b : List UInt8} {t : Tok} : ∀ {vs : List Value} {bs : List (List UInt8)}, BytesAre vs bs → BytesAre (vs ++ [.bytes b.toArray t]) (bs ++ [b])
  | _, _, .nil => .cons b t .nil
  | _, _, .cons z u r => .cons z u r.snoc
section
variable {prog : Program} {w : World} {A : Around} {h₀ : Heap} {L : Addr} {m : Str → Option Value} {env : Env} {elt : Expr} {x : Str} {scope : Scope} {cl : List (Str × Addr)} {s : Shared} {S : List (Addr × Obj) → Prop} {P : Nat → Value → Prop} {Fin : List Value → List (Addr × Obj) → Prop} {news : List (Addr × Obj)}
theorem kb_rest {n : Nat} {bs : List (List UInt8)} (hl : bs.length = n)
    (turn : ∀ i v b, bs[i]? = some b → P i v → ∀ I oI C oC D m₂ ys h tk (E' : Value → Shared → Prop), LCg.NsObj oC m₂ → m₂ x = some v → Fr h₀ L h m → News h₀ L h ((I, oI) :: (C, oC) :: (D, LCg.lst ys) :: news) → LCg.Off3 I C D news → ((@Ne Nat I C) ∧ (@Ne Nat I D) ∧ (@Ne Nat C D)) →
      wpAny (model prog w) A (eval elt (compEnvC scope cl C env)) (LCg.CompEnd h₀ L m { s with heap := h, toks := tk } I oI C oC D (LCg.lst ys) S (fun y news' => KbEl news b y news')) E' { s with heap := h, toks := tk })
    (fin : ∀ ys, BytesAre ys bs → Fin ys news) : LCg.CompRest prog w A h₀ L m env elt x scope cl s S P Fin n 0 [] news := by
  have key : ∀ (j i : Nat) (ys : List Value), i + j = n → BytesAre ys (bs.take i) → LCg.CompRest prog w A h₀ L m env elt x scope cl s S P Fin j i ys news := by
    intro j
    induction j with
    | zero =>
      intro i ys hi hy
      rw [List.take_of_length_le (by omega)] at hy
      exact LCg.CompRest.zero (fin ys hy)
    | succ j ih =>
      intro i ys hi hy
      refine LCg.CompRest.succ ?_
      intro v I oI C oC D m₂ h tk E' hv hC hx F N off ne
      have hi' : i < bs.length := by omega
      refine wpAny_mono (turn i v _ (List.getElem?_eq_getElem hi') hv I oI C oC D m₂ ys h tk E' hC hx F N off ne) (fun y s₂ hq => ?_) fun _ _ e => e
      obtain ⟨h', tk', nw, e, F', N', off', hS, hn, t', hy'⟩ := hq
      rw [hn] at N' off' hS
      refine ⟨h', tk', news, e, F', N', off', hS, ?_⟩
      rw [hy']
      refine ih (i + 1) _ (by omega) ?_
      rw [List.take_add_one, List.getElem?_eq_getElem hi']
      exact hy.snoc
  exact key n 0 [] (by omega) (by simpa using BytesAre.nil)
/-- over numbers -/
theorem kb_ints {vs : List Value} {ns : List Int} (g : Int → List UInt8) (hi : IntsAre vs ns)
    (turn : ∀ k t, k ∈ ns → ∀ I oI C oC D m₂ ys h tk (E' : Value → Shared → Prop), LCg.NsObj oC m₂ → m₂ x = some (.int k t) → Fr h₀ L h m → News h₀ L h ((I, oI) :: (C, oC) :: (D, LCg.lst ys) :: news) → LCg.Off3 I C D news → ((@Ne Nat I C) ∧ (@Ne Nat I D) ∧ (@Ne Nat C D)) →
      wpAny (model prog w) A (eval elt (compEnvC scope cl C env)) (LCg.CompEnd h₀ L m { s with heap := h, toks := tk } I oI C oC D (LCg.lst ys) S (fun y news' => KbEl news (g k) y news')) E' { s with heap := h, toks := tk })
    (fin : ∀ ys, BytesAre ys (ns.map g) → Fin ys news) : LCg.CompRest prog w A h₀ L m env elt x scope cl s S (fun i v => vs.toArray[i]? = some v) Fin vs.toArray.size 0 [] news := by
  refine kb_rest (bs := ns.map g) (by rw [List.length_map, List.size_toArray]; exact hi.length.symm) (fun i v b hb hv => ?_) fin
  rw [List.getElem?_map] at hb
  cases q : ns[i]? with
  | none => rw [q] at hb; simp at hb
  | some k =>
    rw [q] at hb
    cases (show some (g k) = some b from hb)
    obtain ⟨t, ht⟩ := hi.get i k q
    have hv' : vs[i]? = some v := by simpa using hv
    rw [ht] at hv'
    cases hv'
    exact turn k t (List.mem_of_getElem? q)
/-- over octets made of numbers -/
theorem kb_rows {vs : List Value} {ns : List Int} (r g : Int → List UInt8) (hi : BytesAre vs (ns.map r))
    (turn : ∀ k t, k ∈ ns → ∀ I oI C oC D m₂ ys h tk (E' : Value → Shared → Prop), LCg.NsObj oC m₂ → m₂ x = some (.bytes (r k).toArray t) → Fr h₀ L h m → News h₀ L h ((I, oI) :: (C, oC) :: (D, LCg.lst ys) :: news) → LCg.Off3 I C D news → ((@Ne Nat I C) ∧ (@Ne Nat I D) ∧ (@Ne Nat C D)) →
      wpAny (model prog w) A (eval elt (compEnvC scope cl C env)) (LCg.CompEnd h₀ L m { s with heap := h, toks := tk } I oI C oC D (LCg.lst ys) S (fun y news' => KbEl news (g k) y news')) E' { s with heap := h, toks := tk })
    (fin : ∀ ys, BytesAre ys (ns.map g) → Fin ys news) : LCg.CompRest prog w A h₀ L m env elt x scope cl s S (fun i v => vs.toArray[i]? = some v) Fin vs.toArray.size 0 [] news := by
  refine kb_rest (bs := ns.map g) (by rw [List.size_toArray, hi.length, List.length_map, List.length_map]) (fun i v b hb hv => ?_) fin
  rw [List.getElem?_map] at hb
  cases q : ns[i]? with
  | none => rw [q] at hb; simp at hb
  | some k =>
    rw [q] at hb
    cases (show some (g k) = some b from hb)
    have hv' : vs[i]? = some v := by simpa using hv
    obtain ⟨b', t, h1, rfl⟩ := hi.at hv'
    rw [List.getElem?_map, q] at h1
    cases (show some (r k) = some b' from h1)
    exact turn k t (List.mem_of_getElem? q)
end
end Mine
end
section
open PySem PySem.W PyProof.Rows PySem.Spec PySem.Calls
set_option maxRecDepth 100000
namespace Mine
/-- the writing of the numbers, end to end -/
def longOf (ns : List Int) : List UInt8 := (ns.map encOf).flatten
/-- a number's four figures -/
def figs3 (b0 b1 b2 : UInt8) : List Int := [(b0.toNat : Int) / 4 % 64, ((b0.toNat : Int) * 256 + b1.toNat) / 16 % 64, ((b1.toNat : Int) * 256 + b2.toNat) / 64 % 64, (b2.toNat : Int) % 64]
def figsOf (ns : List Int) : List Int := (ns.map fun k => figs3 ((k.fdiv 65536).fmod 256).toNat.toUInt8 ((k.fdiv 256).fmod 256).toNat.toUInt8 (k.fmod 256).toNat.toUInt8).flatten
theorem longOf_length (ns : List Int) : (longOf ns).length = 4 * ns.length := by
  unfold longOf
  induction ns with
  | nil => rfl
  | cons k r ih =>
    rw [List.map_cons, List.flatten_cons, List.length_append, ih, List.length_cons]
    show 4 + _ = _
    omega
theorem figsOf_length (ns : List Int) : (figsOf ns).length = 4 * ns.length := by
  unfold figsOf
  induction ns with
  | nil => rfl
  | cons k r ih =>
    rw [List.map_cons, List.flatten_cons, List.length_append, ih, List.length_cons]
    show 4 + _ = _
    omega
theorem figsOf_mem {ns : List Int} : ∀ f ∈ figsOf ns, 0 ≤ f ∧ f < 64 := by
  intro f hf
  obtain ⟨l, hl, hf⟩ := List.mem_flatten.mp hf
  obtain ⟨k, _, rfl⟩ := List.mem_map.mp hl
  simp only [figs3, List.mem_cons, List.not_mem_nil, or_false] at hf
  omega
theorem in_at {h₀ h : Heap} {L l : Addr} {o : Obj} {news : List (Addr × Obj)} (N : News h₀ L h news) (hm : (l, o) ∈ news) : h.get? l = some o := (N _ hm).1
section
variable {w : World} {dp un : Nat} {gd : Option (List Code)} {cn : Str} {cs : Scope} {a : Addr} {ccd : Value} {cl : List (Str × Addr)} {outer : List Env} {A₀ : Around} {base h₀ : Heap} {L : Addr} {m mg mb : Str → Option Value} {s : Shared} {Q E : Value → Shared → Prop}
  {p : Program} {loose : List Str} {mean : ExcName → Option Value}
variable {news : List (Addr × Obj)} {f l c : Addr} {nm ql : Str} {p1 p2 q1 q2 q3 q4 q5 : Pos} {pm ct : Value} {oc : Obj} {vs0 : Array Value} {t2 tq : Tok} {ys : List Value} {ns : List Int}
theorem lamAdd_at {h : Heap} (hf : h.get? f = some (kla_obj nm ql (lamPar p1 p2) (.BinOp (.Name "a" q1) .Add (.Name "b" q2) q3) lamScope [] pm c ct)) (hc : h.get? c = some oc) (hdc : oc.data = .fields vs0) (hv : vs0[1]? = some (.str ql tq)) : LamAdd w f h := by
  intro dp un gd cn cs a ccd cl outer A₀ base h₀ L m mg mb s Q E p loose mean x y tx ty hk B F X T _ hd hu hz hret
  refine wpAny_call (add_run (by ktr_room) (X.keeps F.keep) (hk _ _ hf) (hk _ _ hc) hdc hv (by simpa using hz) fun h' t' tk' K => ?_)
  simpa using hret t' h' tk' K
theorem lamMul_at {h : Heap} (hf : h.get? f = some (kla_obj nm ql (lamPar p1 p2) (.BinOp (.BinOp (.Name "a" q1) .Mult (.Constant (.int 256) t2 q2) q3) .Add (.Name "b" q4) q5) lamScope [] pm c ct)) (hc : h.get? c = some oc) (hdc : oc.data = .fields vs0) (hv : vs0[1]? = some (.str ql tq)) : LamMul w f h := by
  intro dp un gd cn cs a ccd cl outer A₀ base h₀ L m mg mb s Q E p loose mean x y tx ty hk B F X T _ hd hu hz hret
  exact wpAny_call (mul_run (by ktr_room) (X.keeps F.keep) (hk _ _ hf) (hk _ _ hc) hdc hv fun h' t' tk' K => hret t' h' tk' K)
theorem fnAt_at {h : Heap} {params : Arguments} {body : Expr} {scope : Scope} (hf : h.get? f = some (kla_obj nm ql params body scope [] pm c ct)) : FnAt f h := ⟨_, _, _, _, hf⟩
theorem cmpSub_at {h : Heap} (X : (Mine02.hd.heap_1 w.params).In h) (hf : h.get? f = some (kla_obj nm ql (lamPar p1 p2) (.BinOp (.Name "b" q1) .Sub (.Name "a" q2) q3) lamScope [] pm c ct)) (hc : h.get? c = some oc) (hdc : oc.data = .fields vs0) (hv : vs0[1]? = some (.str ql tq)) :
    CmpIs PySem.Challenge.rw_pu0025_02.row.prog w f (fun x y => y - x) (fun x => -x) (fun _ => True) 0 h where
  fn := ⟨_, _, _, hf⟩
  does := fun A R s x y tx ty hk _ _ _ hd _ done => sub_run (by omega) (X.keeps hk) (hk _ _ hf) (hk _ _ hc) hdc hv fun h' t' tk' K => done t' h' tk' K
  is := fun x y _ _ => by omega
theorem red_told : PySem.Challenge.rw_pu0025_02.foot = PySem.Challenge.rw_pu0025_02.foot → Below A₀ base outer h₀ → Fr h₀ L s.heap m → (Mine02.hd.heap_1 w.params).In h₀ → Top p loose mean mg mb h₀ → cs.kind = .function → dp + 15 < recursionLimit → un + 120 < cLine → News h₀ L s.heap news → (f, kla_obj nm ql (lamPar p1 p2) (.BinOp (.Name "a" q1) .Add (.Name "b" q2) q3) lamScope [] pm c ct) ∈ news → (c, oc) ∈ news → oc.data = .fields vs0 → vs0[1]? = some (.str ql tq) →
    (l, LCg.lst ys) ∈ news → BytesAre ys (ns.map encOf) → 0 < ns.length → ns.length ≤ 12 →
    (∀ t' h' tk', Keeps s.heap h' → Q (.bytes (longOf ns).toArray t') { s with heap := h', toks := tk' }) →
    wpAny (model PySem.Challenge.rw_pu0025_02.row.prog w) (ktrTop dp un gd cn cs L a ccd cl outer) (call (.ref 37) [.ref f, .ref l]) Q E s := by
  intro hfoot B F X T hk hd hu N hf hc hdc hv hl hB h0 h1 hret
  cases ns with
  | nil => cases h0
  | cons k kr =>
    refine reduceB_spec hfoot B F X T hk hd hu (lamAdd_at (in_at N hf) (in_at N hc) hdc hv) (fnAt_at (in_at N hf)) ⟨_, in_at N hl, rfl, _, rfl⟩ hB ?_ hret
    show (longOf (k :: kr)).length ≤ 1000
    rw [longOf_length]
    omega
theorem redI_told {lb : List UInt8} {tb t0 : Tok} : PySem.Challenge.rw_pu0025_02.foot = PySem.Challenge.rw_pu0025_02.foot → Below A₀ base outer h₀ → Fr h₀ L s.heap m → (Mine02.hd.heap_1 w.params).In h₀ → Top p loose mean mg mb h₀ → cs.kind = .function → dp + 15 < recursionLimit → un + 120 < cLine → News h₀ L s.heap news → (f, kla_obj nm ql (lamPar p1 p2) (.BinOp (.BinOp (.Name "a" q1) .Mult (.Constant (.int 256) t2 q2) q3) .Add (.Name "b" q4) q5) lamScope [] pm c ct) ∈ news → (c, oc) ∈ news → oc.data = .fields vs0 → vs0[1]? = some (.str ql tq) →
    lb.length ≤ 1000 → (∀ t' h' tk', Keeps s.heap h' → Q (.int (num256 lb) t') { s with heap := h', toks := tk' }) →
    wpAny (model PySem.Challenge.rw_pu0025_02.row.prog w) (ktrTop dp un gd cn cs L a ccd cl outer) (call (.ref 37) [.ref f, .bytes lb.toArray tb, .int 0 t0]) Q E s := by
  intro hfoot B F X T hk hd hu N hf hc hdc hv h1 hret
  exact reduceI_spec hfoot B F X T hk hd hu (lamMul_at (in_at N hf) (in_at N hc) hdc hv) (fnAt_at (in_at N hf)) h1 hret
end
end Mine
end
section
open PySem PySem.W PyProof.Rows PySem.Spec PySem.Calls
set_option maxRecDepth 100000
namespace Mine
theorem lb_len : typeLookup (.type "bytes") "__len__" = pure (some (.builtin "bytes.__len__")) := by rw [typeLookup_type, builtinLookup_eq_fast]; kernel_rfl
abbrev OctAt (b : Array UInt8) (i : Nat) (v : Value) : Prop := ∃ c u, b[i]? = some c ∧ v = .int (c.toNat : Int) u
section
variable {prog : Program} {w : World} {A : Around} {E : Value → Shared → Prop} {s : Shared}
theorem extend_bytes {R : Result → Shared → Prop} (hh : A.handled = none) (x : Array UInt8) (t : Tok) (S : Addr) (res : Value) (c₀ : Nat) (hS : s.heap.get? S = some { cls := .type "list", data := .seq #[] c₀ })
    (hR : ∀ h' tk acc' c', (∀ b o, b ≠ S → s.heap.get? b = some o → h'.get? b = some o) → h'.get? S = some { cls := .type "list", dict := none, data := .seq acc' c', slots := #[] } →
      ItemsOf (OctAt x) acc' x.size → R (.ok (.ret res)) { s with heap := h', toks := tk }) (hn : x.size ≤ sizeLine) :
    wpAny (model prog w) A.in1 (Builtin.List.listExtendWith (.ref S) (.bytes x t) res)
      (fun fin s' => match fin with | .done f => R (.ok f) s' | .again c' => c'.quiet = true ∧ codeAny (model prog w) A c' R s') (fun e s' => R (.error e) s') s := by
  have hSI : S ≠ s.heap.objs.size := Nat.ne_of_lt (Heap.lt_size hS)
  have hSf : S ∉ [s.heap.objs.size] := fun hm => hSI (List.mem_singleton.mp hm)
  unfold Builtin.List.listExtendWith
  refine wpAny_bind (wpAny_typeOf (T := "bytes") (v := .bytes x t) rfl ?_)
  have h1 : Builtin.List.listSameRef (.ref S) (.bytes x t) = false := rfl
  have h2 : (Value.type "bytes" == Value.type "list") = false := by decide
  have h3 : (Value.type "bytes" == Value.type "tuple") = false := by decide
  simp only [h1, h2, h3, Bool.or_false, Bool.false_eq_true, if_false]
  refine wpAny_bind (KBw.pyIter_bytes ?_)
  refine wpAny_bind (wpAny_holding ?_)
  unfold Builtin.List.listLengthHint
  refine wpAny_bind (wpAny_specialOf (T := "bytes") (v := .bytes x t) rfl lb_len ?_)
  wp_delta
  refine wpAny_bind (wpAny_isInstance (T := "bytes") (v := .bytes x t) (b := true) rfl (by rw [isSubtype_type]; kernel_rfl) ?_)
  show wpAny _ _ (typeOf (Value.bytes x t) >>= _) _ _ _
  refine wpAny_bind (wpAny_typeOf (T := "bytes") (v := .bytes x t) rfl ?_)
  refine wpAny_pure ?_
  rw [if_neg (by decide)]
  refine wpAny_pure ⟨plainId_quiet F.plain_extend_loop _, codeAny_extend_loopS (KBw.walks (A := A.in1) hh s.heap.objs.size x t).toS hn _ hSf _ x.size 0 _ _ _ rfl (Nat.zero_le _) ⟨_, Heap.get?_push_size _ rfl, rfl, rfl⟩ (Heap.get?_push_of_some _ hS) (ItemsOf.nil _) fun s' acc' c' hm hS' hacc => ?_⟩
  rw [Moved.eq_with hm]
  refine hR s'.heap s'.toks acc' c' (fun b ob hb e => hm.heap b ob (fun hmem => ?_) (Heap.get?_push_of_some _ e)) hS' hacc
  rcases List.mem_cons.mp hmem with e' | hmem
  · exact hb e'
  · exact absurd (Heap.lt_size e) (by rw [List.mem_singleton.mp hmem]; exact Nat.lt_irrefl _)
theorem init_bytes {R : Result → Shared → Prop} (hh : A.handled = none) (x : Array UInt8) (t : Tok) (S : Addr) (hS : s.heap.get? S = some { cls := .type "list", data := .seq #[] })
    (hR : ∀ h' tk acc' c', (∀ b o, b ≠ S → s.heap.get? b = some o → h'.get? b = some o) → h'.get? S = some { cls := .type "list", dict := none, data := .seq acc' c', slots := #[] } →
      ItemsOf (OctAt x) acc' x.size → R (.ok (.ret .none)) { s with heap := h', toks := tk }) (hn : x.size ≤ sizeLine) :
    wpAny (model prog w) A.in1 (Builtin.«list.__init__» ⟨[.ref S, .bytes x t], []⟩)
      (fun fin s' => match fin with | .done f => R (.ok f) s' | .again c' => c'.quiet = true ∧ codeAny (model prog w) A c' R s') (fun e s' => R (.error e) s') s := by
  show wpAny _ _ (do let old ← Builtin.List.listItems (.ref S); Builtin.List.listUpdate (.ref S) (fun _ => #[]); letGo old.toList.reverse; Builtin.List.listExtendWith (.ref S) (.bytes x t) .none) _ _ s
  refine wpAny_bind ?_
  unfold Builtin.List.listItems
  refine wpAny_bind (wpAny_seqItems hS rfl (wpAny_pure ?_))
  show wpAny _ _ (updateSeq S (fun _ => #[]) >>= fun _ => letGo (#[] : Array Value).toList.reverse >>= fun _ => Builtin.List.listExtendWith (.ref S) (.bytes x t) .none) _ _ s
  refine wpAny_bind (wpAny_updateSeq hS rfl ?_)
  have hS₂ := Heap.get?_update_self (Obj.mapSeq (fun _ => (#[] : Array Value))) hS rfl
  have oth : ∀ b o, b ≠ S → s.heap.get? b = some o → (s.heap.update S (Obj.mapSeq (fun _ => (#[] : Array Value)))).get? b = some o :=
    fun b o hb e => (Heap.get?_update_other _ _ (Ne.symm hb)).trans e
  refine wpAny_bind (wpAny_letGo ?_)
  refine extend_bytes hh x t S .none _ hS₂ (fun h' tk acc' c' hk hS' hacc => ?_) hn
  exact hR h' tk acc' c' (fun b o hb e => hk b o hb (oth b o hb e)) hS' hacc
theorem call_list_bytes {Q : Value → Shared → Prop} (hh : A.handled = none) (x : Array UInt8) (t : Tok)
    (hQ : ∀ h' tk acc' c', (∀ b o, s.heap.get? b = some o → h'.get? b = some o) →
      h'.get? s.heap.objs.size = some { cls := .type "list", dict := none, data := .seq acc' c', slots := #[] } → ItemsOf (OctAt x) acc' x.size → Q (.ref s.heap.objs.size) { s with heap := h', toks := tk }) (hn : x.size ≤ sizeLine) :
    wpAny (model prog w) A (call (.type "list") [.bytes x t]) Q E s := by
  refine callType_codes (Q₁ := fun obj s₁ => obj = .ref s.heap.objs.size ∧ s₁ = { s with heap := s.heap.push { cls := .type "list", data := .seq #[] } }) F.called_list (F.typeCall_list_1 _) F.entry_list_init
    (code_list_new _ ⟨rfl, rfl⟩) fun obj s₁ h₁ => ?_
  obtain ⟨rfl, rfl⟩ := h₁
  have hS : (s.heap.push { cls := .type "list", data := .seq #[] }).get? s.heap.objs.size = some { cls := .type "list", data := .seq #[] } := Heap.get?_push_size _ rfl
  refine ⟨⟨_, hS, rfl⟩, F.args_list_init_2 _ _, init_bytes (A := A.in1) hh x t _ hS (fun h' tk acc' c' hk hS' hacc => ?_) hn⟩
  exact ⟨rfl, hQ h' tk acc' c' (fun b o e => hk b o (Nat.ne_of_lt (Heap.lt_size e)) (Heap.get?_push_of_some _ e)) hS' hacc⟩
end
theorem octs_ints {b : List UInt8} : ∀ {acc : List Value}, acc.length = b.length → (∀ j v, acc[j]? = some v → OctAt b.toArray j v) → IntsAre acc (KBw.bInts b.toArray) := by
  induction b with
  | nil => intro acc h _; rw [List.length_eq_zero_iff.mp h]; exact .nil
  | cons c r ih =>
    intro acc h ha
    cases acc with
    | nil => cases h
    | cons v vr =>
      obtain ⟨c', u, e1, e2⟩ := ha 0 v rfl
      have e1 : some c = some c' := by simpa using e1
      cases e1
      subst e2
      refine .cons _ _ (ih (by simpa using h) fun j v hj => ?_)
      obtain ⟨c2, u2, e3, e4⟩ := ha (j + 1) v (by simpa using hj)
      exact ⟨c2, u2, by simpa using e3, e4⟩
theorem list_bytes {prog : Program} {w : World} {A : Around} {E Q : Value → Shared → Prop} {s : Shared} {h₀ : Heap} {L : Addr} {m : Str → Option Value} {news : List (Addr × Obj)} {b : List UInt8} {t : Tok} (F : Fr h₀ L s.heap m) (N : News h₀ L s.heap news) (hh : A.handled = none) (hz : b.length ≤ 1000)
    (h : ∀ D c h' tk vs, Fr h₀ L h' m → News h₀ L h' ((D, W.listOf (List.toArray vs) c) :: news) → (∀ p ∈ news, p.1 < D) → IntsAre vs (KBw.bInts b.toArray) → Q (.ref D) { s with heap := h', toks := tk }) : wpAny (model prog w) A (call (.type "list") [.bytes b.toArray t]) Q E s := by
  refine call_list_bytes hh _ _ (fun h' tk acc' c' K hS ha => ?_) (by rw [sizeLine_eq, List.size_toArray]; omega)
  refine h _ c' h' tk acc'.toList (F.keeps K) ?_ (fun p hp => Heap.lt_size (N p hp).1) ?_
  · intro p hp
    rcases List.mem_cons.mp hp with rfl | hp
    · refine ⟨by simpa using hS, fun e => ?_, ?_⟩
      · obtain ⟨oL, es, ep, hL, r⟩ := F.ns
        exact Nat.ne_of_lt (Heap.lt_size hL) e.symm
      · cases q : h₀.get? s.heap.objs.size with
        | none => rfl
        | some o => exact absurd (Heap.lt_size (F.keep _ _ q)) (Nat.lt_irrefl _)
    · exact ⟨K _ _ (N p hp).1, (N p hp).2⟩
  · refine octs_ints (by have := ha.1; simpa using this) fun j v hj => ha.2 j v (by simpa using hj)
/-- an address is none of the ledger's -/
def Off1 (a : Addr) : List (Addr × Obj) → Prop
  | [] => True
  | p :: r => @Ne Nat p.1 a ∧ Off1 a r
theorem Off1.of {a : Addr} : ∀ {news : List (Addr × Obj)}, (∀ p ∈ news, p.1 ≠ a) → Off1 a news
  | [], _ => True.intro
  | _ :: _, h => ⟨h _ List.mem_cons_self, Off1.of fun p hp => h p (List.mem_cons_of_mem _ hp)⟩
section
variable {w : World} {dp un : Nat} {gd : Option (List Code)} {cn : Str} {cs : Scope} {a : Addr} {ccd : Value} {cl : List (Str × Addr)} {outer : List Env} {A₀ : Around} {base h₀ : Heap} {L : Addr} {m mg mb : Str → Option Value} {s : Shared} {Q E : Value → Shared → Prop}
  {p : Program} {loose : List Str} {mean : ExcName → Option Value}
variable {news news' : List (Addr × Obj)} {f l c : Addr} {nm ql : Str} {p1 p2 q1 q2 q3 : Pos} {pm ct : Value} {oc : Obj} {vs0 : Array Value} {tq : Tok} {vs : List Value} {ns : List Int} {n t c1 : Nat}
theorem key_told : PySem.Challenge.rw_pu0025_02.foot = PySem.Challenge.rw_pu0025_02.foot → Below A₀ base outer h₀ → Fr h₀ L s.heap m → (Mine02.hd.heap_1 w.params).In h₀ → Top p loose mean mg mb h₀ → cs.kind = .function → dp + 15 < recursionLimit → un + 120 < cLine → BootAt w.params h₀ → CodeHd h₀ (27) (23) → News h₀ L s.heap news → (23, tabObj #[]) ∈ news → (∀ p ∈ news', p ∈ news ∧ p.1 ≠ (23 : Nat)) →
    (∀ n t h' tk' z, KeyAt w.params h' n t f → Fr h₀ L h' m → News h₀ L h' (news' ++ [(23, tabObj z)]) → Q (.ref (n + 60)) { s with heap := h', toks := tk' }) →
    wpAny (model PySem.Challenge.rw_pu0025_02.row.prog w) (ktrTop dp un gd cn cs L a ccd cl outer) (call (.ref 28) [.ref f]) Q E s := by
  intro _ B F X T _ hd hu hb hc N h23 hsub hret
  have hX := X.keeps F.keep
  have h1 : (162 : Nat) < s.heap.objs.size := Heap.lt_size (hX 162 _ rfl)
  obtain ⟨k, hk⟩ : ∃ k, s.heap.objs.size = k + 100 := ⟨s.heap.objs.size - 100, by omega⟩
  have h23' := (N _ h23).1
  refine wpAny_call (cls_made f k (by ktr_room) hk hX (hb.out.keeps F.keep) (fun a vs e => ?_) fun h' tk z K keep ez => ?_)
  · simp only [PySem.W.X.chLook] at e
    split at e
    · rename_i q
      cases e
      have q := Nat.eq_of_beq_eq_true q
      subst q
      exact ⟨_, (hc.keeps F.keep).tab h23'⟩
    · cases e
  · refine hret _ _ _ _ z K ?_ ?_
    · obtain ⟨oL, a1, a2, hL, a3⟩ := F.ns
      exact ⟨⟨oL, a1, a2, keep _ _ hL (fun e => (N _ h23).2.1 e.symm), a3⟩, fun b o e => keep _ _ (F.keep b o e) (fun q => by rw [q, (N _ h23).2.2] at e; cases e), F.above⟩
    · intro p hp
      rcases List.mem_append.mp hp with hp | hp
      · obtain ⟨a1, a2⟩ := hsub p hp
        exact ⟨keep _ _ (N p a1).1 a2, (N p a1).2⟩
      · rw [List.mem_singleton.mp hp]
        exact ⟨ez, (N _ h23).2⟩
theorem key_last : PySem.Challenge.rw_pu0025_02.foot = PySem.Challenge.rw_pu0025_02.foot → Below A₀ base outer h₀ → Fr h₀ L s.heap m → (Mine02.hd.heap_1 w.params).In h₀ → Top p loose mean mg mb h₀ → cs.kind = .function → dp + 15 < recursionLimit → un + 120 < cLine → BootAt w.params h₀ → CodeHd h₀ (27) (23) → News h₀ L s.heap news → (23, tabObj #[]) ∈ news → (∀ p ∈ news.dropLast, p ∈ news ∧ p.1 ≠ (23 : Nat)) →
    (∀ n t h' tk' z, KeyAt w.params h' n t f → Fr h₀ L h' m → News h₀ L h' (news.dropLast ++ [(23, tabObj z)]) → Q (.ref (n + 60)) { s with heap := h', toks := tk' }) →
    wpAny (model PySem.Challenge.rw_pu0025_02.row.prog w) (ktrTop dp un gd cn cs L a ccd cl outer) (call (.ref 28) [.ref f]) Q E s := key_told
theorem sort_told : PySem.Challenge.rw_pu0025_02.foot = PySem.Challenge.rw_pu0025_02.foot → Below A₀ base outer h₀ → Fr h₀ L s.heap m → (Mine02.hd.heap_1 w.params).In h₀ → Top p loose mean mg mb h₀ → cs.kind = .function → dp + 40 < recursionLimit → un + 200 < cLine → News h₀ L s.heap news → KeyAt w.params s.heap n t f → (f, kla_obj nm ql (lamPar p1 p2) (.BinOp (.Name "b" q1) .Sub (.Name "a" q2) q3) lamScope [] pm c ct) ∈ news → (c, oc) ∈ news → oc.data = .fields vs0 → vs0[1]? = some (.str ql tq) →
    (l, W.listOf vs.toArray c1) ∈ news → IntsAre vs ns → ns.length < 64 →
    (∀ D h' tk' out ms c2, Fr h₀ L h' m → News h₀ L h' ((D, W.listOf (List.toArray out) c2) :: news) → Off1 D news → IntsAre out ms → ms.Perm ns → ms.Pairwise (fun x y => -x ≤ -y) → Q (.ref D) { s with heap := h', toks := tk' }) →
    wpAny (model PySem.Challenge.rw_pu0025_02.row.prog w) (ktrTop dp un gd cn cs L a ccd cl outer) (call (.builtin "sorted") [.ref l] [(Str.ofString "key", .ref (n + 60))]) Q E s := by
  intro _ B F X T _ hd hu N K hf hc hdc hv hl hI h64 hret
  have hX := X.keeps F.keep
  refine sorted_cmp (by ktr_room) (by ktr_units) rfl hX K (cmpSub_at hX (N _ hf).1 (N _ hc).1 hdc hv) ⟨_, (N _ hl).1, rfl, _, rfl⟩ hI h64 (fun _ _ => True.intro) fun D h' tk' out ms c2 keep hn hD hO hp hs => ?_
  refine hret D h' tk' out.toList ms c2 (keepsFr F keep) ?_ (Off1.of fun p hp e => ?_) hO hp hs
  · intro p hp
    rcases List.mem_cons.mp hp with rfl | hp
    · refine ⟨by simpa using hD, fun e => ?_, ?_⟩
      · obtain ⟨oL, es, ep, hL, r⟩ := F.ns
        rw [← e] at hL
        rw [hn] at hL
        cases hL
      · cases q : h₀.get? D with
        | none => rfl
        | some o => have := F.keep _ _ q; rw [hn] at this; cases this
    · exact ⟨keep _ _ (N p hp).1, (N p hp).2⟩
  · have := (N p hp).1
    rw [e, hn] at this
    cases this
theorem low_told : PySem.Challenge.rw_pu0025_02.foot = PySem.Challenge.rw_pu0025_02.foot → Below A₀ base outer h₀ → Fr h₀ L s.heap m → (Mine02.hd.heap_1 w.params).In h₀ → Top p loose mean mg mb h₀ → cs.kind = .function → dp + 15 < recursionLimit → un + 120 < cLine → News h₀ L s.heap news → (l, W.listOf vs.toArray c1) ∈ news → IntsAre vs (KBw.bInts (longOf ns).toArray) → 0 < ns.length → ns.length ≤ 12 →
    (∀ (ms : List Int) t' h' tk', ms.Perm (KBw.bInts (longOf ns).toArray) → ms.Pairwise (· ≤ ·) → Keeps s.heap h' → Q (.int (ms.getD ((4 * ns.length - 1) / 2) 0) t') { s with heap := h', toks := tk' }) →
    wpAny (model PySem.Challenge.rw_pu0025_02.row.prog w) (ktrTop dp un gd cn cs L a ccd cl outer) (call (.ref 138) [.ref l]) Q E s := by
  intro hfoot B F X T hk hd hu N hl hI h0 h1 hret
  have e : (KBw.bInts (longOf ns).toArray).length = 4 * ns.length := by rw [KBw.ints_length, List.size_toArray, longOf_length]
  exact low_spec hfoot B F X T hk hd hu ⟨_, (N _ hl).1, rfl, _, rfl⟩ hI (by omega) (by omega) (e ▸ hret)
theorem high_told : PySem.Challenge.rw_pu0025_02.foot = PySem.Challenge.rw_pu0025_02.foot → Below A₀ base outer h₀ → Fr h₀ L s.heap m → (Mine02.hd.heap_1 w.params).In h₀ → Top p loose mean mg mb h₀ → cs.kind = .function → dp + 15 < recursionLimit → un + 120 < cLine → News h₀ L s.heap news → (l, W.listOf vs.toArray c1) ∈ news → IntsAre vs (KBw.bInts (longOf ns).toArray) → 0 < ns.length → ns.length ≤ 12 →
    (∀ (ms : List Int) t' h' tk', ms.Perm (KBw.bInts (longOf ns).toArray) → ms.Pairwise (· ≤ ·) → Keeps s.heap h' → Q (.int (ms.getD (4 * ns.length / 2) 0) t') { s with heap := h', toks := tk' }) →
    wpAny (model PySem.Challenge.rw_pu0025_02.row.prog w) (ktrTop dp un gd cn cs L a ccd cl outer) (call (.ref 145) [.ref l]) Q E s := by
  intro hfoot B F X T hk hd hu N hl hI h0 h1 hret
  have e : (KBw.bInts (longOf ns).toArray).length = 4 * ns.length := by rw [KBw.ints_length, List.size_toArray, longOf_length]
  exact high_spec hfoot B F X T hk hd hu ⟨_, (N _ hl).1, rfl, _, rfl⟩ hI (by omega) (by omega) (e ▸ hret)
theorem longOf_figs (ns : List Int) : longOf ns = (figsOf ns).map sgB := by
  unfold longOf figsOf
  rw [List.map_flatten, List.map_map]
  rfl
/-- what the decoder makes of the numbers' writing -/
def decOf (ns : List Int) : List UInt8 := (dst (figsOf ns)).2.2.map fun n => n.toNat.toUInt8
theorem dst_length (fs : List Int) : (dst fs).2.2.length ≤ fs.length := by
  unfold dst
  have key : ∀ (fs : List Int) (c : Int × Int × List Int), (fs.foldl dstep c).2.2.length ≤ c.2.2.length + fs.length := by
    intro fs
    induction fs with
    | nil => intro c; exact Nat.le_refl _
    | cons f r ih =>
      intro c
      have h := ih (dstep c f)
      have : (dstep c f).2.2.length ≤ c.2.2.length + 1 := by
        unfold dstep
        repeat' split
        all_goals simp only [List.length_append, List.length_singleton]; omega
      rw [List.foldl_cons, List.length_cons]
      omega
  simpa using key fs (0, 0, [])
theorem decOf_length {ns : List Int} (h : ns.length ≤ 12) : (decOf ns).length ≤ 1000 := by
  unfold decOf
  rw [List.length_map]
  have := dst_length (figsOf ns)
  rw [figsOf_length] at this
  omega
theorem dec_told {tb : Tok} : PySem.Challenge.rw_pu0025_02.foot = PySem.Challenge.rw_pu0025_02.foot → Below A₀ base outer h₀ → Fr h₀ L s.heap m → (Mine02.hd.heap_1 w.params).In h₀ → Top p loose mean mg mb h₀ → cs.kind = .function → dp + 15 < recursionLimit → un + 120 < cLine → ns.length ≤ 12 →
    (∀ t' h' tk', Keeps s.heap h' → Q (.bytes (decOf ns).toArray t') { s with heap := h', toks := tk' }) →
    wpAny (model PySem.Challenge.rw_pu0025_02.row.prog w) (ktrTop dp un gd cn cs L a ccd cl outer) (call (.ref 118) [.bytes (longOf ns).toArray tb]) Q E s := by
  intro hfoot B F X T hk hd hu h1 hret
  refine dec_spec hfoot B F X T hk hd hu figsOf_mem (by rw [figsOf_length]; omega) (by rw [figsOf_length]; omega) ?_ hret
  rw [longOf_figs, bInts_sg]
end
end Mine
end
section
open PySem PySem.W PyProof.Rows PySem.Spec PySem.Calls
set_option maxRecDepth 100000
set_option maxHeartbeats 4000000
namespace Mine
theorem in_new {h₀ h : Heap} {L l : Addr} {o : Obj} {news : List (Addr × Obj)} (N : News h₀ L h news) (hm : (l, o) ∈ news) : h₀.get? l = none := (N _ hm).2.2
/-- what told gives -/
structure TOut (ns : List Int) (lo hi num : Int) (fall : List Int) : Prop where
  fp : fall.Perm (KBw.bInts (longOf ns).toArray)
  fs : fall.Pairwise fun x y => -x ≤ -y
  lo : ∃ ms : List Int, ms.Perm (KBw.bInts (longOf ns).toArray) ∧ ms.Pairwise (· ≤ ·) ∧ lo = ms.getD ((4 * ns.length - 1) / 2) 0
  hi : ∃ ms : List Int, ms.Perm (KBw.bInts (longOf ns).toArray) ∧ ms.Pairwise (· ≤ ·) ∧ hi = ms.getD (4 * ns.length / 2) 0
  num : num = num256 (decOf ns)
section
variable {w : World} {dp un : Nat} {gd : Option (List Code)} {cn : Str} {cs : Scope} {a : Addr} {ccd : Value} {cl : List (Str × Addr)} {outer : List Env} {A₀ : Around} {base h₀ : Heap} {L : Addr} {m mg mb : Str → Option Value} {s : Shared} {Q E : Value → Shared → Prop}
  {p : Program} {loose : List Str} {mean : ExcName → Option Value}
theorem told_spec {l : Addr} {vs : List Value} {ns : List Int} : PySem.Challenge.rw_pu0025_02.foot = PySem.Challenge.rw_pu0025_02.foot → Below A₀ base outer h₀ → Fr h₀ L s.heap m → (Mine02.hd.heap_1 w.params).In h₀ → Top p loose mean mg mb h₀ → cs.kind = .function → BootAt w.params h₀ → News h₀ L s.heap [(147, tabObj #[]), (23, tabObj #[])] → CodeHd h₀ 149 147 → CodeHd h₀ 27 23 → dp + 60 < recursionLimit → un + 600 < cLine →
    s.heap.IsList l vs.toArray → IntsAre vs ns → (∀ x ∈ ns, 0 ≤ x ∧ x < 16777216) → 0 < ns.length → ns.length ≤ 12 →
    (∀ (R D : Addr) h' tk' (t1 t2 t3 : Tok) lo hi num fall (out : List Value) c1 c2, Keeps (hideAll s.heap [147, 23]) h' → h'.get? R = some (W.listOf (List.toArray [.int lo t1, .int hi t2, .ref D, .int num t3]) c1) → h'.get? D = some (W.listOf (List.toArray out) c2) →
      (hideAll s.heap [147, 23]).get? R = none → (hideAll s.heap [147, 23]).get? D = none → GrownAt 147 h' → GrownAt 23 h' → IntsAre out fall → TOut ns lo hi num fall → Q (.ref R) { s with heap := h', toks := tk' }) →
    wpAny (model PySem.Challenge.rw_pu0025_02.row.prog w) (ktrTop dp un gd cn cs L a ccd cl outer) (call (.ref 150) [.ref l]) Q E s := by
  w_top off
  k_with_none
  k_with "exec Assign cons ListComp" => (k_here; k_dflt (refine LCg.Assign_ListComp_U (F₀ := by k_asm) (by rfl) (by with_unfolding_all rfl) (by with_unfolding_all rfl) (by decide) (by rfl) (by decide) (by rfl) (by rfl) (by rfl) ?_))
  k_with "eval ListComp" => (k_here; k_dflt (refine LCg.ListComp_U (F₀ := by k_asm) (by with_unfolding_all rfl) (by decide) (by rfl) (by decide) (by rfl) ?_))
  k_with "CompSrc" => (k_here; k_dflt (first | (refine LCg.CompSrc.base (by rfl) (by k_asm) (by k_asm) hl' (by rw [List.size_toArray, sizeLine_eq]; omega) ?_; intro g9; (refine' kb_ints row3 hI (fun k9 t9 hk9 I9 oI9 C9 oC9 D9 m9 ys9 h9 tk9 E9 hC9 hx9 F9 N9 off9 ne9 => ?_) ?_)) | (refine LCg.CompSrc.ledger (by rfl) (by k_asm) (by k_asm) (by k_mem) (by rw [List.size_toArray, sizeLine_eq]; have := BytesAre.length (by assumption); simp only [List.length_map] at this; omega) ?_; intro g9; (refine' kb_rows row3 encOf (by assumption) (fun k9 t9 hk9 I9 oI9 C9 oC9 D9 m9 ys9 h9 tk9 E9 hC9 hx9 F9 N9 off9 ne9 => ?_) ?_))); (all_goals (try (simp only [LCg.Off3, and_true] at off9))); (all_goals (try k_fold)))
  k_with "CompEnd" => ((rename News _ _ _ _ => nE'); (k_dflt (refine' LCg.CompEnd.intro (by assumption) nE' _ ?s9 ?o9 ?c9 ⟨rfl, _, rfl⟩)); (case s9 => k_dflt lcg_sub); (case o9 => k_dflt lcg_off); (case c9 => k_dflt lcg_src))
  k_with "call type:bytes" => (k_here; (with_reducible show wpAny _ _ (call (Value.type _) [Value.ref _]) _ _ _); k_dflt (refine' bytes_three ?N ?m rfl (fmod256 _) (fmod256 _) (fmod256 _) ?_; (case N => k_asm); (case m => k_mem)); intro h8 t8 tk8 K8; (have F8 := keepsFr (by k_asm) K8); (have N8 := keepsNews (by k_asm) K8); clear K8; (try dsimp only))
  k_with "call ref" => (k_here; (with_reducible show wpAny _ _ (call (Value.ref 110) [Value.bytes _ _]) _ _ _); (k_dflt (refine' enc_spec rfl ?k1 ?k2 ?k3 ?k4 ?kK ?kd ?ku ?_; (case k1 => k_asm); (case k2 => k_asm); (case k3 => k_asm); (case k4 => k_asm); (case kK => first | exact rfl | assumption); (case kd => ktr_room); (case ku => ktr_units))); intro t9 h9 tk9 K9; (have F9 := keepsFr (by k_asm) K9); (have N9 := keepsNews (by k_asm) K9); clear K9; (try dsimp only); (try k_fold))
  k_with "call ref" => (k_here; (with_reducible show wpAny _ _ (call (Value.ref 37) [Value.ref _, Value.ref _] _) _ _ _); (k_dflt (refine' red_told rfl ?k1 ?k2 ?k3 ?k4 ?kK ?kd ?ku ?kN ?kf ?kc ?d1 ?d2 ?kl (by assumption) h0 h1 ?_; (case k1 => k_asm); (case k2 => k_asm); (case k3 => k_asm); (case k4 => k_asm); (case kK => first | exact rfl | assumption); (case kd => ktr_room); (case ku => ktr_units); (case kN => k_asm); (case kf => k_mem); (case kc => k_mem); (case d1 => assumption); (case d2 => assumption); (case kl => k_mem))); intro t9 h9 tk9 K9; (have F9 := keepsFr (by k_asm) K9); (have N9 := keepsNews (by k_asm) K9); clear K9; (try dsimp only); (try k_fold))
  k_with "call type:list" => (k_here; (with_reducible show wpAny _ _ (call (Value.type _) [Value.bytes _ _]) _ _ _); (k_dflt (refine' list_bytes ?F ?N rfl ?z ?_; (case F => k_asm); (case N => k_asm); (case z => rw [longOf_length]; omega))); intro D9 c9 h9 tk9 vs9 F9 N9 l9 I9; (try k_lt l9))
  k_with "call ref" => (k_here; (with_reducible show wpAny _ _ (call (Value.ref 28) [Value.ref _] _) _ _ _); (k_dflt (refine' key_last rfl ?k1 ?k2 ?k3 ?k4 ?kK ?kd ?ku hb' hc2' ?kN ?k23 ?ks ?_; (case k1 => k_asm); (case k2 => k_asm); (case k3 => k_asm); (case k4 => k_asm); (case kK => first | exact rfl | assumption); (case kd => ktr_room); (case ku => ktr_units); (case kN => k_asm); (case k23 => k_mem); (case ks => (dsimp only [List.dropLast]; (repeat (first | exact List.forall_mem_nil _ | refine List.forall_mem_cons.mpr ⟨⟨by k_mem, by k_ne⟩, ?_⟩)))))); intro n9 t9 h9 tk9 z9 K9 F9 N9; dsimp only [List.dropLast, List.cons_append, List.nil_append] at N9)
  k_with "call builtin:sorted" => (k_here; (with_reducible show wpAny _ _ (call (Value.builtin "sorted") [Value.ref _] _) _ _ _); (k_dflt (refine' sort_told rfl ?k1 ?k2 ?k3 ?k4 ?kK ?kd ?ku ?kN (by assumption) ?kf ?kc ?d1 ?d2 ?kl (by assumption) ?hz ?_; (case k1 => k_asm); (case k2 => k_asm); (case k3 => k_asm); (case k4 => k_asm); (case kK => first | exact rfl | assumption); (case kd => ktr_room); (case ku => ktr_units); (case kN => k_asm); (case kf => k_mem); (case kc => k_mem); (case d1 => assumption); (case d2 => assumption); (case kl => k_mem); (case hz => (rw [KBw.ints_length, List.size_toArray, longOf_length]; omega)))); intro D9 h9 tk9 out9 ms9 c9 F9 N9 o9 I9 P9 S9; (try (simp only [Off1, and_true] at o9)))
  k_with "call ref" => (k_here; (with_reducible show wpAny _ _ (call (Value.ref 138) [Value.ref _] _) _ _ _); (k_dflt (refine' low_told rfl ?k1 ?k2 ?k3 ?k4 ?kK ?kd ?ku ?kN ?kl (by assumption) h0 h1 ?_; (case k1 => k_asm); (case k2 => k_asm); (case k3 => k_asm); (case k4 => k_asm); (case kK => first | exact rfl | assumption); (case kd => ktr_room); (case ku => ktr_units); (case kN => k_asm); (case kl => k_mem))); intro ms9 t9 h9 tk9 P9 S9 K9; (have F9 := keepsFr (by k_asm) K9); (have N9 := keepsNews (by k_asm) K9); clear K9; (try dsimp only); (try k_fold))
  k_with "call ref" => (k_here; (with_reducible show wpAny _ _ (call (Value.ref 145) [Value.ref _] _) _ _ _); (k_dflt (refine' high_told rfl ?k1 ?k2 ?k3 ?k4 ?kK ?kd ?ku ?kN ?kl (by assumption) h0 h1 ?_; (case k1 => k_asm); (case k2 => k_asm); (case k3 => k_asm); (case k4 => k_asm); (case kK => first | exact rfl | assumption); (case kd => ktr_room); (case ku => ktr_units); (case kN => k_asm); (case kl => k_mem))); intro ms9 t9 h9 tk9 P9 S9 K9; (have F9 := keepsFr (by k_asm) K9); (have N9 := keepsNews (by k_asm) K9); clear K9; (try dsimp only); (try k_fold))
  k_with "call ref" => (k_here; (with_reducible show wpAny _ _ (call (Value.ref 118) [Value.bytes _ _] _) _ _ _); (k_dflt (refine' dec_told rfl ?k1 ?k2 ?k3 ?k4 ?kK ?kd ?ku h1 ?_; (case k1 => k_asm); (case k2 => k_asm); (case k3 => k_asm); (case k4 => k_asm); (case kK => first | exact rfl | assumption); (case kd => ktr_room); (case ku => ktr_units))); intro t9 h9 tk9 K9; (have F9 := keepsFr (by k_asm) K9); (have N9 := keepsNews (by k_asm) K9); clear K9; (try dsimp only); (try k_fold))
  k_with "call ref" => (k_here; (with_reducible show wpAny _ _ (call (Value.ref 37) [Value.ref _, Value.bytes _ _, Value.int _ _] _) _ _ _); (k_dflt (refine' redI_told rfl ?k1 ?k2 ?k3 ?k4 ?kK ?kd ?ku ?kN ?kf ?kc ?d1 ?d2 ?hz ?_; (case k1 => k_asm); (case k2 => k_asm); (case k3 => k_asm); (case k4 => k_asm); (case kK => first | exact rfl | assumption); (case kd => ktr_room); (case ku => ktr_units); (case kN => k_asm); (case kf => k_mem); (case kc => k_mem); (case d1 => assumption); (case d2 => assumption); (case hz => exact decOf_length h1))); intro t9 h9 tk9 K9; (have F9 := keepsFr (by k_asm) K9); (have N9 := keepsNews (by k_asm) K9); clear K9; (try dsimp only); (try k_fold))
  k_fill
  intro _ B F X T hk hb N hc1 hc2 hd hu hl hI hx h0 h1 hret
  k_dflt (refine' callN (K := Mine02.hd.heap_1 w.params) (news := [(147, tabObj #[]), (23, tabObj #[])]) (by assumption) (by assumption) (by assumption) (by assumption) (by assumption) rfl rfl (by assumption) ?k6 ?k7 ?k8 ?k9 ?kB ?c5 ?c2 ?c3 ?c4 ?_; (case k6 => k_is); (case k7 => k_is); (case k8 => ktr_room); (case k9 => first | exact BindsTo.of_eq rfl | exact binds_K (by k_in) rfl (by k_is) rfl rfl rfl); (case c5 => decide); (case kB => exact locs rfl); (case c2 => exact rfl); (case c3 => exact rfl); (case c4 => exact rfl))
  intro L' h' F' N' B' X' T' S'
  have hc1' := hc1.keeps S'
  have hc2' := hc2.keeps S'
  have hb' : BootAt w.params (hideAll s.heap [147, 23]) := ⟨hb.out.keeps S'⟩
  have hl' : (hideAll s.heap [147, 23]).IsList l vs.toArray := by
    obtain ⟨o, e, q, r⟩ := hl
    refine ⟨o, hideAll_get _ e fun z => ?_, q, r⟩
    obtain ⟨p, hp, e2⟩ := List.mem_map.mp (show l ∈ ([(147, tabObj #[]), (23, tabObj #[])] : List (Addr × Obj)).map (·.1) from z)
    have := (N p hp).1
    rw [e2, e] at this
    rcases List.mem_cons.mp hp with rfl | hp
    · cases this; cases q
    · rw [List.mem_singleton.mp hp] at this; cases this; cases q
  have hlen := hI.length
  clear B F X T N hc1 hc2 hb S'
  k_steps
  all_goals (rename News _ _ _ _ => nE'; rename Fr _ _ _ _ => fE')
  all_goals (k_dflt (refine' hret _ _ _ _ _ _ _ _ _ _ _ _ _ _ fE'.keep (in_at nE' ?a) (in_at nE' ?b) (in_new nE' ?a) (in_new nE' ?b) (GrownAt.of nE' ?c) (GrownAt.of nE' ?d) ?I ?T))
  case a => k_dflt k_mem
  case b => k_dflt k_mem
  case c => k_dflt k_mem
  case d => k_dflt k_mem
  case I => assumption
  case T => exact ⟨by assumption, by assumption, ⟨_, by assumption, by assumption, rfl⟩, ⟨_, by assumption, by assumption, rfl⟩, rfl⟩
end
end Mine
end
section
open PySem PySem.W PyProof.Rows PySem.Spec PySem.Calls
set_option maxRecDepth 100000
set_option maxHeartbeats 4000000
namespace Mine
/-- the falling list, figure by figure -/
def fallStep (cs fs : List Int) (f : Int) : List Int := fs ++ List.replicate (cs.getD f.toNat 0).toNat (sg f)
def fallOf (cs rs : List Int) : List Int := rs.foldl (fallStep cs) []
theorem fallOf_snoc (cs rs : List Int) (f : Int) : fallOf cs (rs ++ [f]) = fallStep cs (fallOf cs rs) f := by simp [fallOf]
/-- the middle search, figure by figure -/
def metStep (cs : List Int) (half : Int) (c : List Int × Int) (f : Int) : List Int × Int :=
  (if c.2 < half ∧ half ≤ c.2 + cs.getD f.toNat 0 then c.1 ++ [sg f] else c.1, c.2 + cs.getD f.toNat 0)
def metOf (cs : List Int) (half : Int) (ms os : List Int) : List Int × Int := os.foldl (metStep cs half) (ms, 0)
theorem metOf_snoc (cs : List Int) (half : Int) (ms os : List Int) (f : Int) : metOf cs half ms (os ++ [f]) = metStep cs half (metOf cs half ms os) f := by simp [metOf]
structure FInv (cs pre fs : List Int) (m : Int) : Prop where
  fc : fs = fallOf cs pre
  fl : (fs.length : Int) ≤ m * pre.length
structure GInv (cs : List Int) (half : Int) (ms0 pre ms : List Int) (met m : Int) : Prop where
  gc : (ms, met) = metOf cs half ms0 pre
  gl : ms.length ≤ ms0.length + pre.length
  g0 : 0 ≤ met
  g1 : met ≤ m * pre.length
theorem FInv.start {cs : List Int} {m : Int} : FInv cs [] [] m := ⟨rfl, by simp⟩
theorem FInv.step {cs pre fs fs' : List Int} {f m c : Int} (h : FInv cs pre fs m) (hc : c = cs.getD f.toNat 0) (h0 : 0 ≤ c) (h1 : c ≤ m) (e : fs' = fs ++ List.replicate c.toNat (sg f)) : FInv cs (pre ++ [f]) fs' m := by
  obtain ⟨a1, a2⟩ := h
  refine ⟨by rw [e, fallOf_snoc, ← a1, hc]; rfl, ?_⟩
  rw [e]
  simp only [List.length_append, List.length_replicate, List.length_singleton]
  have : m * ((pre.length + 1 : Nat) : Int) = m * (pre.length : Int) + m := by rw [Int.natCast_add, Int.mul_add]; simp
  lia
theorem GInv.start {cs ms0 : List Int} {half m : Int} : GInv cs half ms0 [] ms0 0 m := ⟨rfl, by simp, by lia, by simp⟩
theorem GInv.hit {cs ms0 pre ms : List Int} {half f met m c : Int} (h : GInv cs half ms0 pre ms met m) (hc : c = cs.getD f.toNat 0) (h0 : 0 ≤ c) (h1 : c ≤ m) (l1 : met < half) (l2 : half ≤ met + c) : GInv cs half ms0 (pre ++ [f]) (ms ++ [sg f]) (met + c) m := by
  obtain ⟨a1, a2, a3, a4⟩ := h
  have : m * ((pre.length + 1 : Nat) : Int) = m * (pre.length : Int) + m := by rw [Int.natCast_add, Int.mul_add]; simp
  refine ⟨?_, by simp; lia, by lia, by rw [List.length_append, List.length_singleton]; lia⟩
  rw [metOf_snoc, ← a1]
  unfold metStep
  rw [← hc, if_pos ⟨l1, l2⟩]
theorem GInv.miss {cs ms0 pre ms : List Int} {half f met m c : Int} (h : GInv cs half ms0 pre ms met m) (hc : c = cs.getD f.toNat 0) (h0 : 0 ≤ c) (h1 : c ≤ m) (l : ¬ (met < half ∧ half ≤ met + c)) : GInv cs half ms0 (pre ++ [f]) ms (met + c) m := by
  obtain ⟨a1, a2, a3, a4⟩ := h
  have : m * ((pre.length + 1 : Nat) : Int) = m * (pre.length : Int) + m := by rw [Int.natCast_add, Int.mul_add]; simp
  refine ⟨?_, by simp; lia, by lia, by rw [List.length_append, List.length_singleton]; lia⟩
  rw [metOf_snoc, ← a1]
  unfold metStep
  rw [← hc, if_neg l]
/-- the counts are between 0 and all the figures -/
theorem bump_nonneg {cs : List Int} (h : ∀ c ∈ cs, 0 ≤ c) (f : Int) : ∀ c ∈ bump cs f, 0 ≤ c := by
  intro c hc
  unfold bump at hc
  rcases List.mem_or_eq_of_mem_set hc with h' | h'
  · exact h c h'
  · have : 0 ≤ cs.getD f.toNat 0 := by
      rw [List.getD_eq_getElem?_getD]
      cases q : cs[f.toNat]? with
      | none => simp
      | some v => simpa using h v (List.mem_of_getElem? q)
    lia
theorem bump_le {cs : List Int} {m : Int} (h : ∀ c ∈ cs, c ≤ m) (hm : 0 ≤ m) (f : Int) : ∀ c ∈ bump cs f, c ≤ m + 1 := by
  intro c hc
  unfold bump at hc
  rcases List.mem_or_eq_of_mem_set hc with h' | h'
  · have := h c h'; lia
  · have : cs.getD f.toNat 0 ≤ m := by
      rw [List.getD_eq_getElem?_getD]
      cases q : cs[f.toNat]? with
      | none => simpa using hm
      | some v => simpa using h v (List.mem_of_getElem? q)
    lia
theorem cnt_bounds (ns : List Int) : ∀ c ∈ cnt ns, 0 ≤ c ∧ c ≤ 4 * (ns.length : Int) := by
  have key : ∀ (ns cs : List Int) (m : Int), 0 ≤ m → (∀ c ∈ cs, 0 ≤ c ∧ c ≤ m) → ∀ c ∈ ns.foldl (fun cs x => (figs x).foldl bump cs) cs, 0 ≤ c ∧ c ≤ m + 4 * (ns.length : Int) := by
    intro ns
    induction ns with
    | nil => intro cs m hm h c hc; have := h c hc; simp; lia
    | cons x r ih =>
      intro cs m hm h c hc
      have h' : ∀ c ∈ (figs x).foldl bump cs, 0 ≤ c ∧ c ≤ m + 4 := by
        intro c hc
        refine ⟨?_, ?_⟩
        · exact bump_nonneg (bump_nonneg (bump_nonneg (bump_nonneg (fun c hc => (h c hc).1) _) _) _) _ c hc
        · have := bump_le (bump_le (bump_le (bump_le (fun c hc => (h c hc).2) hm _) (by lia) _) (by lia) _) (by lia) _ c hc
          lia
      have := ih _ (m + 4) (by lia) h' c hc
      rw [List.length_cons]
      lia
  intro c hc
  have := key ns (List.replicate 64 0) 0 (by lia) (fun c hc => by rw [(List.mem_replicate.mp hc).2]; lia) c hc
  lia
theorem cnt_at {ns cs : List Int} (e : cs = cnt ns) (i : Nat) : 0 ≤ cs.getD i 0 ∧ cs.getD i 0 ≤ 4 * (ns.length : Int) := by
  rw [List.getD_eq_getElem?_getD]
  cases q : cs[i]? with
  | none => simp; lia
  | some v => simpa using cnt_bounds ns v (e ▸ List.mem_of_getElem? q)
end Mine
end
section
open PySem PySem.W PyProof.Rows PySem.Spec PySem.Calls
set_option maxRecDepth 100000
set_option maxHeartbeats 4000000
namespace Mine
/-- the signs' order -/
def ordr : List Int := [62, 63] ++ rangeInts 52 1 (62 - 52 : Int).toNat ++ rangeInts 0 1 (52 - 0 : Int).toNat
theorem ordr_mem : ∀ f ∈ ordr, 0 ≤ f ∧ f < 64 := by decide +kernel
theorem ordr_length : ordr.length = 64 := by decide +kernel
theorem news_sub {h₀ h : Heap} {L : Addr} {news news' : List (Addr × Obj)} (N : News h₀ L h news) (hs : ∀ p ∈ news', p ∈ news) : News h₀ L h news' := fun p hp => N p (hs p hp)
abbrev fsLed (Fl : Addr) (rest : List (Addr × Obj)) (c : VS) : List (Addr × Obj) := (Fl, W.listOf c.1.toArray c.2.2) :: rest
abbrev fsP (cs : List Int) (m : Int) (pre : List Int) (c : VS) : Prop := FInv cs pre c.2.1 m
abbrev GS : Type := List Value × List Int × Nat × Int × Tok
abbrev gsLed (M : Addr) (rest : List (Addr × Obj)) (c : GS) : List (Addr × Obj) := (M, W.listOf c.1.toArray c.2.2.1) :: rest
abbrev gsPs (c : GS) : List (Str × Value) := [(Str.ofString "met", .int c.2.2.2.1 c.2.2.2.2)]
abbrev gsFa (c : GS) : Prop := IntsAre c.1 c.2.1
abbrev gsP (cs : List Int) (half : Int) (ms0 : List Int) (m : Int) (pre : List Int) (c : GS) : Prop := GInv cs half ms0 pre c.2.1 c.2.2.2.1 m
theorem ord_of {a b : Value} {ys zs : List Value} (h : IntsAre ([a, b] ++ ys ++ zs) ([62, 63] ++ rangeInts 52 1 (62 - 52 : Int).toNat ++ rangeInts 0 1 (52 - 0 : Int).toNat)) : IntsAre (a :: b :: (ys ++ zs)) ordr := by
  delta ordr
  exact h
theorem rev_of {ws : List Value} (h : IntsAre ws ([62, 63] ++ rangeInts 52 1 (62 - 52 : Int).toNat ++ rangeInts 0 1 (52 - 0 : Int).toNat).reverse) : IntsAre ws ordr.reverse := by
  delta ordr
  exact h
/-- the middles by counts -/
def midsOf (ns : List Int) : List Int := (metOf (cnt ns) (2 * (ns.length : Int) + 1) (metOf (cnt ns) (2 * (ns.length : Int)) [] ordr).1 ordr).1
theorem due_at {h₀ h : Heap} {L l : Addr} {o : Obj} {news : List (Addr × Obj)} (N : News h₀ L h news) (hm : (l, o) ∈ news) : h.get? l = some o ∧ h₀.get? l = none := ⟨(N _ hm).1, (N _ hm).2.2⟩
theorem due_fin {ns cs : List Int} {nb : Int} {mv fv : List Value} (hU : UInv ns cs nb) (hm : IntsAre mv (metOf cs (2 * (ns.length : Int) + 1) (metOf cs (2 * (ns.length : Int)) [] ordr).1 ordr).1) (hf : IntsAre fv (fallOf cs ordr.reverse)) :
    nb = num24 ns ∧ IntsAre mv (midsOf ns) ∧ IntsAre fv (fallOf (cnt ns) ordr.reverse) := ⟨hU.un, by unfold midsOf; rw [← hU.uc]; exact hm, by rw [← hU.uc]; exact hf⟩
theorem upd_of {D : Addr} {o o' : Obj} : ∀ {pre post : List (Addr × Obj)}, (∀ p ∈ pre, p.1 ≠ D) → (∀ p ∈ post, p.1 ≠ D) → Upd D o o' (pre ++ (D, o) :: post) (pre ++ (D, o') :: post)
  | [], _, _, c => .head c
  | _ :: _, _, a, c => .tail (a _ (.head _)) (upd_of (fun p hp => a p (.tail _ hp)) c)
theorem due_ext {prog : Program} {w : World} {A : Around} {E : Value → Shared → Prop} {s : Shared} {h₀ : Heap} {L D b : Addr} {m : PySem.Str → Option Value} {news : List (Addr × Obj)} {g : Obj → List (Addr × Obj)} {fv ws : List Value} {n n2 : Nat} {Q : Value → Shared → Prop}
    (F : Fr h₀ L s.heap m) (N : News h₀ L s.heap news) (U : UpdF D (W.listOf fv.toArray n) news g) (hb : (b, W.listOf ws.toArray n2) ∈ news) (hz : fv.length + ws.length ≤ 100000)
    (h : ∀ n' h', Fr h₀ L h' m → News h₀ L h' (g (W.listOf (fv ++ ws).toArray n')) → Q .none { s with heap := h' }) : wpAny (model prog w) A (call (.builtin "list.extend") [.ref D, .ref b]) Q E s := by
  obtain ⟨pre, post, rfl, hg, a, c⟩ := U.split
  have hd := extend_door (a := fv.toArray) (b := ws.toArray) (by rw [List.size_toArray, List.size_toArray, sizeLine_eq]; lia)
  have h1 : fv.toArray.toList.length ≤ sizeLine := by rw [sizeLine_eq]; simp; lia
  have h2 : fv.toArray.size + ws.toArray.size ≤ sizeLine + 1 := by rw [sizeLine_eq, List.size_toArray, List.size_toArray]; lia
  rcases Nat.eq_zero_or_pos ws.length with e | e
  · have e := List.length_eq_zero_iff.mp e
    subst e
    exact kxn_extend F N hb rfl (upd_of a c) hd h1 h2 fun h' F' N' => h n h' F' (by rw [hg, List.append_nil]; exact N')
  · exact kl_extend F N hb rfl (by simp; intro q; rw [q] at e; cases e) (upd_of a c) hd h1 h2 fun h' F' N' => h (n + 1) h' F' (by rw [hg]; exact N')
theorem ints_rep (v : Int) (t : Tok) : ∀ n : Nat, IntsAre (List.replicate n [Value.int v t]).flatten (List.replicate n v)
  | 0 => .nil
  | n + 1 => by rw [List.replicate_succ, List.replicate_succ, List.flatten_cons]; exact .cons v t (ints_rep v t n)
theorem rep_length (v : Value) (n : Nat) : (List.replicate n [v]).flatten.length = n := by simp
section
variable {prog : Program} {w : World} {A : Around} {E : Value → Shared → Prop} {s : Shared} {env : Env} {h₀ : Heap} {x : PySem.Str} {body : List Stmt} {Q : Flow → Shared → Prop}
theorem due_loop3 {R Fl O D : Addr} {rv ov : List Value} {cs : List Int} {nr no : Nat} {t1 t2 : Addr × Obj} {oD : Obj} {m₀ : PySem.Str → Option Value} (hh : A.handled = none) (F : Fr h₀ env.locals s.heap m₀)
    (N : News h₀ env.locals s.heap [(R, W.listOf rv.toArray nr), (Fl, W.listOf #[] 0), (O, W.listOf ov.toArray no), t1, t2, (D, oD)]) (hI : IntsAre rv ordr.reverse)
    (turn : ∀ (fv : List Value) (fs : List Int) (n : Nat) (pre : List Int) (f : Int) tf (u : PySem.Str → Option Value) h tk own, 0 ≤ f → f < 64 → pre.length < 64 → OwnOff own [Fl, R, O, D] → IntsAre fv fs → FInv cs pre fs 48 → KstMark →
      Fr h₀ env.locals h (fun z => if z = x then some (.int f tf) else m₀ z) → News h₀ env.locals h ((Fl, W.listOf fv.toArray n) :: (R, W.listOf rv.toArray nr) :: (O, W.listOf ov.toArray no) :: (D, oD) :: own) →
      wpAny (model prog w) A (execs body env) (InvPostN h₀ env.locals (KstS (fsLed Fl [(R, W.listOf rv.toArray nr), (O, W.listOf ov.toArray no), (D, oD)]) vsPs vsFa x [] m₀ (fsP cs 48) (pre ++ [f])) own [Fl, R, O, D] { s with heap := h, toks := tk } Q) E { s with heap := h, toks := tk })
    (done : ∀ (fv : List Value) (n : Nat) (u : PySem.Str → Option Value) h tk, IntsAre fv (fallOf cs ordr.reverse) →
      Fr h₀ env.locals h (fun z => if z = x then u z else m₀ z) → News h₀ env.locals h [(Fl, W.listOf fv.toArray n), (O, W.listOf ov.toArray no), (D, oD)] → Q .next { s with heap := h, toks := tk }) :
    wpAny (model prog w) A (pyIter (.ref R)) (fun it s₂ => LoopAtV prog w A h₀ env x body Q E it s₂) E s := by
  refine kst_listL (fsLed Fl [(R, W.listOf rv.toArray nr), (O, W.listOf ov.toArray no), (D, oD)]) vsPs vsFa [] (fsP cs 48) ([], [], 0) hh (fun c => List.mem_cons_of_mem _ (.head _)) hI F (news_sub N (List.forall_mem_cons.mpr ⟨.tail _ (.head _), List.forall_mem_cons.mpr ⟨.head _, List.forall_mem_cons.mpr ⟨.tail _ (.tail _ (.head _)), List.forall_mem_cons.mpr ⟨.tail _ (.tail _ (.tail _ (.tail _ (.tail _ (.head _))))), List.forall_mem_nil _⟩⟩⟩⟩)) .nil (fun p hp => by cases hp) FInv.start ?_ ?_
  · rintro ⟨fv, fs, n⟩ pre post f tf u h tk own e hm hoff hfa hP F' N'
    have hf := ordr_mem f (List.mem_reverse.mp hm)
    have hl : pre.length < ordr.reverse.length := by rw [e]; simp
    rw [List.length_reverse, ordr_length] at hl
    exact turn fv fs n pre f tf u h tk own hf.1 hf.2 hl hoff hfa hP kstMark F' N'
  · rintro ⟨fv, fs, n⟩ u h tk hfa hP F' N'
    have e : fs = fallOf cs ordr.reverse := hP.fc
    have hfa' : IntsAre fv (fallOf cs ordr.reverse) := e ▸ (hfa : IntsAre fv fs)
    exact done fv n u h tk hfa' F' (news_sub N' (List.forall_mem_cons.mpr ⟨.head _, List.forall_mem_cons.mpr ⟨.tail _ (.tail _ (.head _)), List.forall_mem_cons.mpr ⟨.tail _ (.tail _ (.tail _ (.head _))), List.forall_mem_nil _⟩⟩⟩))
theorem due_loop4 {Fl O M D : Addr} {ov mv fw : List Value} {cs ms0 : List Int} {half : Int} {no n0 nf : Nat} {t0 : Tok} {ta t1 : Addr × Obj} {oD : Obj} {m₀ : PySem.Str → Option Value} (hh : A.handled = none) (F : Fr h₀ env.locals s.heap m₀)
    (e1 : m₀ (Str.ofString "met") = some (.int 0 t0)) {th : Tok} (e2 : m₀ (Str.ofString "half") = some (.int half th))
    (N : News h₀ env.locals s.heap [ta, t1, (M, W.listOf mv.toArray n0), (Fl, W.listOf fw.toArray nf), (O, W.listOf ov.toArray no), (D, oD)]) (hI : IntsAre ov ordr) (hM : IntsAre mv ms0) (hl0 : ms0.length ≤ 64)
    (turn : ∀ (fv : List Value) (fs : List Int) (n : Nat) (met : Int) (tm : Tok) (pre : List Int) (f : Int) tf (u : PySem.Str → Option Value) h tk own, 0 ≤ f → f < 64 → pre.length < 64 → fs.length ≤ 128 → 0 ≤ met → met ≤ 4000 → OwnOff own [M, ta.1, t1.1, Fl, O, D] → IntsAre fv fs → GInv cs half ms0 pre fs met 48 → KstMark →
      Fr h₀ env.locals h (fun z => if z = x then some (.int f tf) else kstB m₀ [(Str.ofString "met", .int met tm)] z) → News h₀ env.locals h ((M, W.listOf fv.toArray n) :: ta :: t1 :: (Fl, W.listOf fw.toArray nf) :: (O, W.listOf ov.toArray no) :: (D, oD) :: own) →
      wpAny (model prog w) A (execs body env) (InvPostN h₀ env.locals (KstS (gsLed M [ta, t1, (Fl, W.listOf fw.toArray nf), (O, W.listOf ov.toArray no), (D, oD)]) gsPs gsFa x [] m₀ (gsP cs half ms0 48) (pre ++ [f])) own [M, ta.1, t1.1, Fl, O, D] { s with heap := h, toks := tk } Q) E { s with heap := h, toks := tk })
    (done : ∀ (fv : List Value) (n : Nat) (met : Int) (tm : Tok) (u : PySem.Str → Option Value) h tk, IntsAre fv (metOf cs half ms0 ordr).1 → ((metOf cs half ms0 ordr).1.length ≤ ms0.length + 64) →
      Fr h₀ env.locals h (fun z => if z = x then u z else kstB m₀ [(Str.ofString "met", .int met tm)] z) → News h₀ env.locals h [ta, t1, (M, W.listOf fv.toArray n), (Fl, W.listOf fw.toArray nf), (O, W.listOf ov.toArray no), (D, oD)] → Q .next { s with heap := h, toks := tk }) :
    wpAny (model prog w) A (pyIter (.ref O)) (fun it s₂ => LoopAtV prog w A h₀ env x body Q E it s₂) E s := by
  refine kst_listL (gsLed M [ta, t1, (Fl, W.listOf fw.toArray nf), (O, W.listOf ov.toArray no), (D, oD)]) gsPs gsFa [] (gsP cs half ms0 48) (mv, ms0, n0, 0, t0) hh (fun c => List.mem_cons_of_mem _ (.tail _ (.tail _ (.tail _ (.head _))))) hI F (news_sub N (List.forall_mem_cons.mpr ⟨.tail _ (.tail _ (.head _)), List.forall_mem_cons.mpr ⟨.head _, List.forall_mem_cons.mpr ⟨.tail _ (.head _), List.forall_mem_cons.mpr ⟨.tail _ (.tail _ (.tail _ (.head _))), List.forall_mem_cons.mpr ⟨.tail _ (.tail _ (.tail _ (.tail _ (.head _)))), List.forall_mem_cons.mpr ⟨.tail _ (.tail _ (.tail _ (.tail _ (.tail _ (.head _))))), List.forall_mem_nil _⟩⟩⟩⟩⟩⟩)) hM ?_ GInv.start ?_ ?_
  · intro p hp
    rw [List.mem_singleton.mp hp]
    exact e1
  · rintro ⟨fv, fs, n, met, tm⟩ pre post f tf u h tk own e hm hoff hfa hP F' N'
    have hf := ordr_mem f hm
    have hl : pre.length < ordr.length := by rw [e]; simp
    rw [ordr_length] at hl
    have a1 : fs.length ≤ ms0.length + pre.length := hP.gl
    have a2 : 0 ≤ met := hP.g0
    have a3 : met ≤ 48 * pre.length := hP.g1
    exact turn fv fs n met tm pre f tf u h tk own hf.1 hf.2 hl (by lia) a2 (by lia) hoff hfa hP kstMark F' N'
  · rintro ⟨fv, fs, n, met, tm⟩ u h tk hfa hP F' N'
    have e : (fs, met) = metOf cs half ms0 ordr := hP.gc
    have e2 : fs = (metOf cs half ms0 ordr).1 := by rw [← e]
    have hfa' : IntsAre fv (metOf cs half ms0 ordr).1 := e2 ▸ (hfa : IntsAre fv fs)
    have hl' : fs.length ≤ ms0.length + ordr.length := hP.gl
    rw [ordr_length, e2] at hl'
    exact done fv n met tm u h tk hfa' hl' F' (news_sub N' (List.forall_mem_cons.mpr ⟨.tail _ (.head _), List.forall_mem_cons.mpr ⟨.tail _ (.tail _ (.head _)), List.forall_mem_cons.mpr ⟨.head _, List.forall_mem_cons.mpr ⟨.tail _ (.tail _ (.tail _ (.head _))), List.forall_mem_cons.mpr ⟨.tail _ (.tail _ (.tail _ (.tail _ (.head _)))), List.forall_mem_cons.mpr ⟨.tail _ (.tail _ (.tail _ (.tail _ (.tail _ (.head _))))), List.forall_mem_nil _⟩⟩⟩⟩⟩⟩))
end
end Mine
end
section
open PySem PySem.W PyProof.Rows PySem.Spec PySem.Calls
set_option maxRecDepth 100000
set_option maxHeartbeats 4000000
namespace Mine
section
variable {w : World} {dp un : Nat} {gd : Option (List Code)} {cn : Str} {cs : Scope} {a : Addr} {ccd : Value} {cl : List (Str × Addr)} {outer : List Env} {A₀ : Around} {base h₀ : Heap} {L : Addr} {m mg mb : Str → Option Value} {s : Shared} {Q E : Value → Shared → Prop}
  {p : Program} {loose : List Str} {mean : ExcName → Option Value}
theorem due_spec {l : Addr} {vs : List Value} {ns : List Int} : PySem.Challenge.rw_pu0025_02.foot = PySem.Challenge.rw_pu0025_02.foot → Below A₀ base outer h₀ → Fr h₀ L s.heap m → (Mine02.hd.heap_1 w.params).In h₀ → Top p loose mean mg mb h₀ → cs.kind = .function → dp + 15 < recursionLimit → un + 120 < cLine → s.heap.IsList l vs.toArray → IntsAre vs ns → (∀ x ∈ ns, 0 ≤ x ∧ x < 16777216) → 0 < ns.length → ns.length ≤ 12 →
    (∀ (R D : Addr) h' tk' (tn : Tok) (mv fv : List Value) c1 c2, Keeps s.heap h' → h'.get? R = some (W.listOf (List.toArray (mv ++ [Value.ref D, Value.int (num24 ns) tn])) c1) ∧ s.heap.get? R = none → h'.get? D = some (W.listOf fv.toArray c2) ∧ s.heap.get? D = none → IntsAre mv (midsOf ns) → IntsAre fv (fallOf (cnt ns) ordr.reverse) → Q (.ref R) { s with heap := h', toks := tk' }) →
    wpAny (model PySem.Challenge.rw_pu0025_02.row.prog w) (ktrTop dp un gd cn cs L a ccd cl outer) (call (.ref 157) [.ref l]) Q E s := by
  w_top off
  k_with_none
  k_with "pyIter ref" => (k_here; (with_reducible show wpAny _ _ (pyIter (Value.ref _)) (fun it s₂ => LoopAtV _ _ _ _ _ (Str.ofString "x") _ _ _ it s₂) _ _); (rename Fr _ _ _ _ => lF'); (rename News _ _ _ _ => lN'); (with_unfolding_all refine' due_loop1 hx rfl hl hI lF' lN' rfl ?_ ?_); clear lF' lN'; (all_goals first
    | (intro cv cs n nb tn pre y ty u h9 tk9 own hlt y0 y1 hoff hI9 hU hM F9 N9; (have u1 := hU.ulen); (have u2 := hU.ubits); (have hIl := hI9.length))
    | (intro cv cs n nb tn u h9 tk9 hI9 hU F9 N9; (have u1 := hU.ulen); (have hIl := hI9.length))); (all_goals (try k_fold)))
  k_with "pyIter ref" => (k_here; (with_reducible show wpAny _ _ (pyIter (Value.ref _)) (fun it s₂ => LoopAtV _ _ _ _ _ (Str.ofString "k") _ _ _ it s₂) _ _); (rename Fr _ _ _ _ => lF'); (rename News _ _ _ _ => lN'); (rename IsRange _ _ _ _ _ _ _ _ => lR'); (with_unfolding_all refine' due_loop2 (y := y) rfl lR' lF' lN' hI9 u1 ?_ ?_); clear lF' lN' lR'; (all_goals first
    | (intro cv' cs' n' pre' k tk' u' h8 tk8 own' hk8 hp8 hoff8 hI8 hV8 hM8 F8 N8; (have v1 := hV8.vlen); (have hIl8 := hI8.length); rcases hk8 with rfl | rfl | rfl | rfl)
    | (intro cv' cs' n' u' h8 tk8 hI8 hc8 hl8 F8 N8)); (all_goals (try k_fold)))
  k_with "InvEndN" => ((rename News _ _ _ _ => nE'); (refine kst_end (⟨_, _, _⟩ : VS) (by assumption) nE' (List.forall_mem_cons.mpr ⟨List.Mem.head _, fun p9 q9 => List.Mem.tail _ (List.mem_append_left _ q9)⟩) (fun p9 q9 => List.Mem.tail _ (List.mem_append_right _ q9)) rfl (ints_set _ _ _ hI8) (fun p9 q9 => by cases q9) (by (intro z z0 _ _; simp only [if_neg z0])) (by first | with_reducible exact VInv.t0 hV8 hp8 | with_reducible exact VInv.t1 hV8 hp8 | with_reducible exact VInv.t2 hV8 hp8 | with_reducible exact VInv.t3 hV8 hp8)))
  k_with "InvEndN" => ((rename News _ _ _ _ => nE'); (refine kst_end (⟨_, _, _, _, _⟩ : US) (by assumption) nE' (List.forall_mem_cons.mpr ⟨List.Mem.head _, fun p9 q9 => by cases q9⟩) (fun p9 q9 => List.Mem.tail _ q9) rfl hI8 (by kst_all) (by (intro z z0 z9 zs; (have z1 := z9 _ (List.Mem.head _)); (have z2 : z ≠ Str.ofString "k" := by (intro e9; rw [e9] at zs; simp at zs)); (simp only [kstB, if_neg z0, if_neg z1, if_neg z2]; simp [z2]))) (UInv.step hU y0 y1 hc8)))
  k_with "binaryOp Add ref ref" => (k_here; (with_reducible show wpAny _ _ (binaryOp Operator.Add (Value.ref _) (Value.ref _)) _ _ _); (refine' add_lists_ints (by k_asm) (by k_asm) (by first | assumption | is_list) (by first | assumption | is_list) (by first | with_reducible exact IntsAre.ofCarried (by assumption) | assumption | l_intsW) (by first | with_reducible exact IntsAre.ofCarried (by assumption) | assumption | l_intsW) ?_ (by rw [sizeLine_eq]; simp only [List.length_append, rangeInts_length, List.length_cons, List.length_nil]; decide)); intro h' F' N' hI'; (try (have hO' := ord_of hI')))
  k_with "pyIter ref" => (k_here; (with_reducible show wpAny _ _ (pyIter (Value.ref _)) (fun it s₂ => LoopAtV _ _ _ _ _ (Str.ofString "f") _ _ _ it s₂) _ _); (rename Fr _ _ _ _ => lF'); (rename News _ _ _ _ => lN'); (with_unfolding_all refine' due_loop3 (cs := cs) rfl lF' lN' ?i1 ?_ ?_); (case i1 => exact rev_of (by assumption)); clear lF' lN'; (all_goals first
    | (intro fv fs n pre f tf u h9 tk9 own f0 f1 hlt hoff hI9 hF hM F9 N9; (have hIl9 := hI9.length); (have fl9 := hF.fl); (have cb9 := cnt_at hU.uc f.toNat))
    | (intro fv n u h9 tk9 hIf F9 N9)); (all_goals (try k_fold)))
  k_with "pyIter ref" => (k_here; (with_reducible show wpAny _ _ (pyIter (Value.ref _)) (fun it s₂ => LoopAtV _ _ _ _ _ (Str.ofString "f") _ _ _ it s₂) _ _); (rename Fr _ _ _ _ => lF'); (rename News _ _ _ _ => lN'); (with_unfolding_all refine' due_loop4 (cs := cs) rfl lF' ?e1 ?e2 lN' ?i1 ?i2 ?i3 ?_ ?_); (case e1 => with_unfolding_all exact rfl); (case e2 => with_unfolding_all exact rfl); (case i1 => first | exact hO' ); (case i2 => first | exact IntsAre.nil | assumption ); (case i3 => k_dflt (first | exact Nat.zero_le _ | exact Nat.le_trans hLm (Nat.le_refl 64))); clear lF' lN'; (all_goals first
    | (intro mv ms n met tm pre f tf u h9 tk9 own f0 f1 hlt hml hm0 hm1 hoff hI9 hG hM F9 N9; (have hIl9 := hI9.length); (have cb9 := cnt_at hU.uc f.toNat))
    | (intro mv n met tm u h9 tk9 hIm hLm F9 N9)); (all_goals (try k_fold)))
  k_with "subscriptTail" => (k_here; (with_reducible show wpAny _ _ (subscriptTail _ _ (Value.bytes _ _) (Value.int _ _)) _ _ _); (with_unfolding_all refine b64_at ?h0 ?h1 ?_; (case h0 => assumption); (case h1 => assumption)))
  k_with "binaryOp Add ref ref" => (k_here; (with_reducible show wpAny _ _ (binaryOp Operator.Add (Value.ref _) (Value.ref _)) _ _ _); (have q1 := hIm.length); (have q2 := hLm); (refine' add_lists (vs := mv) (by k_asm) (by k_asm) (by is_list) (by is_list) ?_ (by rw [sizeLine_eq]; (simp only [List.length_cons, List.length_nil] at *); omega)); intro h' F' N')
  k_with "call builtin:list.extend" => (k_here; (with_reducible show wpAny _ _ (call (Value.builtin _) [Value.ref _, Value.ref _]) _ _ _); k_dflt (refine' due_ext ?F ?N ?U ?b ?z ?_; (case F => k_asm); (case N => k_asm); (case U => k_updF); (case b => k_mem); (case z => (rw [rep_length]; omega))); intro n' h' F' N'; (try dsimp only at N'))
  k_with "InvEndN" => (goal_has Mine.fsP; (rename News _ _ _ _ => nE'); first | k_dflt (refine kst_end (⟨_, _, _⟩ : VS) (by assumption) nE' (List.forall_mem_cons.mpr ⟨.tail _ (.tail _ (.head _)), List.forall_mem_cons.mpr ⟨.tail _ (.tail _ (.tail _ (.head _))), List.forall_mem_cons.mpr ⟨.tail _ (.tail _ (.tail _ (.tail _ (.head _)))), List.forall_mem_cons.mpr ⟨.tail _ (.tail _ (.tail _ (.tail _ (.tail _ (.head _))))), List.forall_mem_nil _⟩⟩⟩⟩) (fun p9 q9 => .tail _ (.tail _ (.tail _ (.tail _ (.tail _ (.tail _ (q9))))))) rfl (hI9.append (ints_rep _ _ _)) (fun p9 q9 => by cases q9) (by (intro z z0 _ _; simp only [if_neg z0])) (FInv.step hF rfl cb9.1 (by omega) rfl)))
  k_with "InvEndN" => (goal_has Mine.gsP; (rename News _ _ _ _ => nE'); (try simp only [List.push_toArray] at nE'); first | k_dflt (first | (refine kst_end (⟨_, _, _, _, _⟩ : GS) (by assumption) nE' (List.forall_mem_cons.mpr ⟨.head _, List.forall_mem_cons.mpr ⟨.tail _ (.head _), List.forall_mem_cons.mpr ⟨.tail _ (.tail _ (.head _)), List.forall_mem_cons.mpr ⟨.tail _ (.tail _ (.tail _ (.head _))), List.forall_mem_cons.mpr ⟨.tail _ (.tail _ (.tail _ (.tail _ (.head _)))), List.forall_mem_cons.mpr ⟨.tail _ (.tail _ (.tail _ (.tail _ (.tail _ (.head _))))), List.forall_mem_nil _⟩⟩⟩⟩⟩⟩) (fun p9 q9 => .tail _ (.tail _ (.tail _ (.tail _ (.tail _ (.tail _ (q9))))))) rfl hI9 (by kst_all) (by (intro z z0 z9 zs; (have z1 : z ≠ Str.ofString "met" := z9 _ (List.Mem.head _)); (simp only [kstB, if_neg z0, if_neg z1]))) (GInv.miss hG rfl cb9.1 (by omega) (by omega))) | (refine kst_end (⟨_, _, _, _, _⟩ : GS) (by assumption) nE' (List.forall_mem_cons.mpr ⟨.head _, List.forall_mem_cons.mpr ⟨.tail _ (.head _), List.forall_mem_cons.mpr ⟨.tail _ (.tail _ (.head _)), List.forall_mem_cons.mpr ⟨.tail _ (.tail _ (.tail _ (.head _))), List.forall_mem_cons.mpr ⟨.tail _ (.tail _ (.tail _ (.tail _ (.head _)))), List.forall_mem_cons.mpr ⟨.tail _ (.tail _ (.tail _ (.tail _ (.tail _ (.head _))))), List.forall_mem_nil _⟩⟩⟩⟩⟩⟩) (fun p9 q9 => .tail _ (.tail _ (.tail _ (.tail _ (.tail _ (.tail _ (q9))))))) rfl (hI9.append (.cons _ _ .nil)) (by kst_all) (by (intro z z0 z9 zs; (have z1 : z ≠ Str.ofString "met" := z9 _ (List.Mem.head _)); (simp only [kstB, if_neg z0, if_neg z1]))) (GInv.hit hG rfl cb9.1 (by omega) (by omega) (by omega)))))
  k_fill
  intro _ B F X T hk hd hu hl hI hx h0 h1 hret
  k_dflt (refine' callK (by assumption) (by assumption) (by assumption) (by assumption) rfl rfl (by assumption) ?k6 ?k7 ?k8 ?k9 ?kB ?c5 ?c2 ?c3 ?c4 ?_; (case k6 => k_is); (case k7 => k_is); (case k8 => ktr_room); (case k9 => first | exact BindsTo.of_eq rfl | exact binds_K (by k_in) rfl (by k_is) rfl rfl rfl); (case c5 => decide); (case kB => exact locs rfl); (case c2 => exact rfl); (case c3 => exact rfl); (case c4 => exact rfl))
  intro L' h' F' N' B' X' T'
  clear B F X T
  k_steps
  all_goals (rename News _ _ _ _ => nE'; rename Fr _ _ _ _ => fE')
  all_goals (obtain ⟨rfl, I, J⟩ := due_fin hU hIm hIf)
  all_goals (exact hret _ _ _ _ _ _ _ _ _ fE'.keep (due_at nE' (.head _)) (due_at nE' (.tail _ (.tail _ (.tail _ (.tail _ (.head _)))))) I J)
end
end Mine
end
section
open PySem PySem.W PyProof.Rows PySem.Spec PySem.Calls
set_option maxRecDepth 100000
set_option maxHeartbeats 4000000
namespace Mine
/-- each sign as often as its count says, in the order given -/
def spr (cs os : List Int) : List Int := os.flatMap fun f => List.replicate (cs.getD f.toNat 0).toNat (sg f)
theorem spr_cons (cs : List Int) (f : Int) (r : List Int) : spr cs (f :: r) = List.replicate (cs.getD f.toNat 0).toNat (sg f) ++ spr cs r := rfl
theorem fall_spr (cs : List Int) : ∀ (rs acc : List Int), rs.foldl (fallStep cs) acc = acc ++ spr cs rs
  | [], acc => by simp [spr]
  | f :: r, acc => by rw [List.foldl_cons, fall_spr cs r, spr_cons, fallStep, List.append_assoc]
theorem fallOf_spr (cs rs : List Int) : fallOf cs rs = spr cs rs := by unfold fallOf; rw [fall_spr]; rfl
theorem bump_at {cs : List Int} {f : Int} {i : Nat} (hf : f.toNat < cs.length) : (bump cs f).getD i 0 = if i = f.toNat then cs.getD i 0 + 1 else cs.getD i 0 := by
  unfold bump
  rw [List.getD_eq_getElem?_getD, List.getD_eq_getElem?_getD, List.getElem?_set]
  by_cases h : i = f.toNat
  · rw [if_pos h.symm, if_pos (h ▸ hf), if_pos h, h, List.getD_eq_getElem?_getD]; simp
  · rw [if_neg (Ne.symm h), if_neg h]
    exact (List.getD_eq_getElem?_getD ..).symm
theorem spr_off {cs : List Int} {f : Int} (hf : f.toNat < cs.length) (f0 : 0 ≤ f) : ∀ {os : List Int}, (∀ g ∈ os, 0 ≤ g) → f ∉ os → spr (bump cs f) os = spr cs os
  | [], _, _ => rfl
  | g :: r, h, hn => by
    have hg := h g (.head _)
    have : g ≠ f := fun e => hn (e ▸ .head _)
    rw [spr_cons, spr_cons, bump_at hf, if_neg (by omega), spr_off hf f0 (fun x hx => h x (.tail _ hx)) (fun hx => hn (.tail _ hx))]
theorem spr_bump {cs : List Int} {f : Int} (hf : f.toNat < cs.length) (f0 : 0 ≤ f) (hc : ∀ c ∈ cs, 0 ≤ c) : ∀ {os : List Int}, (∀ g ∈ os, 0 ≤ g) → os.Nodup → f ∈ os → (spr (bump cs f) os).Perm (sg f :: spr cs os)
  | g :: r, h, hd, hm => by
    have hg := h g (.head _)
    rw [List.nodup_cons] at hd
    rw [spr_cons, spr_cons, bump_at hf]
    by_cases e : g = f
    · subst e
      have : 0 ≤ cs.getD g.toNat 0 := by
        rw [List.getD_eq_getElem?_getD]
        cases q : cs[g.toNat]? with
        | none => simp
        | some v => simpa using hc v (List.mem_of_getElem? q)
      rw [if_pos rfl, spr_off hf f0 (fun x hx => h x (.tail _ hx)) hd.1, show (cs.getD g.toNat 0 + 1).toNat = (cs.getD g.toNat 0).toNat + 1 by omega, List.replicate_succ]
      exact List.Perm.refl _
    · rw [if_neg (by omega)]
      have hr : f ∈ r := by
        rcases List.mem_cons.mp hm with q | q
        · exact absurd q.symm e
        · exact q
      exact (List.Perm.append_left _ (spr_bump hf f0 hc (fun x hx => h x (.tail _ hx)) hd.2 hr)).trans List.perm_middle
theorem spr_bumps {os : List Int} (ho : ∀ g ∈ os, 0 ≤ g) (hd : os.Nodup) : ∀ {fs cs : List Int}, (∀ f ∈ fs, 0 ≤ f ∧ f.toNat < cs.length ∧ f ∈ os) → (∀ c ∈ cs, 0 ≤ c) → (spr (fs.foldl bump cs) os).Perm (fs.map sg ++ spr cs os)
  | [], _, _, _ => List.Perm.refl _
  | f :: r, cs, hf, hc => by
    have h0 := hf f (.head _)
    rw [List.foldl_cons, List.map_cons, List.cons_append]
    refine (spr_bumps ho hd (fun x hx => ?_) (bump_nonneg hc f)).trans ?_
    · have := hf x (.tail _ hx)
      rw [bump_len]; exact this
    · exact (List.Perm.append_left _ (spr_bump h0.2.1 h0.1 hc ho hd h0.2.2)).trans List.perm_middle
theorem cnt_flat (ns : List Int) : cnt ns = (ns.flatMap figs).foldl bump (List.replicate 64 0) := by
  unfold cnt
  generalize List.replicate 64 (0 : Int) = cs
  induction ns generalizing cs with
  | nil => rfl
  | cons x r ih => rw [List.foldl_cons, ih, List.flatMap_cons, List.foldl_append]
theorem spr_zero : ∀ os : List Int, spr (List.replicate 64 0) os = []
  | [] => rfl
  | f :: r => by
    have : (List.replicate 64 (0 : Int)).getD f.toNat 0 = 0 := by
      rw [List.getD_eq_getElem?_getD, List.getElem?_replicate]; split <;> rfl
    rw [spr_cons, spr_zero r, this]; rfl
theorem ordr_nodup : ordr.Nodup := by decide +kernel
theorem ordr_has : ∀ f : Int, 0 ≤ f → f < 64 → f ∈ ordr := by
  have key : ∀ n : Nat, n < 64 → (n : Int) ∈ ordr := by decide +kernel
  intro f h0 h1
  have := key f.toNat (by omega)
  rwa [Int.toNat_of_nonneg h0] at this
theorem ordr_up : ordr.Pairwise fun a b => sg a ≤ sg b := by decide +kernel
theorem figs_mem {x f : Int} (h : f ∈ figs x) : 0 ≤ f ∧ f < 64 := by
  simp only [figs, List.mem_cons, List.not_mem_nil, or_false] at h
  omega
theorem spr_cnt (ns : List Int) : (spr (cnt ns) ordr).Perm ((ns.flatMap figs).map sg) := by
  rw [cnt_flat]
  have := spr_bumps (os := ordr) (fs := ns.flatMap figs) (cs := List.replicate 64 0) (fun g hg => (ordr_mem g hg).1) ordr_nodup (fun f hf => by
    obtain ⟨x, _, hx⟩ := List.mem_flatMap.mp hf
    have := figs_mem hx
    exact ⟨this.1, by rw [List.length_replicate]; omega, ordr_has f this.1 this.2⟩) (fun c hc => by rw [(List.mem_replicate.mp hc).2]; omega)
  rw [spr_zero, List.append_nil] at this
  exact this
theorem u8_of (n : Nat) : (n.toUInt8).toNat = n % 256 := UInt8.toNat_ofNat'
theorem byte0 {k : Int} (h0 : 0 ≤ k) (h1 : k < 16777216) : ((((k.fdiv 65536).fmod 256).toNat.toUInt8).toNat : Int) = k / 65536 := by
  rw [u8_of, Int.fdiv_eq_ediv_of_nonneg _ (by decide), Int.fmod_eq_emod_of_nonneg _ (by decide)]; omega
theorem byte1 {k : Int} (h0 : 0 ≤ k) : ((((k.fdiv 256).fmod 256).toNat.toUInt8).toNat : Int) = k / 256 % 256 := by
  rw [u8_of, Int.fdiv_eq_ediv_of_nonneg _ (by decide), Int.fmod_eq_emod_of_nonneg _ (by decide)]; omega
theorem byte2 {k : Int} (h0 : 0 ≤ k) : (((k.fmod 256).toNat.toUInt8).toNat : Int) = k % 256 := by
  rw [u8_of, Int.fmod_eq_emod_of_nonneg _ (by decide)]; omega
theorem figs3_is {k : Int} (h0 : 0 ≤ k) (h1 : k < 16777216) : figs3 ((k.fdiv 65536).fmod 256).toNat.toUInt8 ((k.fdiv 256).fmod 256).toNat.toUInt8 (k.fmod 256).toNat.toUInt8 = (figs k).reverse := by
  unfold figs3
  rw [byte0 h0 h1, byte1 h0, byte2 h0]
  show _ = [k / 262144 % 64, k / 4096 % 64, k / 64 % 64, k % 64]
  congr 1
  · omega
  · congr 1
    · omega
    · congr 1
      · omega
      · congr 1; omega
theorem figsOf_perm : ∀ {ns : List Int}, (∀ x ∈ ns, 0 ≤ x ∧ x < 16777216) → (figsOf ns).Perm (ns.flatMap figs)
  | [], _ => List.Perm.refl _
  | k :: r, h => by
    have hk := h k (.head _)
    have ih := figsOf_perm fun x hx => h x (.tail _ hx)
    unfold figsOf at ih ⊢
    rw [List.map_cons, List.flatten_cons, List.flatMap_cons, figs3_is hk.1 hk.2]
    exact List.Perm.append (List.reverse_perm _) ih
/-- the octets of the long writing, as their order has them -/
theorem long_perm {ns : List Int} (h : ∀ x ∈ ns, 0 ≤ x ∧ x < 16777216) : (KBw.bInts (longOf ns).toArray).Perm (spr (cnt ns) ordr) := by
  rw [longOf_figs, bInts_sg]
  exact ((figsOf_perm h).map sg).trans (spr_cnt ns).symm
theorem spr_up {R : Int → Int → Prop} (hr : ∀ a, R a a) (cs : List Int) {os : List Int} (h : os.Pairwise fun a b => R (sg a) (sg b)) : (spr cs os).Pairwise R := by
  unfold spr
  rw [List.pairwise_flatMap]
  refine ⟨fun a _ => List.pairwise_replicate.mpr (.inr (hr _)), h.imp fun {a b} hab x hx y hy => ?_⟩
  rw [(List.mem_replicate.mp hx).2, (List.mem_replicate.mp hy).2]
  exact hab
theorem up_is {ns ms : List Int} (h : ∀ x ∈ ns, 0 ≤ x ∧ x < 16777216) (p : ms.Perm (KBw.bInts (longOf ns).toArray)) (s : ms.Pairwise (· ≤ ·)) : ms = spr (cnt ns) ordr :=
  List.Perm.eq_of_pairwise (le := (· ≤ ·)) (fun a b _ _ x y => Int.le_antisymm x y) s (spr_up (fun a => Int.le_refl a) _ ordr_up) (p.trans (long_perm h))
theorem down_is {ns ms : List Int} (h : ∀ x ∈ ns, 0 ≤ x ∧ x < 16777216) (p : ms.Perm (KBw.bInts (longOf ns).toArray)) (s : ms.Pairwise fun x y => -x ≤ -y) : ms = spr (cnt ns) ordr.reverse := by
  refine List.Perm.eq_of_pairwise (le := fun x y => -x ≤ -y) (fun a b _ _ x y => by omega) s (spr_up (R := fun x y : Int => -x ≤ -y) (fun a => Int.le_refl _) _ ?_) ((p.trans (long_perm h)).trans (List.Perm.flatMap_right _ (List.reverse_perm _).symm))
  rw [List.pairwise_reverse]
  exact ordr_up.imp fun {a b} q => by omega
theorem met_spec {cs : List Int} (hc : ∀ i, 0 ≤ cs.getD i 0) (half : Int) : ∀ (os ms : List Int) (met : Int),
    (os.foldl (metStep cs half) (ms, met)).1 = if met < half ∧ half ≤ met + (spr cs os).length then ms ++ [(spr cs os).getD (half - met - 1).toNat 0] else ms
  | [], ms, met => by
    rw [if_neg (by simp [spr])]; rfl
  | f :: r, ms, met => by
    have h0 := hc f.toNat
    have hl : ((spr cs (f :: r)).length : Int) = cs.getD f.toNat 0 + (spr cs r).length := by rw [spr_cons, List.length_append, List.length_replicate]; omega
    have e : metStep cs half (ms, met) f = (if met < half ∧ half ≤ met + cs.getD f.toNat 0 then ms ++ [sg f] else ms, met + cs.getD f.toNat 0) := rfl
    rw [List.foldl_cons, e]
    by_cases q : met < half ∧ half ≤ met + cs.getD f.toNat 0
    · rw [if_pos q, met_spec hc half r, if_neg (by omega), if_pos (by omega), spr_cons]
      congr 2
      rw [List.getD_eq_getElem?_getD, List.getElem?_append_left (by rw [List.length_replicate]; omega), List.getElem?_replicate, if_pos (by omega)]; rfl
    · rw [if_neg q, met_spec hc half r]
      by_cases q2 : met + cs.getD f.toNat 0 < half ∧ half ≤ met + cs.getD f.toNat 0 + (spr cs r).length
      · rw [if_pos q2, if_pos (by omega), spr_cons]
        congr 2
        generalize hcd : cs.getD f.toNat 0 = c at *
        rw [List.getD_eq_getElem?_getD, List.getD_eq_getElem?_getD, List.getElem?_append_right (by rw [List.length_replicate]; omega), List.length_replicate]
        congr 2
        omega
      · rw [if_neg q2, if_neg (by omega)]
theorem figs_len (ns : List Int) : (ns.flatMap figs).length = 4 * ns.length := by
  induction ns with
  | nil => rfl
  | cons x r ih => rw [List.flatMap_cons, List.length_append, ih, List.length_cons]; show 4 + _ = _; omega
theorem spr_len (ns : List Int) : (spr (cnt ns) ordr).length = 4 * ns.length := by
  rw [(spr_cnt ns).length_eq, List.length_map, figs_len]
theorem mids_is {ns : List Int} (h0 : 0 < ns.length) : midsOf ns = [(spr (cnt ns) ordr).getD ((4 * ns.length - 1) / 2) 0, (spr (cnt ns) ordr).getD (4 * ns.length / 2) 0] := by
  have hc : ∀ i, 0 ≤ (cnt ns).getD i 0 := fun i => (cnt_at rfl i).1
  unfold midsOf metOf
  rw [met_spec hc, met_spec hc, spr_len, if_pos (by omega), if_pos (by omega)]
  show [_, _] = _
  congr 2
  · omega
  · congr 2; omega
/-- the decoder gives the rows back -/
theorem d_row (b0 b1 b2 : UInt8) (out : List Int) : (figs3 b0 b1 b2).foldl dstep (0, 0, out) = (0, 0, out ++ [(b0.toNat : Int), (b1.toNat : Int), (b2.toNat : Int)]) := by
  have h0 := b0.toNat_lt
  have h1 := b1.toNat_lt
  have h2 := b2.toNat_lt
  have e0 : ((b0.toNat : Int) / 4 % 64) * 4 + ((b0.toNat : Int) * 256 + b1.toNat) / 16 % 64 / 16 = b0.toNat := by omega
  have e1 : (((b0.toNat : Int) * 256 + b1.toNat) / 16 % 64 % 16) * 16 + ((b1.toNat : Int) * 256 + b2.toNat) / 64 % 64 / 4 = b1.toNat := by omega
  have e2 : (((b1.toNat : Int) * 256 + b2.toNat) / 64 % 64 % 4) * 64 + (b2.toNat : Int) % 64 = b2.toNat := by omega
  simp only [figs3, List.foldl_cons, List.foldl_nil, dstep, if_pos, if_neg, Int.reduceEq, if_true, if_false, e0, e1, e2, List.append_assoc, List.cons_append, List.nil_append]
theorem dec_is (ns : List Int) : decOf ns = ns.flatMap row3 := by
  have key : ∀ (ns : List Int) (out : List Int), (figsOf ns).foldl dstep (0, 0, out) = (0, 0, out ++ (ns.flatMap row3).map fun c => (c.toNat : Int)) := by
    intro ns
    induction ns with
    | nil => intro out; simp [figsOf]
    | cons k r ih =>
      intro out
      have e : figsOf (k :: r) = figs3 ((k.fdiv 65536).fmod 256).toNat.toUInt8 ((k.fdiv 256).fmod 256).toNat.toUInt8 (k.fmod 256).toNat.toUInt8 ++ figsOf r := rfl
      rw [e, List.foldl_append, d_row, ih, List.flatMap_cons, List.map_append, List.append_assoc]
      rfl
  unfold decOf dst
  rw [key ns [], List.nil_append, List.map_map]
  have e : ((fun n : Int => n.toNat.toUInt8) ∘ fun c : UInt8 => (c.toNat : Int)) = id := by
    funext c
    show (c.toNat : Int).toNat.toUInt8 = c
    rw [Int.toNat_natCast]
    exact UInt8.ofNat_toNat
  rw [e, List.map_id]
theorem num_is {ns : List Int} (h : ∀ x ∈ ns, 0 ≤ x ∧ x < 16777216) : num256 (decOf ns) = num24 ns := by
  rw [dec_is]
  unfold num256 num24
  generalize (0 : Int) = a
  induction ns generalizing a with
  | nil => rfl
  | cons k r ih =>
    have hk := h k (.head _)
    rw [List.flatMap_cons, List.foldl_append, List.foldl_cons, ← ih (fun x hx => h x (.tail _ hx))]
    congr 1
    simp only [row3, List.foldl_cons, List.foldl_nil]
    rw [byte0 hk.1 hk.2, byte1 hk.1, byte2 hk.1]
    omega
/-- the law's content -/
theorem plain {ns fall : List Int} {lo hi num : Int} (h : ∀ x ∈ ns, 0 ≤ x ∧ x < 16777216) (h0 : 0 < ns.length) (T : TOut ns lo hi num fall) : midsOf ns = [lo, hi] ∧ fallOf (cnt ns) ordr.reverse = fall ∧ num24 ns = num := by
  obtain ⟨a1, a2, ⟨ms, b1, b2, b3⟩, ⟨ms', c1, c2, c3⟩, a5⟩ := T
  refine ⟨?_, ?_, ?_⟩
  · rw [mids_is h0, b3, c3, up_is h b1 b2, up_is h c1 c2]
  · rw [fallOf_spr, down_is h a1 a2]
  · rw [a5, num_is h]
end Mine
end
section
open PySem PySem.W PyProof.Rows PySem.Spec PySem.Calls
set_option maxRecDepth 100000
set_option maxHeartbeats 4000000
namespace Mine
/-- the numbers drawn -/
def drawnOf (ns : List Int) : List Int := [12345678, 62, 9876543, 16777215, 26, 333333] ++ (ns.take 6).map fun a => a % 16777216
theorem drawn_mem (ns : List Int) : ∀ x ∈ drawnOf ns, 0 ≤ x ∧ x < 16777216 := by
  intro x hx
  rcases List.mem_append.mp hx with h | h
  · simp only [List.mem_cons, List.not_mem_nil, or_false] at h
    lia
  · obtain ⟨a, _, rfl⟩ := List.mem_map.mp h
    exact ⟨by lia, by lia⟩
theorem drawn_len (ns : List Int) : 0 < (drawnOf ns).length ∧ (drawnOf ns).length ≤ 12 := by
  unfold drawnOf
  simp only [List.length_append, List.length_map, List.length_take, List.length_cons, List.length_nil]
  lia
theorem ints_mod : ∀ {ns : List Int} {ys : List Value}, CarriedAll ys (List.map (fun a => PyData.int (a.fmod (2 ^ Int.toNat 24))) (List.filter (fun _ => true) ns)) → IntsAre ys (ns.map fun a => a % 16777216) := by
  intro ns ys h
  refine IntsAre.ofCarried ?_
  rw [List.map_map]
  have e : List.filter (fun _ : Int => true) ns = ns := by simp
  rw [e] at h
  have e2 : (fun a : Int => PyData.int (a.fmod (2 ^ Int.toNat 24))) = (PyData.int ∘ fun a => a % 16777216) := by
    funext a
    show PyData.int (a.fmod 16777216) = PyData.int (a % 16777216)
    rw [Int.fmod_eq_emod_of_nonneg _ (by decide)]
  rw [e2] at h
  exact h
theorem ints_drawn {ns : List Int} {ys : List Value} {t1 t2 t3 t4 t5 t6 : Tok} (h : IntsAre ys ((ns.take 6).map fun a => a % 16777216)) :
    IntsAre ([Value.int 12345678 t1, .int 62 t2, .int 9876543 t3, .int 16777215 t4, .int 26 t5, .int 333333 t6] ++ ys) (drawnOf ns) :=
  IntsAre.append (.cons _ _ (.cons _ _ (.cons _ _ (.cons _ _ (.cons _ _ (.cons _ _ .nil)))))) h
theorem add_drawn {prog : Program} {w : World} {A : Around} {E Q : Value → Shared → Prop} {s : Shared} {h₀ : Heap} {L l D : Addr} {m : PySem.Str → Option Value} {news : List (Addr × Obj)} {ns : List Int} {ys : List Value} {t1 t2 t3 t4 t5 t6 : Tok} {n : Nat}
    (F : Fr h₀ L s.heap m) (N : News h₀ L s.heap news) (hl : (l, W.listOf #[.int 12345678 t1, .int 62 t2, .int 9876543 t3, .int 16777215 t4, .int 26 t5, .int 333333 t6] n) ∈ news) (hb : s.heap.IsList D ys.toArray)
    (hc : CarriedAll ys (List.map (fun a => PyData.int (a.fmod (2 ^ Int.toNat 24))) (List.filter (fun _ => true) (ns.take 6))))
    (h : ∀ v h', Fr h₀ L h' m → News h₀ L h' ((s.heap.objs.size, W.listOf (List.toArray v) 0) :: news) → IntsAre v (drawnOf ns) → Q (.ref s.heap.objs.size) { s with heap := h' }) :
    wpAny (model prog w) A (binaryOp .Add (.ref l) (.ref D)) Q E s := by
  have hj := ints_mod hc
  have hz := hj.length
  rw [List.length_map, List.length_take] at hz
  refine add_lists (vs := [.int 12345678 t1, .int 62 t2, .int 9876543 t3, .int 16777215 t4, .int 26 t5, .int 333333 t6]) (ws := ys) F N ⟨_, (N _ hl).1, rfl, _, rfl⟩ hb (fun h' F' N' => h _ h' F' N' (ints_drawn hj)) ?_
  rw [sizeLine_eq]
  simp only [List.length_cons, List.length_nil]
  lia
section
variable {h₀ h h' : Heap} {L R D a : Addr} {m : Str → Option Value} {news : List (Addr × Obj)} {oR oD o : Obj}
theorem ne_of {h : Heap} {a b : Addr} {o : Obj} (e : h.get? a = none) (f : h.get? b = some o) (q : a = b) : False := by rw [q, f] at e; cases e
theorem told_back (F : Fr h₀ L h m) (N : News h₀ L h news) (hN : News h₀ L h [(147, tabObj #[]), (23, tabObj #[])]) (K : Keeps (hideAll h [147, 23]) h') (e1 : h'.get? R = some oR) (f1 : (hideAll h [147, 23]).get? R = none)
    (e2 : h'.get? D = some oD) (f2 : (hideAll h [147, 23]).get? D = none) (g1 : GrownAt 147 h') (g2 : GrownAt 23 h') (hm : (a, o) ∈ news) (ha : o ≠ tabObj #[]) : ∃ p1 p2, Fr h₀ L h' m ∧ News h₀ L h' [(R, oR), (D, oD), (a, o), (23, tabObj p2), (147, tabObj p1)] := by
  obtain ⟨p1, g1⟩ := g1
  obtain ⟨p2, g2⟩ := g2
  have F' := fr_back F hN K
  have st : ∀ b q, h₀.get? b = some q → b ∉ [147, 23] := fun b q e hb => by
    rcases List.mem_cons.mp hb with rfl | hb
    · rw [(hN _ (.head _)).2.2] at e; cases e
    · rw [List.mem_singleton.mp hb, (hN _ (.tail _ (.head _))).2.2] at e; cases e
  have up : ∀ b q, h₀.get? b = some q → (hideAll h [147, 23]).get? b = some q := fun b q e => hideAll_get _ (F.keep b q e) (st b q e)
  have no : ∀ b, (hideAll h [147, 23]).get? b = none → h₀.get? b = none := fun b e => by
    cases q : h₀.get? b with
    | none => rfl
    | some v => rw [up b v q] at e; cases e
  have hL : ∃ oL, (hideAll h [147, 23]).get? L = some oL := by
    obtain ⟨oL, es, ep, hL, r⟩ := F.ns
    refine ⟨oL, hideAll_get _ hL fun hb => ?_⟩
    rcases List.mem_cons.mp hb with q | hb
    · exact (hN _ (.head _)).2.1 q.symm
    · exact (hN _ (.tail _ (.head _))).2.1 (List.mem_singleton.mp hb).symm
  obtain ⟨oL, hL⟩ := hL
  refine ⟨p1, p2, F', List.forall_mem_cons.mpr ⟨⟨e1, (fun q => ne_of f1 hL q), no _ f1⟩, List.forall_mem_cons.mpr ⟨⟨e2, (fun q => ne_of f2 hL q), no _ f2⟩, List.forall_mem_cons.mpr ⟨⟨K _ _ (hideAll_get _ (N _ hm).1 fun hb => ?_), (N _ hm).2⟩, List.forall_mem_cons.mpr ⟨⟨g2, (hN _ (.tail _ (.head _))).2⟩, List.forall_mem_cons.mpr ⟨⟨g1, (hN _ (.head _)).2⟩, List.forall_mem_nil _⟩⟩⟩⟩⟩⟩
  have q := (N _ hm).1
  rcases List.mem_cons.mp hb with e | hb
  · dsimp only at e q
    rw [e, (hN _ (.head _)).1] at q
    exact ha (Option.some.inj q).symm
  · have e := List.mem_singleton.mp hb
    dsimp only at e q
    rw [e, (hN _ (.tail _ (.head _))).1] at q
    exact ha (Option.some.inj q).symm
theorem due_back (F : Fr h₀ L h m) (N : News h₀ L h news) (K : Keeps h h') (e1 : h'.get? R = some oR ∧ h.get? R = none) (e2 : h'.get? D = some oD ∧ h.get? D = none) : Fr h₀ L h' m ∧ News h₀ L h' ((R, oR) :: (D, oD) :: news) := by
  have no : ∀ b, h.get? b = none → h₀.get? b = none := fun b e => by
    cases q : h₀.get? b with
    | none => rfl
    | some v => rw [F.keep b v q] at e; cases e
  obtain ⟨oL, es, ep, hL, r⟩ := F.ns
  refine ⟨keepsFr F K, List.forall_mem_cons.mpr ⟨⟨e1.1, fun q => ?_, no _ e1.2⟩, List.forall_mem_cons.mpr ⟨⟨e2.1, fun q => ?_, no _ e2.2⟩, fun p hp => ⟨K _ _ (N p hp).1, (N p hp).2⟩⟩⟩⟩
  · have := e1.2
    dsimp only at q
    rw [q, hL] at this; cases this
  · have := e2.2
    dsimp only at q
    rw [q, hL] at this; cases this
theorem boot_ghost {w : World} (T : TabsAt [(27, 23), (149, 147)] h) (B : BootAt w.params h) : BootAt w.params (ghostOf h [(27, 23), (149, 147)]) := by
  refine ⟨fun a o e => ghost_ne (B.out a o e) fun hb => ?_⟩
  have hb : a = 23 ∨ a = 147 := by simpa using hb
  rcases hb with rfl | rfl
  · exact absurd e (by simp [Mine02.boots, List.lookup])
  · exact absurd e (by simp [Mine02.boots, List.lookup])
end
section
variable {prog : Program} {w : World} {A : Around} {E Q : Value → Shared → Prop} {s : Shared}
theorem reads_four {h : Heap} {R D : Addr} {lo hi num : Int} {fall : List Int} {t1 t2 t3 : Tok} {out : List Value} {c1 c2 : Nat} (h1 : h.get? R = some (W.listOf (List.toArray [.int lo t1, .int hi t2, .ref D, .int num t3]) c1)) (h2 : h.get? D = some (W.listOf out.toArray c2)) (I : IntsAre out fall) :
    ∃ as, Reads h (.ref R) (.list [.int lo, .int hi, .list (fall.map PyData.int), .int num]) as :=
  ⟨_, reads_list_at h1 rfl rfl (.cons (.int _ _) (.cons (.int _ _) (.cons (reads_newData ⟨_, h2, rfl, _, rfl⟩ (ke_carried I)) (.cons (.int _ _) .nil))))⟩
theorem law_eq {R1 D1 R2 D2 : Addr} {ns fall : List Int} {lo hi num : Int} {t1 t2 t3 tn : Tok} {out mv fv : List Value} {c1 c2 c3 c4 : Nat} (hx : ∀ x ∈ ns, 0 ≤ x ∧ x < 16777216) (h0 : 0 < ns.length) (T : TOut ns lo hi num fall)
    (h1 : s.heap.get? R1 = some (W.listOf (List.toArray [.int lo t1, .int hi t2, .ref D1, .int num t3]) c1)) (h2 : s.heap.get? D1 = some (W.listOf out.toArray c2)) (I1 : IntsAre out fall)
    (h3 : s.heap.get? R2 = some (W.listOf (List.toArray (mv ++ [Value.ref D2, Value.int (num24 ns) tn])) c3)) (h4 : s.heap.get? D2 = some (W.listOf fv.toArray c4)) (I2 : IntsAre mv (midsOf ns)) (I3 : IntsAre fv (fallOf (cnt ns) ordr.reverse))
    (hu : A.units + 64 < cLine) (h : Q (.bool true) s) : wpAny (model prog w) A (compareOp .Eq (.ref R1) (.ref R2)) Q E s := by
  obtain ⟨e1, e2, e3⟩ := plain hx h0 T
  rw [e1] at I2
  rw [e2] at I3
  rw [e3] at h3
  cases I2 with
  | cons _ u1 I2 =>
    cases I2 with
    | cons _ u2 I2 =>
      cases I2
      obtain ⟨as, ra⟩ := reads_four h1 h2 I1
      obtain ⟨bs, rb⟩ := reads_four (D := D2) h3 h4 I3
      refine eq_dataH ra rb ?_ ?_ hu ?_
      · simp [SeqAt.shaped, PyData.canLay0, PyData.canLayAll0, PyData.depth, PyData.depthAll, ke_canLayAll0, ke_depthAll]
      · simp [SeqAt.shaped, PyData.canLay0, PyData.canLayAll0, PyData.depth, PyData.depthAll, ke_canLayAll0, ke_depthAll]
      · have e : PyData.eqv (.list [.int lo, .int hi, .list (fall.map PyData.int), .int num]) (.list [.int lo, .int hi, .list (fall.map PyData.int), .int num]) = true := by
          simp [PyData.eqv, PyData.eqvAll, ked_eqvAll]
        rw [e]; exact h
end
theorem law_post (args : List WData) : PySem.Challenge.rw_pu0025_02.row.claim.post args (.bool true) args = true := by
  refine postW_of (X := true) rfl ?_ rfl
  first
  | exact w_eq_bool (w_res rfl) w_lit
  | (refine (w_eq_bool (w_res rfl) w_lit).trans ?_; rfl)
end Mine
end
section
open PySem PySem.W PyProof.Rows PySem.Spec PySem.Calls
set_option maxRecDepth 100000
set_option maxHeartbeats 4000000
namespace Mine
theorem fin : PySem.Challenge.rw_pu0025_02.Holds := by
  w_top off
  k_with_none
  k_with "binaryOp Add ref ref" => (k_here; (with_reducible show wpAny _ _ (binaryOp Operator.Add (Value.ref _) (Value.ref _)) _ _ _); (rename CarriedAll _ _ => hC9); k_dflt (refine' add_drawn ?dF9 ?dN9 ?dl9 ?db9 hC9 ?_; (case dF9 => k_asm); (case dN9 => k_asm); (case dl9 => k_mem); (case db9 => first | assumption | is_list)); intro vD9 h' F' N' hD9; (try ((rename NewPlain _ _ _ _ => npX); clear npX)); clear hC9; (try dsimp only); (try k_fold))
  k_with "call ref" => (k_here; (with_reducible show wpAny _ _ (call (Value.ref 150) [Value.ref _] _) _ _ _); (k_dflt (refine' told_spec rfl ?lwk1 ?lwk2 ?lwk3 ?lwk4 ?lwkK hb' ?lwkN hc1 hc2 ?lwkd ?lwku ?lwkl hD9 (drawn_mem _) (drawn_len _).1 (drawn_len _).2 ?_; (case lwk1 => k_asm); (case lwk2 => k_asm); (case lwk3 => k_asm); (case lwk4 => k_asm); (case lwkK => first | exact rfl | assumption); (case lwkN => refine news_sub (by k_asm) (List.forall_mem_cons.mpr ⟨by k_mem, List.forall_mem_cons.mpr ⟨by k_mem, List.forall_mem_nil _⟩⟩)); (case lwkd => ktr_room); (case lwku => ktr_units); (case lwkl => is_list))); intro R9 D9 h9 tk9 t1 t2 t3 lo hi num fall out c1 c2 K9 e1 e2 f1 f2 G9 H9 I9 T9; (rename Fr _ _ _ _ => lF'); (rename News _ _ _ _ => lN'); k_dflt (obtain ⟨z1, z2, F9, N9⟩ := told_back lF' lN' (news_sub lN' (List.forall_mem_cons.mpr ⟨by k_mem, List.forall_mem_cons.mpr ⟨by k_mem, List.forall_mem_nil _⟩⟩)) K9 e1 f1 e2 f2 G9 H9 (.head _) (fun q => by cases congrArg Obj.cls q)); clear lF' lN' K9 e1 f1 e2 f2 G9 H9)
  k_with "call ref" => (k_here; (with_reducible show wpAny _ _ (call (Value.ref 157) [Value.ref _] _) _ _ _); (k_dflt (refine' due_spec rfl ?lwk1 ?lwk2 ?lwk3 ?lwk4 ?lwkK ?lwkd ?lwku ?lwkl hD9 (drawn_mem _) (drawn_len _).1 (drawn_len _).2 ?_; (case lwk1 => k_asm); (case lwk2 => k_asm); (case lwk3 => k_asm); (case lwk4 => k_asm); (case lwkK => first | exact rfl | assumption); (case lwkd => ktr_room); (case lwku => ktr_units); (case lwkl => is_list))); intro R8 D8 h8 tk8 tn mv fv c3 c4 K8 g1 g2 I8 J8; (rename Fr _ _ _ _ => lF'); (rename News _ _ _ _ => lN'); (obtain ⟨F8, N8⟩ := due_back lF' lN' K8 g1 g2); clear lF' lN' K8 g1 g2; (try dsimp only); (rename News _ _ _ _ => nE'); k_dflt (refine' law_eq (drawn_mem _) (drawn_len _).1 T9 (in_at nE' (.tail _ (.tail _ (.head _)))) (in_at nE' (.tail _ (.tail _ (.tail _ (.head _))))) I9 (in_at nE' (.head _)) (in_at nE' (.tail _ (.head _))) I8 J8 ?lwku ?_; (case lwku => ktr_units)); (try dsimp only); refine ⟨?lwg, ?lwh⟩; (case lwh => walk_at "GrownAll"); k_dflt (exact goodW_bool (by k_asm) (by assumption) (fun _ => rfl) (law_post _)))
  refine Mine02.hd ?_
  k_fill
  intro w s₀ s₁ mg mb G Y fa o pm cd doc dV kV ho hd hcd hD hmg hg args vals as hpre hlay hrd hwl hlo
  have Y1 := Y.1
  have YB : BootAt w.params s₁.heap := ⟨Y.2⟩
  have KX := km_in_of Y1
  km_tabs Y1
  have X := (Ground.X G).1
  have V := (Ground.X G).2
  refine Ground.open G ?_
  intro T B D TE TW
  try (refine guard_noD D (by decide +kernel) ?_; clear D)
  km_lay T hmg ho hd cd
  clear hmg
  wrow_args hpre hlay hrd hwl hlo
  first | refine callC_kw (enter_call ?_) | refine enter_call ?_
  w_top on
  kn_posts
  w_call any ho hd hcd hD T F
  clear hd
  kn_ghosts F T
  k_drop
  have hb' := boot_ghost hT9 YB
  have hc1 : CodeHd (ghostOf s₁.heap [(27, 23), (149, 147)]) 149 147 := by assumption
  have hc2 : CodeHd (ghostOf s₁.heap [(27, 23), (149, 147)]) 27 23 := by assumption
  (try clear hcd); (try clear hD); (try clear G); (try clear Y Y1 YB); (try clear KX); (try clear hT8); (try clear X V); (try clear TE); (try clear TW); (try clear B); (try clear hT9); (try clear ho)
  all_goals try k_fold
  k_steps
  all_goals w_report
end Mine
end
theorem PySem.Challenge.cw_pu0025_02_holds : PySem.Challenge.rw_pu0025_02.Holds :=
  Mine.fin
