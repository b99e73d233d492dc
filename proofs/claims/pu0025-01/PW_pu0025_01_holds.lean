import PyProof.Rows.All
import Wide.All
import OpenK.AllK
import Wide.FinOn
import PySem.Challenge.RW_pu0025_01
set_option Elab.async false
section
open PySem PySem.W PySem.W.X PyProof.Rows
namespace Mine01
set_option maxRecDepth 100000
set_option maxHeartbeats 8000000
/-- four objects of the start-up beside what the head says -/
noncomputable def boots (P : Params) : Frag := [(0, boot_o_0 P), (1, boot_o_1 P), (4, boot_o_4 P), (5, boot_o_5 P)]
theorem boots_of {P : Params} {h : Heap} (e : [0, 1, 4, 5].map h.get? = (boots P).map fun p => some p.2) : (boots P).In h := by
  have e' : [h.get? 0, h.get? 1, h.get? 4, h.get? 5] = [some (boot_o_0 P), some (boot_o_1 P), some (boot_o_4 P), some (boot_o_5 P)] := e
  simp only [List.cons.injEq, and_true] at e'
  intro a o ho
  simp only [boots, List.lookup_cons] at ho
  repeat' split at ho
  all_goals simp_all
noncomputable def bootHook (H : Hook) : Hook where
  α := H.α × List (Option Obj)
  obs := fun s => (H.obs s, [0, 1, 4, 5].map s.heap.get?)
  val := fun w => (H.val w, (boots w.params).map fun p => some p.2)
  says := fun w h => H.says w h ∧ (boots w.params).In h
  of := fun w s x => ⟨H.of w s (Prod.mk.inj x).1, boots_of (Prod.mk.inj x).2⟩
  keeps := fun w h h' x k => ⟨H.keeps w h h' x.1 k, fun a o e => k _ _ (x.2 a o e)⟩
/-- the statements of the text that the claim's own def hangs on -/
noncomputable def view : Program := { PySem.Challenge.rw_pu0025_01.row.prog with main := { PySem.Challenge.rw_pu0025_01.row.prog.main with body := [0, 2, 3, 4, 6, 7, 9, 10, 11, 12, 13, 14, 21, 22, 25, 26, 27, 28, 29, 30, 31].map fun i => PySem.Challenge.rw_pu0025_01.row.prog.main.body.getD i (.Pass default) } }
noncomputable def loose : List PySem.Str := [PySem.Str.ofString "bytes_types", PySem.Str.ofString "a2b_base64", PySem.Str.ofString "b2a_base64", PySem.Str.ofString "b64encode", PySem.Str.ofString "b64decode", PySem.Str.ofString "_initial_missing", PySem.Str.ofString "reduce"]
local macro_rules | `(tactic| o_law) => `(tactic| refine holds_law (by kernel_rfl) fun said => ?_)
local macro_rules | `(tactic| o_head ($f:term $as*)) => `(tactic| refine holds_open (q := view) (loose := loose) (Xt := fun s => xlAt view [] s && recOk (RowW.records (OpenRow.toRowW (OpenLaw.row PySem.Challenge.rw_pu0025_01))) s) (XP := XL view []) (Yf := Hook.obs (bootHook <| $f $as*)) (Ya := Hook.val (bootHook <| $f $as*)) (YP := Hook.says (bootHook <| $f $as*)) (N := 2362) (by intro w; kernel_rfl) (Hook.of (bootHook <| $f $as*)) (Hook.keeps (bootHook <| $f $as*)) (fun s e => xl_of s (Bool.and_eq_true_iff.mp e).1) XL.keeps (by rfl) (by rfl) (by rfl) (fun s e => recFacts_of (Bool.and_eq_true_iff.mp e).2) (by rfl) (by first | assumption | decide +kernel) (by decide +kernel) ⟨rfl, rfl, rfl, rfl, rfl, by decide +kernel⟩ ?hw ?hc)
open_top hd for PySem.Challenge.rw_pu0025_01
end Mine01
end
open PySem PySem.W PyProof.Rows PySem.Spec PySem.Calls
local macro_rules | `(tactic| k_ne) => `(tactic| (refine neN ?_; (try dsimp only); first | (simp only [*, Nat.ne_of_lt, Nat.ne_of_gt, ne_eq, not_false_eq_true]; done) | (refine Ne.symm ?_; simp only [*, ne_eq, not_false_eq_true]; done)))
section
open PySem PySem.W PyProof.Rows PySem.Spec PySem.Calls
set_option maxRecDepth 100000
namespace Mine
/-- the common signs -/
def B64s : List UInt8 := [65, 66, 67, 68, 69, 70, 71, 72, 73, 74, 75, 76, 77, 78, 79, 80, 81, 82, 83, 84, 85, 86, 87, 88, 89, 90, 97, 98, 99, 100, 101, 102, 103, 104, 105, 106, 107, 108, 109, 110, 111, 112, 113, 114, 115, 116, 117, 118, 119, 120, 121, 122, 48, 49, 50, 51, 52, 53, 54, 55, 56, 57, 43, 47]
def sgB (i : Int) : UInt8 := B64s.getD i.toNat 0
def sg (i : Int) : Int := ((sgB i).toNat : Int)
theorem sg_bounds (i : Int) : 0 ≤ sg i ∧ sg i < 256 := by
  have := (sgB i).toNat_lt
  unfold sg
  lia
section
variable {prog : Program} {w : World} {A : Around} {E Q : Value → Shared → Prop} {s : Shared} {value slice : PySem.Expr} {t u : Tok} {x : Int}
theorem b64_at (h0 : 0 ≤ x) (h1 : x < 64) (h : Q (.int (sg x) s.toks) { s with toks := s.toks + 1 })
    (hs : subscripted slice false (.bytes B64s.toArray t) (.int x u) = operate [.bytes B64s.toArray t, .int x u] (getItem (.bytes B64s.toArray t) (.int x u)) := by with_unfolding_all rfl) :
    wpAny (model prog w) A (subscriptTail value slice (.bytes B64s.toArray t) (.int x u)) Q E s :=
  tail_any (typeIs_bytes s _ t) FB.slot_bytes_getitem.lookup (getItem_bytes (by decide) h0 h1 h) hs
theorem b64_item (h : Q (.int (sg (x % 64)) s.toks) { s with toks := s.toks + 1 })
    (hs : subscripted slice false (.bytes B64s.toArray t) (.int (x % 64) u) = operate [.bytes B64s.toArray t, .int (x % 64) u] (getItem (.bytes B64s.toArray t) (.int (x % 64) u)) := by with_unfolding_all rfl) :
    wpAny (model prog w) A (subscriptTail value slice (.bytes B64s.toArray t) (.int (Builtin.bitAnd x 63) u)) Q E s := by
  rw [bitAnd_m6]
  exact b64_at (by lia) (by lia) h hs
end
theorem and_free : ∀ (n : Nat) (a b : Int), 0 ≤ b → b < 2 ^ n → Builtin.bitAnd (a * 2 ^ n) b = 0
  | 0, a, b, h0, h1 => by
    have : b = 0 := by rw [Int.pow_zero] at h1; lia
    rw [this]
    have := bitAnd_range (a * 2 ^ 0) (Int.le_refl 0)
    lia
  | n + 1, a, b, h0, h1 => by
    have e : (2 : Int) ^ (n + 1) = 2 ^ n * 2 := Int.pow_succ ..
    rw [e] at h1 ⊢
    have e2 : a * (2 ^ n * 2) = a * 2 ^ n * 2 := by rw [Int.mul_assoc]
    rw [e2, kbt_halves]
    have e3 : a * 2 ^ n * 2 / 2 = a * 2 ^ n := Int.mul_ediv_cancel _ (by decide)
    rw [e3, and_free n a (b / 2) (by lia) (by lia), if_neg (by lia)]
    rfl
theorem or_free (n : Nat) (a b : Int) (h0 : 0 ≤ b) (h1 : b < 2 ^ n) : Builtin.bitOr (a * 2 ^ n) b = a * 2 ^ n + b := by
  rw [bitOr_and, and_free n a b h0 h1]; lia
section
variable {prog : Program} {w : World} {A : Around} {E Q : Value → Shared → Prop} {s : Shared} {t u : Tok} {x y z : Int}
theorem and_to (e : Builtin.bitAnd x y = z) (h : Q (.int z s.toks) { s with toks := s.toks + 1 }) : wpAny (model prog w) A (binaryOp .BitAnd (.int x t) (.int y u)) Q E s := by
  subst e; exact and_int h
theorem or_to (e : Builtin.bitOr x y = z) (h : Q (.int z s.toks) { s with toks := s.toks + 1 }) : wpAny (model prog w) A (binaryOp .BitOr (.int x t) (.int y u)) Q E s := by
  subst e; exact or_int h
theorem shl_to (c : Int) (k : Nat) (hy : y = k) (hk : (2 : Int) ^ k = c) (hb : k ≤ 1000000) (h1 : x.natAbs < 2 ^ 64) (h : Q (.int (x * c) s.toks) { s with toks := s.toks + 1 }) : wpAny (model prog w) A (binaryOp .LShift (.int x t) (.int y u)) Q E s := by
  subst hy hk; exact lshift_int_small (by lia) (by lia) h1 h
theorem shr_to (c : Int) (k : Nat) (hy : y = k) (hk : (2 : Int) ^ k = c) (h : Q (.int (x / c) s.toks) { s with toks := s.toks + 1 }) : wpAny (model prog w) A (binaryOp .RShift (.int x t) (.int y u)) Q E s := by
  subst hy hk
  refine rshift_int (by lia) ?_
  rw [Int.fdiv_eq_ediv_of_nonneg _ (by exact Int.le_of_lt (kbt_pos _))]
  exact h
end
theorem u8_lt (b : UInt8) : (b.toNat : Int) < 256 := by have := b.toNat_lt; lia
theorem or8 (a b : Int) (h0 : 0 ≤ b) (h1 : b < 256) : Builtin.bitOr (a * 256) b = a * 256 + b := or_free 8 a b h0 h1
theorem or6 (a b : Int) (h0 : 0 ≤ b) (h1 : b < 64) : Builtin.bitOr (a * 64) b = a * 64 + b := or_free 6 a b h0 h1
theorem or4 (a b : Int) (h0 : 0 ≤ b) (h1 : b < 16) : Builtin.bitOr (a * 16) b = a * 16 + b := or_free 4 a b h0 h1
theorem or2 (a b : Int) (h0 : 0 ≤ b) (h1 : b < 4) : Builtin.bitOr (a * 4) b = a * 4 + b := or_free 2 a b h0 h1
theorem sg_back (i : Int) : (sg i).toNat.toUInt8 = sgB i := by
  unfold sg
  rw [Int.toNat_natCast]
  exact UInt8.ofNat_toNat
/-- the writing of three octets -/
def enc3 (b0 b1 b2 : UInt8) : List UInt8 :=
  [sgB ((b0.toNat : Int) / 4 % 64), sgB (((b0.toNat : Int) * 256 + b1.toNat) / 16 % 64), sgB (((b1.toNat : Int) * 256 + b2.toNat) / 64 % 64), sgB ((b2.toNat : Int) % 64)]
end Mine
end
section
open PySem PySem.W PyProof.Rows PySem.Spec PySem.Calls
set_option maxRecDepth 100000
namespace Mine
/-- all that stood stands -/
def Keeps (h h' : Heap) : Prop := ∀ b o, h.get? b = some o → h'.get? b = some o
theorem Keeps.refl (h : Heap) : Keeps h h := fun _ _ e => e
theorem Keeps.trans {a b c : Heap} (x : Keeps a b) (y : Keeps b c) : Keeps a c := fun p o e => y p o (x p o e)
theorem keepsFr {h₀ h h' : Heap} {L : Addr} {m : Str → Option Value} (F : Fr h₀ L h m) (k : Keeps h h') : Fr h₀ L h' m := by
  obtain ⟨oL, a1, a2, hL, a3⟩ := F.ns
  exact ⟨⟨oL, a1, a2, k _ _ hL, a3⟩, fun b o e => k _ _ (F.keep b o e), F.above⟩
theorem keepsNews {h₀ h h' : Heap} {L : Addr} {news : List (Addr × Obj)} (N : News h₀ L h news) (k : Keeps h h') : News h₀ L h' news := fun p hp => ⟨k _ _ (N p hp).1, (N p hp).2⟩
section
variable {prog : Program} {w : World} {A₀ A : Around} {s : Shared} {base h₀ : Heap} {outer : List Env} {L : Addr} {m mg mb : Str → Option Value} {env : Env} {E : Value → Shared → Prop} {Q : Value → Shared → Prop}
  {K : Frag} {p : Program} {loose : List Str} {mean : ExcName → Option Value}
  {name qual : Str} {params : Arguments} {body : List Stmt} {scope : Scope} {dV kV doc pm cdv ct oc : Value} {an od : Option Addr} {osl : Array (Option Value)} {f : Addr} {pos : List Value} {kw : List (Str × Value)} {binds : List (Str × Value)}
/-- a call of a def of the written part: all that stood at the call is the new frame's ground -/
theorem callK (B : Below A₀ base outer h₀) (F : Fr h₀ L s.heap m) (X₀ : K.In h₀) (T : Top p loose mean mg mb h₀) (hA : A.frames = some (env :: outer)) (hf : env.frame = some L) (hke : env.scope.kind = .function)
    (ho : K.lookup f = some ⟨oc, od, .func (fnOf name qual params body scope dV kV doc pm an cdv ct), osl⟩) (hcd : codeIn K cdv qual = true) (hroom : A.depth < recursionLimit)
    (hbind : BindsTo s (fnOf name qual params body scope dV kV doc pm an cdv ct) ⟨pos, kw⟩ binds) (hloc : ∀ y ∈ binds, scope.names.lookup y.1 = some .local)
    (hcell : ∀ x ∈ scope.names, x.2 ≠ .cell) (hco : scope.isCoroutine = false) (hgen : scope.isGenerator = false) (hk : scope.kind = .function)
    (h : ∀ L' h₁, Fr s.heap L' h₁ (fun y => binds.reverse.lookup y) → News s.heap L' h₁ [] → Below A base (env :: outer) s.heap → K.In s.heap → Top p loose mean mg mb s.heap →
      wpAny (model prog w) (A.deeper (envOf qual scope L' f cdv)) (execs body (envOf qual scope L' f cdv))
        (fun fl s' => Q (match fl with | .ret v => v | _ => .none) s')
        (fun e s' => wpAny (model prog w) (A.deeper (envOf qual scope L' f cdv)) (leaving (envOf qual scope L' f cdv) e) (fun _ s'' => E e s'') (fun e' s'' => E e' s'') s')
        { s with heap := h₁, toks := s.toks + binds.length }) : wpAny (model prog w) A (call (.ref f) pos kw) Q E s := by
  refine wpAny_call ?_
  have X := X₀.keeps F.keep
  obtain ⟨_, BG, st, _⟩ := groundX (R := fun r s' => match r with | .ok (.ret v) => Q v s' | .ok _ => False | .error e => E e s') B F News.nil hA hf hke
  refine codeAny_call_def (fd := fnOf name qual params body scope dV kV doc pm an cdv ct) (body := body) (binds := binds) hroom (X _ _ ho) rfl (T.nolimit.keeps F.keep) (codeRec_of X hcd) rfl hbind hcell hloc (fun h₁ hns hk₁ => ?_) hco hgen hk
  exact h s.heap.objs.size h₁ ⟨hns, hk₁, Nat.le_refl _⟩ News.nil BG X (T.keeps F.keep)
end
end Mine
end
section
open PySem PySem.W PyProof.Rows PySem.Spec PySem.Calls
set_option maxRecDepth 100000
set_option maxHeartbeats 4000000
namespace Mine
section
variable {w : World} {dp un : Nat} {gd : Option (List Code)} {cn : Str} {cs : Scope} {a : Addr} {ccd : Value} {cl : List (Str × Addr)} {outer : List Env} {A₀ : Around} {base h₀ : Heap} {L : Addr} {m mg mb : Str → Option Value} {s : Shared} {Q E : Value → Shared → Prop}
  {p : Program} {loose : List Str} {mean : ExcName → Option Value}
theorem truth_spec {b : Bool} : PySem.Challenge.rw_pu0025_01.foot = PySem.Challenge.rw_pu0025_01.foot → Below A₀ base outer h₀ → Fr h₀ L s.heap m → (Mine01.hd.heap_1 w.params).In h₀ → Top p loose mean mg mb h₀ → cs.kind = .function → dp + 5 < recursionLimit → un + 40 < cLine →
    (∀ h' tk', Keeps s.heap h' → Q (.bool b) { s with heap := h', toks := tk' }) →
    wpAny (model PySem.Challenge.rw_pu0025_01.row.prog w) (ktrTop dp un gd cn cs L a ccd cl outer) (call (.ref 90) [.bool b]) Q E s := by
  w_top off
  k_with_none
  k_with "call type:type" => (k_here; (with_reducible show wpAny _ _ (call (Value.type "type") [Value.bytes _ _]) _ _ _); k_dflt (refine call_type_of (Tx := "bytes") rfl (by decide +kernel) ?_))
  k_fill
  intro _ B F X T hk hd hu hret
  k_dflt (refine' callK (by assumption) (by assumption) (by assumption) (by assumption) rfl rfl (by assumption) ?k6 ?k7 ?k8 ?k9 ?kB ?c5 ?c2 ?c3 ?c4 ?_; (case k6 => k_is); (case k7 => k_is); (case k8 => ktr_room); (case k9 => first | exact BindsTo.of_eq rfl | exact binds_K (by k_in) rfl (by k_is) rfl rfl rfl); (case c5 => decide); (case kB => exact locs rfl); (case c2 => exact rfl); (case c3 => exact rfl); (case c4 => exact rfl))
  intro L' h' F' N' B' X' T'
  clear B F X T
  k_steps
  all_goals (subst_vars; exact hret _ _ (by assumption : Fr s.heap _ _ _).keep)
theorem buffer_spec {b : Array UInt8} {t : Tok} : PySem.Challenge.rw_pu0025_01.foot = PySem.Challenge.rw_pu0025_01.foot → Below A₀ base outer h₀ → Fr h₀ L s.heap m → (Mine01.hd.heap_1 w.params).In h₀ → Top p loose mean mg mb h₀ → cs.kind = .function → dp + 5 < recursionLimit → un + 40 < cLine →
    (∀ h' tk', Keeps s.heap h' → Q (.bytes b t) { s with heap := h', toks := tk' }) →
    wpAny (model PySem.Challenge.rw_pu0025_01.row.prog w) (ktrTop dp un gd cn cs L a ccd cl outer) (call (.ref 83) [.bytes b t]) Q E s := by
  w_top off
  k_with_none
  k_with "call type:type" => (k_here; (with_reducible show wpAny _ _ (call (Value.type "type") [Value.bytes _ _]) _ _ _); k_dflt (refine call_type_of (Tx := "bytes") rfl (by decide +kernel) ?_))
  k_fill
  intro _ B F X T hk hd hu hret
  k_dflt (refine' callK (by assumption) (by assumption) (by assumption) (by assumption) rfl rfl (by assumption) ?k6 ?k7 ?k8 ?k9 ?kB ?c5 ?c2 ?c3 ?c4 ?_; (case k6 => k_is); (case k7 => k_is); (case k8 => ktr_room); (case k9 => first | exact BindsTo.of_eq rfl | exact binds_K (by k_in) rfl (by k_is) rfl rfl rfl); (case c5 => decide); (case kB => exact locs rfl); (case c2 => exact rfl); (case c3 => exact rfl); (case c4 => exact rfl))
  intro L' h' F' N' B' X' T'
  clear B F X T
  k_steps
  all_goals (subst_vars; exact hret _ _ (by assumption : Fr s.heap _ _ _).keep)
theorem abuffer_spec {b : Array UInt8} {t : Tok} : PySem.Challenge.rw_pu0025_01.foot = PySem.Challenge.rw_pu0025_01.foot → Below A₀ base outer h₀ → Fr h₀ L s.heap m → (Mine01.hd.heap_1 w.params).In h₀ → Top p loose mean mg mb h₀ → cs.kind = .function → dp + 5 < recursionLimit → un + 40 < cLine →
    (∀ h' tk', Keeps s.heap h' → Q (.bytes b t) { s with heap := h', toks := tk' }) →
    wpAny (model PySem.Challenge.rw_pu0025_01.row.prog w) (ktrTop dp un gd cn cs L a ccd cl outer) (call (.ref 76) [.bytes b t]) Q E s := by
  w_top off
  k_with_none
  k_with "call type:type" => (k_here; (with_reducible show wpAny _ _ (call (Value.type "type") [Value.bytes _ _]) _ _ _); k_dflt (refine call_type_of (Tx := "bytes") rfl (by decide +kernel) ?_))
  k_fill
  intro _ B F X T hk hd hu hret
  k_dflt (refine' callK (by assumption) (by assumption) (by assumption) (by assumption) rfl rfl (by assumption) ?k6 ?k7 ?k8 ?k9 ?kB ?c5 ?c2 ?c3 ?c4 ?_; (case k6 => k_is); (case k7 => k_is); (case k8 => ktr_room); (case k9 => first | exact BindsTo.of_eq rfl | exact binds_K (by k_in) rfl (by k_is) rfl rfl rfl); (case c5 => decide); (case kB => exact locs rfl); (case c2 => exact rfl); (case c3 => exact rfl); (case c4 => exact rfl))
  intro L' h' F' N' B' X' T'
  clear B F X T
  k_steps
  all_goals (subst_vars; exact hret _ _ (by assumption : Fr s.heap _ _ _).keep)
theorem ddata_spec {b : Array UInt8} {t : Tok} : PySem.Challenge.rw_pu0025_01.foot = PySem.Challenge.rw_pu0025_01.foot → Below A₀ base outer h₀ → Fr h₀ L s.heap m → (Mine01.hd.heap_1 w.params).In h₀ → Top p loose mean mg mb h₀ → cs.kind = .function → dp + 5 < recursionLimit → un + 40 < cLine →
    (∀ h' tk', Keeps s.heap h' → Q (.bytes b t) { s with heap := h', toks := tk' }) →
    wpAny (model PySem.Challenge.rw_pu0025_01.row.prog w) (ktrTop dp un gd cn cs L a ccd cl outer) (call (.ref 56) [.bytes b t]) Q E s := by
  w_top off
  k_with_none
  k_fill
  intro _ B F X T hk hd hu hret
  k_dflt (refine' callK (by assumption) (by assumption) (by assumption) (by assumption) rfl rfl (by assumption) ?k6 ?k7 ?k8 ?k9 ?kB ?c5 ?c2 ?c3 ?c4 ?_; (case k6 => k_is); (case k7 => k_is); (case k8 => ktr_room); (case k9 => first | exact BindsTo.of_eq rfl | exact binds_K (by k_in) rfl (by k_is) rfl rfl rfl); (case c5 => decide); (case kB => exact locs rfl); (case c2 => exact rfl); (case c3 => exact rfl); (case c4 => exact rfl))
  intro L' h' F' N' B' X' T'
  clear B F X T
  k_steps
  all_goals (subst_vars; exact hret _ _ (by assumption : Fr s.heap _ _ _).keep)
/-- a sign's figure -/
def b64v (c : Int) : Int := if 65 ≤ c ∧ c ≤ 90 then c - 65 else if 97 ≤ c ∧ c ≤ 122 then c - 71 else if 48 ≤ c ∧ c ≤ 57 then c + 4 else if c = 43 then 62 else if c = 47 then 63 else 64
theorem value_spec {c : Int} {t : Tok} : PySem.Challenge.rw_pu0025_01.foot = PySem.Challenge.rw_pu0025_01.foot → Below A₀ base outer h₀ → Fr h₀ L s.heap m → (Mine01.hd.heap_1 w.params).In h₀ → Top p loose mean mg mb h₀ → cs.kind = .function → dp + 5 < recursionLimit → un + 40 < cLine →
    (∀ v t' h' tk', v = b64v c → Keeps s.heap h' → Q (.int v t') { s with heap := h', toks := tk' }) →
    wpAny (model PySem.Challenge.rw_pu0025_01.row.prog w) (ktrTop dp un gd cn cs L a ccd cl outer) (call (.ref 97) [.int c t]) Q E s := by
  w_top off
  k_with_none
  k_fill
  intro _ B F X T hk hd hu hret
  k_dflt (refine' callK (by assumption) (by assumption) (by assumption) (by assumption) rfl rfl (by assumption) ?k6 ?k7 ?k8 ?k9 ?kB ?c5 ?c2 ?c3 ?c4 ?_; (case k6 => k_is); (case k7 => k_is); (case k8 => ktr_room); (case k9 => first | exact BindsTo.of_eq rfl | exact binds_K (by k_in) rfl (by k_is) rfl rfl rfl); (case c5 => decide); (case kB => exact locs rfl); (case c2 => exact rfl); (case c3 => exact rfl); (case c4 => exact rfl))
  intro L' h' F' N' B' X' T'
  clear B F X T
  k_steps
  all_goals (exact hret _ _ _ _ (by (unfold b64v; repeat' split) <;> omega) (by assumption : Fr s.heap _ _ _).keep)
end
end Mine
end
section
open PySem PySem.W PyProof.Rows PySem.Spec PySem.Calls
set_option maxRecDepth 100000
namespace Mine
theorem bytes_four {prog : Program} {w : World} {A : Around} {E Q : Value → Shared → Prop} {s : Shared} {h₀ : Heap} {L l : Addr} {news : List (Addr × Obj)} {n : Nat} {y0 y1 y2 y3 : Int} {t0 t1 t2 t3 : Tok}
    (N : News h₀ L s.heap news) (hm : (l, W.listOf ((((#[].push (.int (sg y0) t0)).push (.int (sg y1) t1)).push (.int (sg y2) t2)).push (.int (sg y3) t3)) n) ∈ news) (hh : A.handled = none)
    (h : ∀ h' t k, Keeps s.heap h' → Q (.bytes [sgB y0, sgB y1, sgB y2, sgB y3].toArray t) { s with heap := h', toks := k }) : wpAny (model prog w) A (call (.type "bytes") [.ref l]) Q E s := by
  refine call_bytes_ints (vs := [.int (sg y0) t0, .int (sg y1) t1, .int (sg y2) t2, .int (sg y3) t3]) (ns := [sg y0, sg y1, sg y2, sg y3]) ⟨_, (N _ hm).1, rfl, _, rfl⟩ (.cons _ _ (.cons _ _ (.cons _ _ (.cons _ _ .nil)))) ?_ ?_ hh ?_
  · simp only [List.forall_mem_cons, List.not_mem_nil, false_implies, implies_true, and_true]
    exact ⟨sg_bounds _, sg_bounds _, sg_bounds _, sg_bounds _⟩
  · rw [sizeLine_eq]; exact Nat.le_of_ble_eq_true rfl
  · intro h' t k hk
    have := h h' t k hk
    simpa only [byteArr, List.map, sg_back] using this
end Mine
end
section
open PySem PySem.W PyProof.Rows PySem.Spec PySem.Calls
set_option maxRecDepth 100000
set_option maxHeartbeats 4000000
namespace Mine
section
variable {w : World} {dp un : Nat} {gd : Option (List Code)} {cn : Str} {cs : Scope} {a : Addr} {ccd : Value} {cl : List (Str × Addr)} {outer : List Env} {A₀ : Around} {base h₀ : Heap} {L : Addr} {m mg mb : Str → Option Value} {s : Shared} {Q E : Value → Shared → Prop}
  {p : Program} {loose : List Str} {mean : ExcName → Option Value}
theorem fdiv4 (x : Int) : x.fdiv (2 ^ (0 + 8 - 6 : Int).toNat) = x / 4 := Int.fdiv_eq_ediv_of_nonneg _ (by decide)
theorem fdiv16 (x : Int) : x.fdiv (2 ^ (0 + 8 - 6 + 8 - 6 : Int).toNat) = x / 16 := Int.fdiv_eq_ediv_of_nonneg _ (by decide)
theorem fdiv64 (x : Int) : x.fdiv (2 ^ (0 + 8 - 6 + 8 - 6 + 8 - 6 : Int).toNat) = x / 64 := Int.fdiv_eq_ediv_of_nonneg _ (by decide)
theorem fdiv1 (x : Int) : x.fdiv (2 ^ (0 + 8 - 6 + 8 - 6 + 8 - 6 - 6 : Int).toNat) = x / 1 := Int.fdiv_eq_ediv_of_nonneg _ (by decide)
theorem enc3_is (b0 b1 b2 : UInt8) : enc3 b0 b1 b2 = [sgB (((0 * 256 + (b0.toNat : Int)) % 65536).fdiv (2 ^ (0 + 8 - 6 : Int).toNat) % 64), sgB ((((0 * 256 + (b0.toNat : Int)) % 65536 * 256 + b1.toNat) % 65536).fdiv (2 ^ (0 + 8 - 6 + 8 - 6 : Int).toNat) % 64), sgB (((((0 * 256 + (b0.toNat : Int)) % 65536 * 256 + b1.toNat) % 65536 * 256 + b2.toNat) % 65536).fdiv (2 ^ (0 + 8 - 6 + 8 - 6 + 8 - 6 : Int).toNat) % 64), sgB (((((0 * 256 + (b0.toNat : Int)) % 65536 * 256 + b1.toNat) % 65536 * 256 + b2.toNat) % 65536).fdiv (2 ^ (0 + 8 - 6 + 8 - 6 + 8 - 6 - 6 : Int).toNat) % 64)] := by
  have h0 := b0.toNat_lt
  have h1 := b1.toNat_lt
  have h2 := b2.toNat_lt
  rw [fdiv4, fdiv16, fdiv64, fdiv1]
  unfold enc3
  congr 1
  · congr 1; omega
  · congr 1
    · congr 1; omega
    · congr 1
      · congr 1; omega
      · congr 1; congr 1; omega
theorem b2a_spec {b0 b1 b2 : UInt8} {t : Tok} : PySem.Challenge.rw_pu0025_01.foot = PySem.Challenge.rw_pu0025_01.foot → Below A₀ base outer h₀ → Fr h₀ L s.heap m → (Mine01.hd.heap_1 w.params).In h₀ → Top p loose mean mg mb h₀ → cs.kind = .function → dp + 10 < recursionLimit → un + 80 < cLine →
    (∀ t' h' tk', Keeps s.heap h' → Q (.bytes (enc3 b0 b1 b2).toArray t') { s with heap := h', toks := tk' }) →
    wpAny (model PySem.Challenge.rw_pu0025_01.row.prog w) (ktrTop dp un gd cn cs L a ccd cl outer) (call (.ref 113) [.bytes #[b0, b1, b2] t] [(Str.ofString "newline", .bool false)]) Q E s := by
  w_top off
  k_with_none
  k_with "call ref" => (k_here; (with_reducible show wpAny _ _ (call (Value.ref 83) [Value.bytes _ _]) _ _ _); (k_dflt (refine' buffer_spec rfl ?k1 ?k2 ?k3 ?k4 ?kK ?kd ?ku ?_; (case k1 => k_asm); (case k2 => k_asm); (case k3 => k_asm); (case k4 => k_asm); (case kK => first | exact rfl | assumption); (case kd => ktr_room); (case ku => ktr_units))); intro  h9 tk9 K9; (have F9 := keepsFr (by k_asm) K9); (have N9 := keepsNews (by k_asm) K9); clear K9; (try dsimp only); (try k_fold))
  k_with "call ref" => (k_here; (with_reducible show wpAny _ _ (call (Value.ref 90) [Value.bool _]) _ _ _); (k_dflt (refine' truth_spec rfl ?k1 ?k2 ?k3 ?k4 ?kK ?kd ?ku ?_; (case k1 => k_asm); (case k2 => k_asm); (case k3 => k_asm); (case k4 => k_asm); (case kK => first | exact rfl | assumption); (case kd => ktr_room); (case ku => ktr_units))); intro  h9 tk9 K9; (have F9 := keepsFr (by k_asm) K9); (have N9 := keepsNews (by k_asm) K9); clear K9; (try dsimp only); (try k_fold))
  k_with "pyIter bytes" => ((with_reducible show wpAny _ _ (pyIter (Value.bytes _ _)) (fun it s₂ => LoopAtV _ _ _ _ _ _ _ _ _ it s₂) _ _); k_here; (rename Fr _ _ _ _ => lF'); (rename News _ _ _ _ => lN'); (with_unfolding_all refine iter_bytesUnr (l := [((_ : UInt8).toNat : Int), ((_ : UInt8).toNat : Int), ((_ : UInt8).toNat : Int)]) rfl lF' lN' rfl ?_); clear lF' lN'; intro i' l1; (try k_lt l1))
  k_with "subscriptTail" => (k_here; (with_reducible show wpAny _ _ (subscriptTail _ _ (Value.bytes _ _) (Value.int (_ % 64) _)) _ _ _); (with_unfolding_all refine b64_at ?h0 ?h1 ?_; (case h0 => exact Int.emod_nonneg _ (by decide)); (case h1 => exact Int.emod_lt_of_pos _ (by decide))))
  k_with "binaryOp BitAnd int int" => (k_here; k_dflt (first | refine and_to (bitAnd_m6 _) ?_ | refine and_to (bitAnd_m16 _) ?_))
  k_with "binaryOp BitOr int int" => (k_here; k_dflt (refine or_to (or8 _ _ (Int.natCast_nonneg _) (u8_lt _)) ?_))
  k_with "binaryOp LShift int int" => (k_here; k_dflt (refine shl_to 256 8 rfl rfl (by decide) (by omega) ?_))
  k_with "binaryOp RShift int int" => (k_here; k_dflt (first | refine shr_to 4 2 rfl rfl ?_ | refine shr_to 16 4 rfl rfl ?_ | refine shr_to 64 6 rfl rfl ?_ | refine shr_to 1 0 rfl rfl ?_))
  k_with "call type:bytes" => (k_here; (with_reducible show wpAny _ _ (call (Value.type _) [Value.ref _]) _ _ _); k_dflt (refine' bytes_four ?N ?m rfl ?_; (case N => k_asm); (case m => k_mem)); intro h9 t9 tk9 K9; (have F9 := keepsFr (by k_asm) K9); (have N9 := keepsNews (by k_asm) K9); clear K9; (try dsimp only))
  k_fill
  intro _ B F X T hk hd hu hret
  k_dflt (refine' callK (by assumption) (by assumption) (by assumption) (by assumption) rfl rfl (by assumption) ?k6 ?k7 ?k8 ?k9 ?kB ?c5 ?c2 ?c3 ?c4 ?_; (case k6 => k_is); (case k7 => k_is); (case k8 => ktr_room); (case k9 => first | exact BindsTo.of_eq rfl | exact binds_K (by k_in) rfl (by k_is) rfl rfl rfl); (case c5 => decide); (case kB => exact locs rfl); (case c2 => exact rfl); (case c3 => exact rfl); (case c4 => exact rfl))
  intro L' h' F' N' B' X' T'
  clear B F X T
  k_steps
  all_goals (rw [enc3_is] at hret; exact hret _ _ _ (by assumption : Fr s.heap _ _ _).keep)
end
end Mine
end
section
open PySem PySem.W PyProof.Rows PySem.Spec PySem.Calls
set_option maxRecDepth 100000
set_option maxHeartbeats 4000000
namespace Mine
section
variable {w : World} {dp un : Nat} {gd : Option (List Code)} {cn : Str} {cs : Scope} {a : Addr} {ccd : Value} {cl : List (Str × Addr)} {outer : List Env} {A₀ : Around} {base h₀ : Heap} {L : Addr} {m mg mb : Str → Option Value} {s : Shared} {Q E : Value → Shared → Prop}
  {p : Program} {loose : List Str} {mean : ExcName → Option Value}
theorem enc_spec {b0 b1 b2 : UInt8} {t : Tok} : PySem.Challenge.rw_pu0025_01.foot = PySem.Challenge.rw_pu0025_01.foot → Below A₀ base outer h₀ → Fr h₀ L s.heap m → (Mine01.hd.heap_1 w.params).In h₀ → Top p loose mean mg mb h₀ → cs.kind = .function → dp + 15 < recursionLimit → un + 120 < cLine →
    (∀ t' h' tk', Keeps s.heap h' → Q (.bytes (enc3 b0 b1 b2).toArray t') { s with heap := h', toks := tk' }) →
    wpAny (model PySem.Challenge.rw_pu0025_01.row.prog w) (ktrTop dp un gd cn cs L a ccd cl outer) (call (.ref 121) [.bytes #[b0, b1, b2] t]) Q E s := by
  w_top off
  k_with_none
  k_with "call ref" => (k_here; (with_reducible show wpAny _ _ (call (Value.ref 113) [Value.bytes _ _] _) _ _ _); (k_dflt (refine' b2a_spec rfl ?k1 ?k2 ?k3 ?k4 ?kK ?kd ?ku ?_; (case k1 => k_asm); (case k2 => k_asm); (case k3 => k_asm); (case k4 => k_asm); (case kK => first | exact rfl | assumption); (case kd => ktr_room); (case ku => ktr_units))); intro t9 h9 tk9 K9; (have F9 := keepsFr (by k_asm) K9); (have N9 := keepsNews (by k_asm) K9); clear K9; (try dsimp only); (try k_fold))
  k_fill
  intro _ B F X T hk hd hu hret
  k_dflt (refine' callK (by assumption) (by assumption) (by assumption) (by assumption) rfl rfl (by assumption) ?k6 ?k7 ?k8 ?k9 ?kB ?c5 ?c2 ?c3 ?c4 ?_; (case k6 => k_is); (case k7 => k_is); (case k8 => ktr_room); (case k9 => first | exact BindsTo.of_eq rfl | exact binds_K (by k_in) rfl (by k_is) rfl rfl rfl); (case c5 => decide); (case kB => exact locs rfl); (case c2 => exact rfl); (case c3 => exact rfl); (case c4 => exact rfl))
  intro L' h' F' N' B' X' T'
  clear B F X T
  k_steps
  all_goals (exact hret _ _ _ (by assumption : Fr s.heap _ _ _).keep)
end
end Mine
end
section
open PySem PySem.W PyProof.Rows PySem.Spec PySem.Calls
set_option maxRecDepth 100000
set_option maxHeartbeats 4000000
namespace Mine
theorem sg_of (i : Nat) (h : i < 64) : sg (i : Int) ≠ 61 ∧ b64v (sg (i : Int)) = i := by
  have : ∀ j : Fin 64, sg ((j : Nat) : Int) ≠ 61 ∧ b64v (sg ((j : Nat) : Int)) = ((j : Nat) : Int) := by decide +kernel
  exact this ⟨i, h⟩
theorem sg_ne {f : Int} (h0 : 0 ≤ f) (h1 : f < 64) : sg f ≠ 61 := by
  have := sg_of f.toNat (by lia)
  rw [show ((f.toNat : Nat) : Int) = f by lia] at this
  exact this.1
theorem b64v_sg {f : Int} (h0 : 0 ≤ f) (h1 : f < 64) : b64v (sg f) = f := by
  have := sg_of f.toNat (by lia)
  rw [show ((f.toNat : Nat) : Int) = f by lia] at this
  exact this.2
/-- one sign read -/
def dstep (c : Int × Int × List Int) (f : Int) : Int × Int × List Int :=
  if c.1 = 0 then (1, f, c.2.2) else if c.1 = 1 then (2, f % 16, c.2.2 ++ [c.2.1 * 4 + f / 16]) else if c.1 = 2 then (3, f % 4, c.2.2 ++ [c.2.1 * 16 + f / 4]) else (0, 0, c.2.2 ++ [c.2.1 * 64 + f])
def dst (fs : List Int) : Int × Int × List Int := fs.foldl dstep (0, 0, [])
/-- what holds between the turns -/
structure DInv (pre out : List Int) (q l p i : Int) : Prop where
  dfs : ∃ fs : List Int, pre = fs.map sg ∧ (∀ f ∈ fs, 0 ≤ f ∧ f < 64) ∧ dst fs = (q, l, out)
  dq : q = (pre.length : Int) % 4
  dl0 : 0 ≤ l
  dl1 : l < 64
  dl2 : q = 2 → l < 16
  dl3 : q = 3 → l < 4
  dp : p = 0
  di : i = pre.length
  dlen : out.length ≤ pre.length
  douts : ∀ x ∈ out, 0 ≤ x ∧ x < 256
theorem DInv.start : DInv [] [] 0 0 0 0 := ⟨⟨[], rfl, (fun _ h => by cases h), rfl⟩, rfl, by decide, by decide, by decide, by decide, rfl, rfl, Nat.le_refl _, (fun _ h => by cases h)⟩
theorem fs_snoc {pre : List Int} {f : Int} {c c' : Int × Int × List Int} (h : ∃ fs : List Int, pre = fs.map sg ∧ (∀ f ∈ fs, 0 ≤ f ∧ f < 64) ∧ dst fs = c) (h0 : 0 ≤ f) (h1 : f < 64) (e : dstep c f = c') :
    ∃ fs : List Int, pre ++ [sg f] = fs.map sg ∧ (∀ f ∈ fs, 0 ≤ f ∧ f < 64) ∧ dst fs = c' := by
  obtain ⟨fs, rfl, hf, hd⟩ := h
  refine ⟨fs ++ [f], by simp, ?_, ?_⟩
  · intro g hg
    rcases List.mem_append.mp hg with hg | hg
    · exact hf g hg
    · rw [List.mem_singleton.mp hg]; exact ⟨h0, h1⟩
  · unfold dst at hd ⊢
    rw [List.foldl_append, hd]
    exact e
theorem DInv.t0 {pre out : List Int} {q l p i f i' : Int} (h : DInv pre out q l p i) (h0 : 0 ≤ f) (h1 : f < 64) (hq : q = 0) (hi : i' = i + 1) : DInv (pre ++ [sg f]) out 1 f 0 i' := by
  obtain ⟨a1, a2, a3, a4, a5, a6, a7, a8, a9, a10⟩ := h
  refine ⟨fs_snoc a1 h0 h1 (by simp [dstep, hq]), ?_, h0, h1, by lia, by lia, rfl, ?_, ?_, a10⟩ <;> simp only [List.length_append, List.length_singleton] <;> lia
theorem outs_snoc {out : List Int} {v : Int} (h : ∀ x ∈ out, 0 ≤ x ∧ x < 256) (hv : 0 ≤ v ∧ v < 256) : ∀ x ∈ out ++ [v], 0 ≤ x ∧ x < 256 := by
  intro x hx
  rcases List.mem_append.mp hx with hx | hx
  · exact h x hx
  · rw [List.mem_singleton.mp hx]; exact hv
theorem DInv.t1 {pre out : List Int} {q l p i f i' : Int} (h : DInv pre out q l p i) (h0 : 0 ≤ f) (h1 : f < 64) (hq : q = 1) {l' v : Int} (hv : v = l * 4 + f / 16) (hl : l' = f % 16) (hi : i' = i + 1) : DInv (pre ++ [sg f]) (out ++ [v]) 2 l' 0 i' := by
  obtain ⟨a1, a2, a3, a4, a5, a6, a7, a8, a9, a10⟩ := h
  subst hv hl
  refine ⟨fs_snoc a1 h0 h1 (by simp [dstep, hq]), ?_, by lia, by lia, by lia, by lia, rfl, ?_, ?_, outs_snoc a10 (by lia)⟩ <;> simp only [List.length_append, List.length_singleton] <;> lia
theorem DInv.t2 {pre out : List Int} {q l p i f i' : Int} (h : DInv pre out q l p i) (h0 : 0 ≤ f) (h1 : f < 64) (hq : q = 2) {l' v : Int} (hv : v = l * 16 + f / 4) (hl : l' = f % 4) (hi : i' = i + 1) : DInv (pre ++ [sg f]) (out ++ [v]) 3 l' 0 i' := by
  obtain ⟨a1, a2, a3, a4, a5, a6, a7, a8, a9, a10⟩ := h
  subst hv hl
  have := a5 hq
  refine ⟨fs_snoc a1 h0 h1 (by simp [dstep, hq]), ?_, by lia, by lia, by lia, by lia, rfl, ?_, ?_, outs_snoc a10 (by lia)⟩ <;> simp only [List.length_append, List.length_singleton] <;> lia
theorem DInv.t3 {pre out : List Int} {q l p i f i' : Int} (h : DInv pre out q l p i) (h0 : 0 ≤ f) (h1 : f < 64) (hq : q = 3) {v : Int} (hv : v = l * 64 + f) (hi : i' = i + 1) : DInv (pre ++ [sg f]) (out ++ [v]) 0 0 0 i' := by
  obtain ⟨a1, a2, a3, a4, a5, a6, a7, a8, a9, a10⟩ := h
  subst hv
  have := a6 hq
  refine ⟨fs_snoc a1 h0 h1 (by simp [dstep, hq]), ?_, by lia, by lia, by lia, by lia, rfl, ?_, ?_, outs_snoc a10 (by lia)⟩ <;> simp only [List.length_append, List.length_singleton] <;> lia
theorem sg_inj {f g : Int} (h0 : 0 ≤ f) (h1 : f < 64) (g0 : 0 ≤ g) (g1 : g < 64) (e : sg f = sg g) : f = g := by
  rw [← b64v_sg h0 h1, e, b64v_sg g0 g1]
theorem map_sg_inj : ∀ {fs gs : List Int}, (∀ f ∈ fs, 0 ≤ f ∧ f < 64) → (∀ f ∈ gs, 0 ≤ f ∧ f < 64) → fs.map sg = gs.map sg → fs = gs
  | [], [], _, _, _ => rfl
  | [], _ :: _, _, _, e => nomatch e
  | _ :: _, [], _, _, e => nomatch e
  | f :: fs, g :: gs, hf, hg, e => by
    rw [List.map_cons, List.map_cons, List.cons.injEq] at e
    rw [sg_inj (hf f (.head _)).1 (hf f (.head _)).2 (hg g (.head _)).1 (hg g (.head _)).2 e.1, map_sg_inj (fun x hx => hf x (.tail _ hx)) (fun x hx => hg x (.tail _ hx)) e.2]
theorem bInts_sg (fs : List Int) : KBw.bInts (fs.map sgB).toArray = fs.map sg := by
  simp [KBw.bInts, sg, Function.comp_def]
/-- a word that the loop is handed -/
theorem DInv.turn {fs pre post : List Int} {n : Int} (hf : ∀ f ∈ fs, 0 ≤ f ∧ f < 64) (e : fs.map sg = pre ++ n :: post) : ∃ f, n = sg f ∧ 0 ≤ f ∧ f < 64 ∧ sg f ≠ 61 := by
  have : n ∈ fs.map sg := by rw [e]; simp
  obtain ⟨f, hm, rfl⟩ := List.mem_map.mp this
  exact ⟨f, rfl, (hf f hm).1, (hf f hm).2, sg_ne (hf f hm).1 (hf f hm).2⟩
theorem or2f (a f : Int) (h0 : 0 ≤ f) (h1 : f < 64) : Builtin.bitOr (a * 2 ^ Int.toNat 2) (f.fdiv (2 ^ Int.toNat 4)) = a * 4 + f / 16 := by
  rw [show f.fdiv (2 ^ Int.toNat 4) = f / 16 from Int.fdiv_eq_ediv_of_nonneg _ (by decide)]
  exact or2 _ _ (by lia) (by lia)
theorem or4f (a f : Int) (h0 : 0 ≤ f) (h1 : f < 64) : Builtin.bitOr (a * 2 ^ Int.toNat 4) (f.fdiv (2 ^ Int.toNat 2)) = a * 16 + f / 4 := by
  rw [show f.fdiv (2 ^ Int.toNat 2) = f / 4 from Int.fdiv_eq_ediv_of_nonneg _ (by decide)]
  exact or4 _ _ (by lia) (by lia)
theorem or6f (a f : Int) (h0 : 0 ≤ f) (h1 : f < 64) : Builtin.bitOr (a * 2 ^ Int.toNat 6) f = a * 64 + f := or6 _ _ h0 h1
theorem DInv.out {fs out : List Int} {q l p i : Int} (h : DInv (fs.map sg) out q l p i) (hf : ∀ f ∈ fs, 0 ≤ f ∧ f < 64) : out = (dst fs).2.2 := by
  obtain ⟨gs, e, hg, hd⟩ := h.dfs
  rw [map_sg_inj hf hg e, hd]
end Mine
end
section
open PySem PySem.W PyProof.Rows PySem.Spec PySem.Calls
set_option maxRecDepth 100000
set_option maxHeartbeats 4000000
namespace Mine
/-- the state of a2b_base64's loop: the list's values, their ints, its count; quad_pos, leftchar, pads, i with their marks -/
abbrev DS : Type := List Value × List Int × Nat × Int × Tok × Int × Tok × Int × Tok × Int × Tok
abbrev dsLed (l : Addr) (c : DS) : List (Addr × Obj) := [(l, W.listOf c.1.toArray c.2.2.1)]
abbrev dsPs (c : DS) : List (Str × Value) := [(Str.ofString "quad_pos", .int c.2.2.2.1 c.2.2.2.2.1), (Str.ofString "leftchar", .int c.2.2.2.2.2.1 c.2.2.2.2.2.2.1), (Str.ofString "pads", .int c.2.2.2.2.2.2.2.1 c.2.2.2.2.2.2.2.2.1), (Str.ofString "i", .int c.2.2.2.2.2.2.2.2.2.1 c.2.2.2.2.2.2.2.2.2.2)]
abbrev dsFa (c : DS) : Prop := IntsAre c.1 c.2.1
abbrev dsP (pre : List Int) (c : DS) : Prop := DInv pre c.2.1 c.2.2.2.1 c.2.2.2.2.2.1 c.2.2.2.2.2.2.2.1 c.2.2.2.2.2.2.2.2.2.1
section
variable {prog : Program} {w : World} {A : Around} {E : Value → Shared → Prop} {s : Shared} {env : Env} {h₀ : Heap} {x : PySem.Str} {body : List Stmt} {Q : Flow → Shared → Prop}
theorem a2b_loop {b : Array UInt8} {fs : List Int} {tb t1 t2 t3 t4 : Tok} {l : Addr} {m₀ : PySem.Str → Option Value} (hf : ∀ f ∈ fs, 0 ≤ f ∧ f < 64) (hb : KBw.bInts b = fs.map sg) (hh : A.handled = none) (F : Fr h₀ env.locals s.heap m₀) (N : News h₀ env.locals s.heap [(l, W.listOf #[] 0)])
    (e1 : m₀ (Str.ofString "quad_pos") = some (.int 0 t1)) (e2 : m₀ (Str.ofString "leftchar") = some (.int 0 t2)) (e3 : m₀ (Str.ofString "pads") = some (.int 0 t3)) (e4 : m₀ (Str.ofString "i") = some (.int 0 t4))
    (turn : ∀ (vs : List Value) (out : List Int) (n : Nat) (q : Int) (tq : Tok) (lc : Int) (tl : Tok) (p : Int) (tp : Tok) (i : Int) (ti : Tok) (pre : List Int) (f : Int) t (u : PySem.Str → Option Value) h tk own,
      pre.length < fs.length → 0 ≤ f → f < 64 → sg f ≠ 61 → OwnOff own [l] → IntsAre vs out → DInv pre out q lc p i → KstMark →
      Fr h₀ env.locals h (fun y => if y = x then some (.int (sg f) t) else kstB m₀ [(Str.ofString "quad_pos", .int q tq), (Str.ofString "leftchar", .int lc tl), (Str.ofString "pads", .int p tp), (Str.ofString "i", .int i ti)] y) → News h₀ env.locals h ((l, W.listOf vs.toArray n) :: own) →
      wpAny (model prog w) A (execs body env) (InvPostN h₀ env.locals (KstS (dsLed l) dsPs dsFa x [] m₀ dsP (pre ++ [sg f])) own [l] { s with heap := h, toks := tk } Q) E { s with heap := h, toks := tk })
    (done : ∀ (vs : List Value) (out : List Int) (n : Nat) (q : Int) (tq : Tok) (lc : Int) (tl : Tok) (p : Int) (tp : Tok) (i : Int) (ti : Tok) (u : PySem.Str → Option Value) h tk, IntsAre vs out → DInv (fs.map sg) out q lc p i →
      Fr h₀ env.locals h (fun y => if y = x then u y else kstB m₀ [(Str.ofString "quad_pos", .int q tq), (Str.ofString "leftchar", .int lc tl), (Str.ofString "pads", .int p tp), (Str.ofString "i", .int i ti)] y) → News h₀ env.locals h [(l, W.listOf vs.toArray n)] → Q .next { s with heap := h, toks := tk }) :
    wpAny (model prog w) A (pyIter (.bytes b tb)) (fun it s₂ => LoopAtV prog w A h₀ env x body Q E it s₂) E s := by
  refine KStb.kst_bytes (dsLed l) dsPs dsFa [] dsP ([], [], 0, 0, t1, 0, t2, 0, t3, 0, t4) hb rfl hh F N .nil ?_ DInv.start ?_ ?_
  · intro p hp
    simp only [List.mem_cons, List.not_mem_nil, or_false] at hp
    rcases hp with rfl | rfl | rfl | rfl
    · exact e1
    · exact e2
    · exact e3
    · exact e4
  · rintro ⟨vs, out, n, q, tq, lc, tl, p, tp, i, ti⟩ pre post k t u h tk own e hlt _ _ hoff hfa hP F' N'
    obtain ⟨f, rfl, f0, f1, f2⟩ := DInv.turn hf e
    rw [List.length_map] at hlt
    exact turn vs out n q tq lc tl p tp i ti pre f t u h tk own hlt f0 f1 f2 hoff hfa hP kstMark F' N'
  · rintro ⟨vs, out, n, q, tq, lc, tl, p, tp, i, ti⟩ u h tk _ hfa hP F' N'
    exact done vs out n q tq lc tl p tp i ti u h tk hfa hP F' N'
end
end Mine
end
section
open PySem PySem.W PyProof.Rows PySem.Spec PySem.Calls
set_option maxRecDepth 100000
set_option maxHeartbeats 4000000
namespace Mine
section
variable {w : World} {dp un : Nat} {gd : Option (List Code)} {cn : Str} {cs : Scope} {a : Addr} {ccd : Value} {cl : List (Str × Addr)} {outer : List Env} {A₀ : Around} {base h₀ : Heap} {L : Addr} {m mg mb : Str → Option Value} {s : Shared} {Q E : Value → Shared → Prop}
  {p : Program} {loose : List Str} {mean : ExcName → Option Value}
theorem figure_spec {f : Int} {t : Tok} : PySem.Challenge.rw_pu0025_01.foot = PySem.Challenge.rw_pu0025_01.foot → Below A₀ base outer h₀ → Fr h₀ L s.heap m → (Mine01.hd.heap_1 w.params).In h₀ → Top p loose mean mg mb h₀ → cs.kind = .function → dp + 5 < recursionLimit → un + 40 < cLine → 0 ≤ f → f < 64 →
    (∀ t' h' tk', Keeps s.heap h' → Q (.int f t') { s with heap := h', toks := tk' }) →
    wpAny (model PySem.Challenge.rw_pu0025_01.row.prog w) (ktrTop dp un gd cn cs L a ccd cl outer) (call (.ref 97) [.int (sg f) t]) Q E s := by
  intro _ B F X T hk hd hu h0 h1 hret
  exact value_spec rfl B F X T hk hd hu (fun v t' h' tk' e hk' => by rw [e, b64v_sg h0 h1]; exact hret t' h' tk' hk')
theorem a2b_spec {fs : List Int} {b : Array UInt8} {t : Tok} : PySem.Challenge.rw_pu0025_01.foot = PySem.Challenge.rw_pu0025_01.foot → Below A₀ base outer h₀ → Fr h₀ L s.heap m → (Mine01.hd.heap_1 w.params).In h₀ → Top p loose mean mg mb h₀ → cs.kind = .function → dp + 10 < recursionLimit → un + 80 < cLine → (∀ f ∈ fs, 0 ≤ f ∧ f < 64) → fs.length % 4 = 0 → fs.length ≤ 1000 → KBw.bInts b = fs.map sg →
    (∀ t' h' tk', Keeps s.heap h' → Q (.bytes ((dst fs).2.2.map fun n => n.toNat.toUInt8).toArray t') { s with heap := h', toks := tk' }) →
    wpAny (model PySem.Challenge.rw_pu0025_01.row.prog w) (ktrTop dp un gd cn cs L a ccd cl outer) (call (.ref 105) [.bytes b t] [(Str.ofString "strict_mode", .bool false)]) Q E s := by
  w_top off
  k_with_none
  k_with "call ref" => (k_here; (with_reducible show wpAny _ _ (call (Value.ref 76) [Value.bytes _ _]) _ _ _); (k_dflt (refine' abuffer_spec rfl ?k1 ?k2 ?k3 ?k4 ?kK ?kd ?ku ?_; (case k1 => k_asm); (case k2 => k_asm); (case k3 => k_asm); (case k4 => k_asm); (case kK => first | exact rfl | assumption); (case kd => ktr_room); (case ku => ktr_units))); intro  h9 tk9 K9; (have F9 := keepsFr (by k_asm) K9); (have N9 := keepsNews (by k_asm) K9); clear K9; (try dsimp only); (try k_fold))
  k_with "call ref" => (k_here; (with_reducible show wpAny _ _ (call (Value.ref 90) [Value.bool _]) _ _ _); (k_dflt (refine' truth_spec rfl ?k1 ?k2 ?k3 ?k4 ?kK ?kd ?ku ?_; (case k1 => k_asm); (case k2 => k_asm); (case k3 => k_asm); (case k4 => k_asm); (case kK => first | exact rfl | assumption); (case kd => ktr_room); (case ku => ktr_units))); intro  h9 tk9 K9; (have F9 := keepsFr (by k_asm) K9); (have N9 := keepsNews (by k_asm) K9); clear K9; (try dsimp only); (try k_fold))
  k_with "call ref" => (k_here; (with_reducible show wpAny _ _ (call (Value.ref 97) [Value.int (sg _) _]) _ _ _); (k_dflt (refine' figure_spec rfl ?k1 ?k2 ?k3 ?k4 ?kK ?kd ?ku ?h0 ?h1 ?_; (case k1 => k_asm); (case k2 => k_asm); (case k3 => k_asm); (case k4 => k_asm); (case kK => first | exact rfl | assumption); (case kd => ktr_room); (case ku => ktr_units); (case h0 => assumption); (case h1 => assumption))); intro t9 h9 tk9 K9; (have F9 := keepsFr (by k_asm) K9); (have N9 := keepsNews (by k_asm) K9); clear K9; (try dsimp only); (try k_fold))
  k_with "binaryOp BitAnd int int" => (k_here; (first | with_reducible refine and_to (bitAnd_m4 _) ?_ | with_reducible refine and_to (bitAnd_m2 _) ?_))
  k_with "state" => (first | with_reducible exact DInv.t0 (by assumption) (by assumption) (by assumption) (by omega) rfl | with_reducible exact DInv.t1 (by assumption) (by assumption) (by assumption) (by omega) (or2f _ _ (by assumption) (by assumption)) rfl rfl | with_reducible exact DInv.t2 (by assumption) (by assumption) (by assumption) (by omega) (or4f _ _ (by assumption) (by assumption)) rfl rfl | with_reducible exact DInv.t3 (by assumption) (by assumption) (by assumption) (by omega) (or6f _ _ (by assumption) (by assumption)) rfl)
  k_with "call type:bytes" => (k_here; (with_reducible show wpAny _ _ (call (Value.type _) [Value.ref _]) _ _ _); k_dflt (refine' bytes_K ?F ?N ?l ?i ?r ?z ?h ?_; (case F => k_asm); (case N => k_asm); (case l => is_list); (case i => first | assumption | l_ints | l_intsW); (case r => exact DInv.douts (by assumption)); (case z => (rw [sizeLine_eq]; omega)); (case h => with_unfolding_all rfl); k_whole); intro h' t' k' F' N' hB'; clear hB')
  k_with "InvEndN" => ((rename News _ _ _ _ => nE'); (try simp only [List.push_toArray] at nE'); (refine kst_end (⟨_, _, _, _, _, _, _, _, _, _, _⟩ : DS) (by assumption) nE' (by first | kst_in | kst_inAny) (by first | (intro p hp; kst_mem) | kst_anyIn) (by rfl) (by kst_facts) (by kst_all) (by (intro z z0 z9 _; (have z1 := z9 _ (List.Mem.head _)); (have z2 := z9 _ (List.Mem.tail _ (List.Mem.head _))); (have z3 := z9 _ (List.Mem.tail _ (List.Mem.tail _ (List.Mem.head _)))); (have z4 := z9 _ (List.Mem.tail _ (List.Mem.tail _ (List.Mem.tail _ (List.Mem.head _))))); (simp only [kstB, if_neg z0, if_neg z1, if_neg z2, if_neg z3, if_neg z4]))) (by kst_p)))
  k_with "pyIter bytes" => ((with_reducible show wpAny _ _ (pyIter (Value.bytes _ _)) (fun it s₂ => LoopAtV _ _ _ _ _ _ _ _ _ it s₂) _ _); k_here; (rename Fr _ _ _ _ => lF'); (rename News _ _ _ _ => lN'); (with_unfolding_all refine' a2b_loop hf hb rfl lF' lN' rfl rfl rfl rfl ?_ ?_); clear lF' lN'; (all_goals first
    | (intro vs out n q tq lc tl p tp i ti pre f t u h9 tk9 own hlt f0 f1 f61 hoff hI hD hM F9 N9; (have dq := hD.dq); (have d0 := hD.dl0); (have d1 := hD.dl1); (have d2 := hD.dl2); (have d3 := hD.dl3); (have d4 := hD.dp); (have d5 := hD.di); (have d6 := hD.dlen); (have hIl := hI.length))
    | (intro vs out n q tq lc tl p tp i ti u h9 tk9 hI hD F9 N9; (have dq := hD.dq); rw [List.length_map] at dq; (have d4 := hD.dp); (have hIl := hI.length); (have d6 := hD.dlen); rw [List.length_map] at d6; (have q0 : q = 0 := by omega); subst q0)); (all_goals (try k_fold)))
  k_fill
  intro _ B F X T hk hd hu hf h4 hz hb hret
  k_dflt (refine' callK (by assumption) (by assumption) (by assumption) (by assumption) rfl rfl (by assumption) ?k6 ?k7 ?k8 ?k9 ?kB ?c5 ?c2 ?c3 ?c4 ?_; (case k6 => k_is); (case k7 => k_is); (case k8 => ktr_room); (case k9 => first | exact BindsTo.of_eq rfl | exact binds_K (by k_in) rfl (by k_is) rfl rfl rfl); (case c5 => decide); (case kB => exact locs rfl); (case c2 => exact rfl); (case c3 => exact rfl); (case c4 => exact rfl))
  intro L' h' F' N' B' X' T'
  clear B F X T
  k_steps
  all_goals (rw [← DInv.out (by assumption) hf] at hret; exact hret _ _ _ (by assumption : Fr s.heap _ _ _).keep)
end
end Mine
end
section
open PySem PySem.W PyProof.Rows PySem.Spec PySem.Calls
set_option maxRecDepth 100000
set_option maxHeartbeats 4000000
namespace Mine
section
variable {w : World} {dp un : Nat} {gd : Option (List Code)} {cn : Str} {cs : Scope} {a : Addr} {ccd : Value} {cl : List (Str × Addr)} {outer : List Env} {A₀ : Around} {base h₀ : Heap} {L : Addr} {m mg mb : Str → Option Value} {s : Shared} {Q E : Value → Shared → Prop}
  {p : Program} {loose : List Str} {mean : ExcName → Option Value}
theorem dec_spec {fs : List Int} {b : Array UInt8} {t : Tok} : PySem.Challenge.rw_pu0025_01.foot = PySem.Challenge.rw_pu0025_01.foot → Below A₀ base outer h₀ → Fr h₀ L s.heap m → (Mine01.hd.heap_1 w.params).In h₀ → Top p loose mean mg mb h₀ → cs.kind = .function → dp + 15 < recursionLimit → un + 120 < cLine → (∀ f ∈ fs, 0 ≤ f ∧ f < 64) → fs.length % 4 = 0 → fs.length ≤ 1000 → KBw.bInts b = fs.map sg →
    (∀ t' h' tk', Keeps s.heap h' → Q (.bytes ((dst fs).2.2.map fun n => n.toNat.toUInt8).toArray t') { s with heap := h', toks := tk' }) →
    wpAny (model PySem.Challenge.rw_pu0025_01.row.prog w) (ktrTop dp un gd cn cs L a ccd cl outer) (call (.ref 129) [.bytes b t]) Q E s := by
  w_top off
  k_with_none
  k_with "call ref" => (k_here; (with_reducible show wpAny _ _ (call (Value.ref 56) [Value.bytes _ _]) _ _ _); (k_dflt (refine' ddata_spec rfl ?k1 ?k2 ?k3 ?k4 ?kK ?kd ?ku ?_; (case k1 => k_asm); (case k2 => k_asm); (case k3 => k_asm); (case k4 => k_asm); (case kK => first | exact rfl | assumption); (case kd => ktr_room); (case ku => ktr_units))); intro  h9 tk9 K9; (have F9 := keepsFr (by k_asm) K9); (have N9 := keepsNews (by k_asm) K9); clear K9; (try dsimp only); (try k_fold))
  k_with "call ref" => (k_here; (with_reducible show wpAny _ _ (call (Value.ref 105) [Value.bytes _ _] _) _ _ _); (k_dflt (refine' a2b_spec rfl ?k1 ?k2 ?k3 ?k4 ?kK ?kd ?ku hf h4 hz hb ?_; (case k1 => k_asm); (case k2 => k_asm); (case k3 => k_asm); (case k4 => k_asm); (case kK => first | exact rfl | assumption); (case kd => ktr_room); (case ku => ktr_units))); intro t9 h9 tk9 K9; (have F9 := keepsFr (by k_asm) K9); (have N9 := keepsNews (by k_asm) K9); clear K9; (try dsimp only); (try k_fold))
  k_fill
  intro _ B F X T hk hd hu hf h4 hz hb hret
  k_dflt (refine' callK (by assumption) (by assumption) (by assumption) (by assumption) rfl rfl (by assumption) ?k6 ?k7 ?k8 ?k9 ?kB ?c5 ?c2 ?c3 ?c4 ?_; (case k6 => k_is); (case k7 => k_is); (case k8 => ktr_room); (case k9 => first | exact BindsTo.of_eq rfl | exact binds_K (by k_in) rfl (by k_is) rfl rfl rfl); (case c5 => decide); (case kB => exact locs rfl); (case c2 => exact rfl); (case c3 => exact rfl); (case c4 => exact rfl))
  intro L' h' F' N' B' X' T'
  clear B F X T
  k_steps
  all_goals (exact hret _ _ _ (by assumption : Fr s.heap _ _ _).keep)
end
end Mine
end
section
open PySem PySem.W PyProof.Rows PySem.Spec PySem.Calls
set_option maxRecDepth 100000
set_option maxHeartbeats 4000000
namespace Mine
/-- a list's iterator, i items taken -/
abbrev liObj (l : Addr) (i : Nat) : Obj := { cls := .type "list_iterator", data := .fields #[.ref l, .int i 0] }
section
variable {prog : Program} {w : World} {A : Around} {E Q : Value → Shared → Prop} {s : Shared} {h₀ : Heap} {L l I : Addr} {m : Str → Option Value} {news : List (Addr × Obj)} {g : Obj → List (Addr × Obj)} {items : Array Value} {i : Nat} {x : Value}
theorem iter_list (F : Fr h₀ L s.heap m) (N : News h₀ L s.heap news) (hl : s.heap.IsList l items)
    (h : ∀ I h', Fr h₀ L h' m → News h₀ L h' ((I, liObj l 0) :: news) → (∀ p ∈ news, p.1 < I) → Q (.ref I) { s with heap := h' }) : wpAny (model prog w) A (call (.builtin "iter") [.ref l]) Q E s := by
  refine call_function_entry (by decide +kernel) (by decide +kernel) kdk_entry_iter (kdk_args_iter _) ?_
  unfold Builtin.«iter»
  refine wpAny_bind (m := someArgs "iter" 1 2 _) (wpAny_of_eq (a := [Value.ref l]) (by first | rfl | kernel_rfl!) ?_)
  show wpAny _ _ (pyIter (.ref l) >>= _) _ _ _
  refine wpAny_bind (wpAny_pyIter_list hl ?_)
  exact wpAny_pure ⟨_, rfl, h _ _ (F.push _) (News.push F N _ rfl) (fun q hq => Heap.lt_size (N q hq).1)⟩
theorem next_list (F : Fr h₀ L s.heap m) (N : News h₀ L s.heap news) (U : UpdF I (liObj l i) news g) (hl : s.heap.IsList l items) (hx : items[i]? = some x)
    (h : ∀ h', Fr h₀ L h' m → News h₀ L h' (g (liObj l (i + 1))) → Q x { s with heap := h' }) : wpAny (model prog w) A (call (.builtin "next") [.ref I]) Q E s := by
  obtain ⟨pre, post, hp, hg, a, b⟩ := U.split
  have hm := N (I, liObj l i) (by rw [hp]; exact List.mem_append_right _ (.head _))
  have ho := hm.1
  have hit : s.heap.IsListIter I l i := ⟨_, ho, rfl, rfl⟩
  obtain ⟨ol, hol, _, nl, hdl⟩ := hl
  refine call_function_entry (by decide +kernel) (by decide +kernel) kdk_entry_next (kdk_args_next _) ?_
  unfold Builtin.«next»
  refine wpAny_bind (m := someArgs "next" 1 2 _) (wpAny_of_eq (a := [Value.ref I]) (by first | rfl | kernel_rfl!) ?_)
  dsimp only
  refine wpAny_bind (wpAny_specialOf (name := Str.ofString "__next__") hit.typeIs slot_listiter_next.lookup ?_)
  refine wpAny_ite_split (fun hab => absurd hab (by decide)) (fun _ => ?_)
  refine wpAny_bind (wpAny_callSpecial?_slot (name := Str.ofString "__next__") hit.typeIs slot_listiter_next
    (wpAny_call_entry slot_listiter_next hit.typeIs entry_listiter_next ?_ (args_listiter_next _)))
  show wpAny _ _ (field (.ref I) 0 >>= _) _ _ s
  refine wpAny_bind (wpAny_field ho rfl (x := .ref l) rfl ?_)
  show wpAny _ _ (if (Value.ref l == Value.none) = true then _ else _) _ _ s
  rw [if_neg (show ¬ ((Value.ref l == Value.none) = true) from Bool.false_ne_true)]
  show wpAny _ _ (field (.ref I) 1 >>= _) _ _ s
  refine wpAny_bind (wpAny_field ho rfl (x := .int i 0) rfl ?_)
  show wpAny _ _ (seqItems? (.ref l) >>= _) _ _ s
  refine wpAny_bind (wpAny_seqItems hol hdl ?_)
  simp only [Int.toNat_natCast, hx]
  refine wpAny_bind (wpAny_setField ho rfl (by simp) (wpAny_pure ⟨x, rfl, wpAny_pure ⟨_, rfl, ?_⟩⟩))
  have hs : Heap.SameBut I s.heap (s.heap.update I (Obj.mapFields (·.setIfInBounds 1 (rawInt ((i : Int) + 1))))) := Heap.SameBut.update ..
  have ho' : (s.heap.update I (Obj.mapFields (·.setIfInBounds 1 (rawInt ((i : Int) + 1))))).get? I = some (liObj l (i + 1)) :=
    (Heap.get?_update_self _ ho rfl).trans rfl
  exact h _ (F.change hs hm.2.1 hm.2.2) (hg _ ▸ (show News h₀ L s.heap (pre ++ (I, liObj l i) :: post) from hp ▸ N).setIn a b hs ho')
end
theorem walks_from {prog : Program} {w : World} {A : Around} {I : Addr} {fp wr : List Addr} {n : Nat} {P : Nat → Value → Prop} {St : Nat → Heap → Prop} (W : Walks prog w A I fp wr n P St) (j : Nat) (hj : j ≤ n) :
    Walks prog w A I fp wr (n - j) (fun i v => P (j + i) v) (fun i h => St (j + i) h) where
  sub := W.sub
  frame := fun i h h' => W.frame (j + i) h h'
  item := fun i s Q E hi st hQ => W.item (j + i) s Q E (by omega) st hQ
  done := fun s Q E st hQ => W.done s Q E (by rw [show j + (n - j) = n by omega] at st; exact st) hQ
  self := fun i s Q E st hQ => W.self (j + i) s Q E st hQ
/-- what holds between the turns of reduce -/
def RJ (m₀ : Str → Option Value) (val : Nat → Tok → Value) (k : Nat) (m : Str → Option Value) (nx : List (Addr × Obj)) : Prop :=
  nx = [] ∧ (∃ t, m (Str.ofString "value") = some (val k t)) ∧ ∀ z, z ≠ Str.ofString "element" → z ≠ Str.ofString "value" → m z = m₀ z
section
variable {prog : Program} {w : World} {A : Around} {E : Value → Shared → Prop} {s : Shared} {env : Env} {h₀ : Heap} {body : List Stmt} {Q : Flow → Shared → Prop} {I : Addr} {fp : List Addr} {n : Nat} {P : Nat → Value → Prop} {St : Nat → Heap → Prop} {m₀ : PySem.Str → Option Value} {val : Nat → Tok → Value} {t₀ : Tok}
theorem red_loop (W : Walks prog w A I fp [I] n P St) (hLf : env.locals ∉ fp) (hI : h₀.get? I = none) (hst : St 0 s.heap) (F : Fr h₀ env.locals s.heap m₀) (hv : m₀ (Str.ofString "value") = some (val 0 t₀))
    (turn : ∀ k v t h tk own, k < n → P k v → KstMark → Fr h₀ env.locals h (fun y => if y = Str.ofString "element" then some v else kstB m₀ [(Str.ofString "value", val k t)] y) → News h₀ env.locals h own →
      wpAny (model prog w) A (execs body env) (InvPostN h₀ env.locals (RJ m₀ val (k + 1)) own [] { s with heap := h, toks := tk } Q) E { s with heap := h, toks := tk })
    (done : ∀ t (u : PySem.Str → Option Value) h tk, Fr h₀ env.locals h (fun y => if y = Str.ofString "element" then u y else kstB m₀ [(Str.ofString "value", val n t)] y) → News h₀ env.locals h [] → Q .next { s with heap := h, toks := tk }) :
    wpAny (model prog w) A (pyIter (.ref I)) (fun it s₂ => LoopAtV prog w A h₀ env (Str.ofString "element") body Q E it s₂) E s := by
  refine W.self 0 s _ _ hst ?_
  refine loop_invN (news := []) (fun k m nx => RJ m₀ val k m nx) W hLf (fun b hb => by rw [List.mem_singleton.mp hb]; exact hI) (fun p hp => by cases hp) (fun p hp => by cases hp) hst F News.nil ⟨rfl, ⟨t₀, hv⟩, fun _ _ _ => rfl⟩ ?_ ?_
  · rintro k v m₁ nx h tk own hk hP _ _ ⟨rfl, ⟨t, ht⟩, hm⟩ F' N'
    refine turn k v t h tk own hk hP kstMark ?_ (by simpa using N')
    have e : (fun y => if y = Str.ofString "element" then some v else kstB m₀ [(Str.ofString "value", val k t)] y) = fun y => if y = Str.ofString "element" then some v else m₁ y := by
      funext y
      by_cases h1 : y = Str.ofString "element"
      · rw [if_pos h1, if_pos h1]
      · rw [if_neg h1, if_neg h1]
        show (if y = Str.ofString "value" then some (val k t) else m₀ y) = m₁ y
        by_cases h2 : y = Str.ofString "value"
        · rw [if_pos h2, h2, ht]
        · rw [if_neg h2, hm y h1 h2]
    rw [e]; exact F'
  · rintro m₁ nx h tk ⟨rfl, ⟨t, ht⟩, hm⟩ F' N'
    refine done t m₁ h tk ?_ N'
    have e : (fun y => if y = Str.ofString "element" then m₁ y else kstB m₀ [(Str.ofString "value", val n t)] y) = m₁ := by
      funext y
      by_cases h1 : y = Str.ofString "element"
      · rw [if_pos h1]
      · rw [if_neg h1]
        show (if y = Str.ofString "value" then some (val n t) else m₀ y) = m₁ y
        by_cases h2 : y = Str.ofString "value"
        · rw [if_pos h2, h2, ht]
        · rw [if_neg h2, hm y h1 h2]
    rw [e]; exact F'
end
end Mine
end
section
open PySem PySem.W PyProof.Rows PySem.Spec PySem.Calls
set_option maxRecDepth 100000
set_option maxHeartbeats 4000000
namespace Mine
/-- values that are octets -/
inductive BytesAre : List Value → List (List UInt8) → Prop where
  | nil : BytesAre [] []
  | cons (b : List UInt8) (t : Tok) {vs : List Value} {bs : List (List UInt8)} : BytesAre vs bs → BytesAre (.bytes b.toArray t :: vs) (b :: bs)
theorem BytesAre.length : ∀ {vs : List Value} {bs : List (List UInt8)}, BytesAre vs bs → vs.length = bs.length
  | _, _, .nil => rfl
  | _, _, .cons _ _ h => by rw [List.length_cons, List.length_cons, h.length]
theorem BytesAre.at : ∀ {vs : List Value} {bs : List (List UInt8)} {i : Nat} {v : Value}, BytesAre vs bs → vs[i]? = some v → ∃ b t, bs[i]? = some b ∧ v = .bytes b.toArray t
  | _, _, _, _, .nil, e => by simp at e
  | _, _, 0, _, .cons b t _, e => ⟨b, t, rfl, by simpa using e.symm⟩
  | _, _, i + 1, _, .cons _ _ h, e => by
    obtain ⟨b, t, h1, h2⟩ := h.at (i := i) (by simpa using e)
    exact ⟨b, t, by simpa using h1, h2⟩
abbrev catVal (x : List UInt8) (xs : List (List UInt8)) (k : Nat) (t : Tok) : Value := .bytes (x ++ (xs.take k).flatten).toArray t
theorem cat_snoc {x b : List UInt8} {xs : List (List UInt8)} {k : Nat} (h : xs[k]? = some b) : x ++ (xs.take (k + 1)).flatten = x ++ (xs.take k).flatten ++ b := by
  rw [List.take_add_one, h, List.flatten_append, List.append_assoc]; simp
theorem cat_len {x b : List UInt8} {xs : List (List UInt8)} {k : Nat} (h : xs[k]? = some b) : (x ++ (xs.take k).flatten).length + b.length ≤ ((x :: xs).flatten).length := by
  have e : xs = xs.take k ++ b :: xs.drop (k + 1) := by
    obtain ⟨hk, hb⟩ := List.getElem?_eq_some_iff.mp h
    rw [← hb, ← List.drop_eq_getElem_cons hk, List.take_append_drop]
  have : (x :: xs).flatten.length = (x ++ (xs.take k).flatten).length + b.length + (xs.drop (k + 1)).flatten.length := by
    conv => lhs; rw [e]
    simp only [List.flatten_cons, List.flatten_append, List.length_append]
    omega
  omega
section
variable {prog : Program} {w : World} {A : Around} {E : Value → Shared → Prop} {s : Shared} {env : Env} {h₀ : Heap} {body : List Stmt} {Q : Flow → Shared → Prop} {I l : Addr} {m₀ : PySem.Str → Option Value} {t t₀ : Tok} {x : List UInt8} {xs : List (List UInt8)} {vs : List Value}
theorem redB_loop (hh : A.handled = none) (hl : h₀.IsList l (.bytes x.toArray t :: vs).toArray) (hB : BytesAre vs xs) (F : Fr h₀ env.locals s.heap m₀) (N : News h₀ env.locals s.heap [(I, liObj l (0 + 1))]) (hv : m₀ (Str.ofString "value") = some (.bytes x.toArray t₀))
    (turn : ∀ k b tb t h tk own, xs[k]? = some b → KstMark → Fr h₀ env.locals h (fun y => if y = Str.ofString "element" then some (.bytes b.toArray tb) else kstB m₀ [(Str.ofString "value", .bytes (x ++ (xs.take k).flatten).toArray t)] y) → News h₀ env.locals h own →
      wpAny (model prog w) A (execs body env) (InvPostN h₀ env.locals (RJ m₀ (catVal x xs) (k + 1)) own [] { s with heap := h, toks := tk } Q) E { s with heap := h, toks := tk })
    (done : ∀ t (u : PySem.Str → Option Value) h tk, Fr h₀ env.locals h (fun y => if y = Str.ofString "element" then u y else kstB m₀ [(Str.ofString "value", .bytes (x :: xs).flatten.toArray t)] y) → News h₀ env.locals h [] → Q .next { s with heap := h, toks := tk }) :
    wpAny (model prog w) A (pyIter (.ref I)) (fun it s₂ => LoopAtV prog w A h₀ env (Str.ofString "element") body Q E it s₂) E s := by
  have hm := N _ (.head _)
  obtain ⟨ol, hol, _⟩ := id hl
  have hIl : l ≠ I := fun e => by rw [← e, hol] at hm; cases hm.2.2
  have hLl : env.locals ≠ l := fun e => absurd (Heap.lt_size hol) (Nat.not_lt.mpr (e ▸ F.above))
  have hn : (.bytes x.toArray t :: vs).toArray.size - 1 = xs.length := by simp [hB.length]
  have W := walks_from (Walks.list (prog := prog) (w := w) hh I l hIl (.bytes x.toArray t :: vs).toArray) 1 (by simp)
  rw [hn] at W
  refine red_loop (val := catVal x xs) (t₀ := t₀) W ?_ hm.2.2 ⟨⟨_, hm.1, rfl, rfl⟩, hl.at fun o e => F.keep l o e⟩ F (by rw [hv]; simp [catVal]) ?_ ?_
  · intro h9
    rcases List.mem_cons.mp h9 with e | h9
    · exact hm.2.1 e.symm
    · exact hLl (List.mem_singleton.mp h9)
  · intro k v t' h tk own hk hP hM F' N'
    have hP' : vs[k]? = some v := by
      have : ((.bytes x.toArray t :: vs).toArray)[1 + k]? = some v := hP
      simpa [Nat.add_comm] using this
    obtain ⟨b, tb, h1, rfl⟩ := hB.at hP'
    exact turn k b tb t' h tk own h1 hM F' N'
  · intro t' u h tk F' N'
    refine done t' u h tk ?_ N'
    simpa [catVal] using F'
end
section
variable {w : World} {dp un : Nat} {gd : Option (List Code)} {cn : Str} {cs : Scope} {a : Addr} {ccd : Value} {cl : List (Str × Addr)} {outer : List Env} {A₀ : Around} {base h₀ : Heap} {L : Addr} {m mg mb : Str → Option Value} {s : Shared} {Q E : Value → Shared → Prop}
  {p : Program} {loose : List Str} {mean : ExcName → Option Value}
/-- a def of two that lays octets end to end, wherever it is called from -/
def LamAdd (w : World) (f : Addr) (h : Heap) : Prop :=
  ∀ (dp un : Nat) (gd : Option (List Code)) (cn : Str) (cs : Scope) (a : Addr) (ccd : Value) (cl : List (Str × Addr)) (outer : List Env) (A₀ : Around) (base h₀ : Heap) (L : Addr) (m mg mb : Str → Option Value) (s : Shared) (Q E : Value → Shared → Prop)
    (p : Program) (loose : List Str) (mean : ExcName → Option Value) (x y : List UInt8) (tx ty : Tok), Keeps h s.heap → Below A₀ base outer h₀ → Fr h₀ L s.heap m → (Mine01.hd.heap_1 w.params).In h₀ → Top p loose mean mg mb h₀ → cs.kind = .function →
    dp + 5 < recursionLimit → un + 40 < cLine → x.length + y.length ≤ 16777216 → (∀ t' h' tk', Keeps s.heap h' → Q (.bytes (x ++ y).toArray t') { s with heap := h', toks := tk' }) →
    wpAny (model PySem.Challenge.rw_pu0025_01.row.prog w) (ktrTop dp un gd cn cs L a ccd cl outer) (call (.ref f) [.bytes x.toArray tx, .bytes y.toArray ty]) Q E s
theorem fnKeeps {q : Addr} {h h' : Heap} (x : FnAt q h) (k : Keeps h h') : FnAt q h' := by
  obtain ⟨a1, a2, a3, a4, e⟩ := x
  exact ⟨a1, a2, a3, a4, k _ _ e⟩
theorem reduceB_spec {f l : Addr} {x : List UInt8} {xs : List (List UInt8)} {vs : List Value} : PySem.Challenge.rw_pu0025_01.foot = PySem.Challenge.rw_pu0025_01.foot → Below A₀ base outer h₀ → Fr h₀ L s.heap m → (Mine01.hd.heap_1 w.params).In h₀ → Top p loose mean mg mb h₀ → cs.kind = .function → dp + 15 < recursionLimit → un + 120 < cLine → LamAdd w f s.heap → FnAt f s.heap → s.heap.IsList l vs.toArray →
    BytesAre vs (x :: xs) → ((x :: xs).flatten).length ≤ 1000 →
    (∀ t' h' tk', Keeps s.heap h' → Q (.bytes (x :: xs).flatten.toArray t') { s with heap := h', toks := tk' }) →
    wpAny (model PySem.Challenge.rw_pu0025_01.row.prog w) (ktrTop dp un gd cn cs L a ccd cl outer) (call (.ref 145) [.ref f, .ref l]) Q E s := by
  w_top off
  k_with_none
  k_with "call builtin:iter" => (k_here; (with_reducible show wpAny _ _ (call (Value.builtin "iter") [Value.ref _]) _ _ _); (k_dflt (refine' iter_list ?F ?N ?l ?_; (case F => k_asm); (case N => k_asm); (case l => first | assumption | is_list))); intro i' h' F' N' l1; (try k_lt l1))
  k_with "call builtin:next" => (k_here; (with_reducible show wpAny _ _ (call (Value.builtin "next") [Value.ref _]) _ _ _); (k_dflt (refine' next_list ?F ?N ?U ?l ?x ?_; (case F => k_asm); (case N => k_asm); (case U => k_updF); (case l => first | assumption | is_list); (case x => exact rfl))); intro h' F' N'; (try dsimp only at N'))
  k_with "pyIter ref" => (k_here; (with_reducible show wpAny _ _ (pyIter (Value.ref _)) (fun it s₂ => LoopAtV _ _ _ _ _ _ _ _ _ it s₂) _ _); (rename Fr _ _ _ _ => lF'); (rename News _ _ _ _ => lN'); (with_unfolding_all refine' redB_loop rfl hl hv lF' lN' rfl ?_ ?_); clear lF' lN'; (all_goals first
    | (intro k b tb t9 h9 tk9 own hx hM F9 N9)
    | (intro t9 u h9 tk9 F9 N9)); (all_goals (try k_fold)))
  k_with "callWith ref" => (k_here; k_dflt (refine' callWith_F ?k1 ?_; (case k1 => exact fnKeeps hFn (by assumption : Fr s.heap _ _ _).keep)))
  k_with "FnAt" => (exact fnKeeps hFn (by assumption : Fr s.heap _ _ _).keep)
  k_with "InvEndN" => ((rename News _ _ _ _ => nE'); (refine InvEndN.intro (nx := []) (by assumption) nE' ⟨rfl, ⟨_, Eq.trans rfl (congrArg (fun z => some (Value.bytes (List.toArray z) _)) (cat_snoc hx).symm)⟩, (by (intro z z0 z1; simp only [kstB, if_neg z0, if_neg z1]))⟩ rfl (fun _ h => by cases h) (fun _ h => h)))
  k_with "And" => ((with_reducible show FnAt _ _ ∧ _); (refine ⟨fnKeeps hFn (by assumption : Fr s.heap _ _ _).keep, ?_⟩); (try dsimp only [List.nil_append, List.cons_append]))
  k_with "call ref" => (k_here; (with_reducible show wpAny _ _ (call (Value.ref _) [Value.bytes _ _, Value.bytes _ _]) _ _ _); (k_dflt (refine' hL _ _ _ _ _ _ _ _ _ _ _ _ _ _ _ _ _ _ _ _ _ _ _ _ _ _ ?k0 ?k1 ?k2 ?k3 ?k4 ?kK ?kd ?ku ?kz ?_; (case k1 => k_asm); (case k2 => k_asm); (case k3 => k_asm); (case k4 => k_asm); (case k0 => exact (by assumption : Fr s.heap _ _ _).keep); (case kK => first | exact rfl | assumption); (case kd => ktr_room); (case ku => ktr_units); (case kz => ((have hc := cat_len (x := x) hx); omega)))); intro t9 h9 tk9 K9; (have F9 := keepsFr (by k_asm) K9); (have N9 := keepsNews (by k_asm) K9); clear K9; (try dsimp only); (try k_fold))
  k_fill
  intro _ B F X T hk hd hu hL hFn hl hv hz hret
  unfold LamAdd at hL
  cases hv with
  | cons b t hv =>
  k_dflt (refine' callK (by assumption) (by assumption) (by assumption) (by assumption) rfl rfl (by assumption) ?k6 ?k7 ?k8 ?k9 ?kB ?c5 ?c2 ?c3 ?c4 ?_; (case k6 => k_is); (case k7 => k_is); (case k8 => ktr_room); (case k9 => first | exact BindsTo.of_eq rfl | exact binds_K (by k_in) rfl (by k_is) rfl rfl rfl); (case c5 => decide); (case kB => exact locs rfl); (case c2 => exact rfl); (case c3 => exact rfl); (case c4 => exact rfl))
  intro L' h' F' N' B' X' T'
  clear B F X T
  k_steps
  all_goals (exact hret _ _ _ (by assumption : Fr s.heap _ _ _).keep)
end
end Mine
end
section
open PySem PySem.W PyProof.Rows PySem.Spec PySem.Calls
set_option maxRecDepth 100000
set_option maxHeartbeats 4000000
namespace Mine
/-- the number whose figures to the base 256 are given -/
def num256 (l : List UInt8) : Int := l.foldl (fun a c => a * 256 + (c.toNat : Int)) 0
theorem num256_snoc (l : List UInt8) (c : UInt8) : num256 (l ++ [c]) = num256 l * 256 + (c.toNat : Int) := by simp [num256]
theorem num256_fold : ∀ (l : List UInt8) (a : Int), 0 ≤ a → 0 ≤ l.foldl (fun a c => a * 256 + (c.toNat : Int)) a ∧ l.foldl (fun a c => a * 256 + (c.toNat : Int)) a < (a + 1) * 256 ^ l.length
  | [], a, h => ⟨h, by simp; lia⟩
  | c :: l, a, h => by
    have hc := c.toNat_lt
    obtain ⟨h1, h2⟩ := num256_fold l (a * 256 + (c.toNat : Int)) (by lia)
    refine ⟨h1, Int.lt_of_lt_of_le h2 ?_⟩
    rw [List.length_cons, Int.pow_succ, Int.mul_comm (256 ^ l.length) 256, ← Int.mul_assoc]
    exact Int.mul_le_mul_of_nonneg_right (by lia) (Int.le_of_lt (pow_pos_of (by decide) _))
theorem num256_bounds (l : List UInt8) : 0 ≤ num256 l ∧ num256 l < 256 ^ l.length := by
  have := num256_fold l 0 (by decide)
  simpa [num256] using this
theorem num256_bits (l : List UInt8) (h : l.length ≤ 1000) : Builtin.Int.intBits (num256 l) ≤ 8000 := by
  rw [intBits_le_iff]
  obtain ⟨h0, h1⟩ := num256_bounds l
  have h2 : (256 : Int) ^ l.length ≤ 2 ^ 8000 := by
    have e : (256 : Int) = 2 ^ 8 := rfl
    rw [e, ← Int.pow_mul]
    exact_mod_cast Nat.pow_le_pow_right (by decide : 0 < 2) (by lia : 8 * l.length ≤ 8000)
  have h3 : num256 l < 2 ^ 8000 := Int.lt_of_lt_of_le h1 h2
  have h4 : ((num256 l).natAbs : Int) = num256 l := Int.natAbs_of_nonneg h0
  have h5 : ((num256 l).natAbs : Int) < ((2 ^ 8000 : Nat) : Int) := by
    rw [h4]
    exact_mod_cast h3
  exact_mod_cast h5
/-- a def of two that puts a figure behind a number, wherever it is called from -/
def LamMul (w : World) (f : Addr) (h : Heap) : Prop :=
  ∀ (dp un : Nat) (gd : Option (List Code)) (cn : Str) (cs : Scope) (a : Addr) (ccd : Value) (cl : List (Str × Addr)) (outer : List Env) (A₀ : Around) (base h₀ : Heap) (L : Addr) (m mg mb : Str → Option Value) (s : Shared) (Q E : Value → Shared → Prop)
    (p : Program) (loose : List Str) (mean : ExcName → Option Value) (x y : Int) (tx ty : Tok), Keeps h s.heap → Below A₀ base outer h₀ → Fr h₀ L s.heap m → (Mine01.hd.heap_1 w.params).In h₀ → Top p loose mean mg mb h₀ → cs.kind = .function →
    dp + 5 < recursionLimit → un + 40 < cLine → Builtin.Int.intBits x ≤ 8000 → (∀ t' h' tk', Keeps s.heap h' → Q (.int (x * 256 + y) t') { s with heap := h', toks := tk' }) →
    wpAny (model PySem.Challenge.rw_pu0025_01.row.prog w) (ktrTop dp un gd cn cs L a ccd cl outer) (call (.ref f) [.int x tx, .int y ty]) Q E s
abbrev biObj (b : Array UInt8) (t : Tok) (i : Nat) : Obj := { cls := .type "bytes_iterator", data := .fields #[.bytes b t, .int i 0] }
abbrev numVal (l : List UInt8) (k : Nat) (t : Tok) : Value := .int (num256 (l.take k)) t
theorem num_snoc {l : List UInt8} {k : Nat} {c : UInt8} (h : l[k]? = some c) : num256 (l.take (k + 1)) = num256 (l.take k) * 256 + (c.toNat : Int) := by
  rw [List.take_add_one, h]; exact num256_snoc _ _
section
variable {prog : Program} {w : World} {A : Around} {E Q : Value → Shared → Prop} {s : Shared} {h₀ : Heap} {L : Addr} {m : Str → Option Value} {news : List (Addr × Obj)} {b : Array UInt8} {t : Tok}
theorem iter_bytes (F : Fr h₀ L s.heap m) (N : News h₀ L s.heap news)
    (h : ∀ I h', Fr h₀ L h' m → News h₀ L h' ((I, biObj b t 0) :: news) → (∀ p ∈ news, p.1 < I) → Q (.ref I) { s with heap := h' }) : wpAny (model prog w) A (call (.builtin "iter") [.bytes b t]) Q E s := by
  refine call_function_entry (by decide +kernel) (by decide +kernel) kdk_entry_iter (kdk_args_iter _) ?_
  unfold Builtin.«iter»
  refine wpAny_bind (m := someArgs "iter" 1 2 _) (wpAny_of_eq (a := [Value.bytes b t]) (by first | rfl | kernel_rfl!) ?_)
  show wpAny _ _ (pyIter (.bytes b t) >>= _) _ _ _
  refine wpAny_bind (KBw.pyIter_bytes ?_)
  exact wpAny_pure ⟨_, rfl, h _ _ (F.push _) (News.push F N _ rfl) (fun q hq => Heap.lt_size (N q hq).1)⟩
end
section
variable {prog : Program} {w : World} {A : Around} {E : Value → Shared → Prop} {s : Shared} {env : Env} {h₀ : Heap} {body : List Stmt} {Q : Flow → Shared → Prop} {I : Addr} {m₀ : PySem.Str → Option Value} {t t₀ : Tok} {l : List UInt8}
theorem redI_loop (hh : A.handled = none) (F : Fr h₀ env.locals s.heap m₀) (N : News h₀ env.locals s.heap [(I, biObj l.toArray t 0)]) (hv : m₀ (Str.ofString "value") = some (.int 0 t₀))
    (turn : ∀ k c tb t h tk own, l[k]? = some c → KstMark → Fr h₀ env.locals h (fun y => if y = Str.ofString "element" then some (.int (c.toNat : Int) tb) else kstB m₀ [(Str.ofString "value", .int (num256 (l.take k)) t)] y) → News h₀ env.locals h own →
      wpAny (model prog w) A (execs body env) (InvPostN h₀ env.locals (RJ m₀ (numVal l) (k + 1)) own [] { s with heap := h, toks := tk } Q) E { s with heap := h, toks := tk })
    (done : ∀ t (u : PySem.Str → Option Value) h tk, Fr h₀ env.locals h (fun y => if y = Str.ofString "element" then u y else kstB m₀ [(Str.ofString "value", .int (num256 l) t)] y) → News h₀ env.locals h [] → Q .next { s with heap := h, toks := tk }) :
    wpAny (model prog w) A (pyIter (.ref I)) (fun it s₂ => LoopAtV prog w A h₀ env (Str.ofString "element") body Q E it s₂) E s := by
  have hm := N _ (.head _)
  have W := KBw.walks (prog := prog) (w := w) hh I l.toArray t
  rw [show l.toArray.size = l.length by simp] at W
  refine red_loop (val := numVal l) (t₀ := t₀) W ?_ hm.2.2 ⟨_, hm.1, rfl, rfl⟩ F (by rw [hv]; rfl) ?_ ?_
  · intro h9
    exact hm.2.1 (List.mem_singleton.mp h9).symm
  · intro k v t' h tk own hk hP hM F' N'
    obtain ⟨c, u, hc, rfl⟩ := hP
    exact turn k c u t' h tk own (by simpa using hc) hM F' N'
  · intro t' u h tk F' N'
    refine done t' u h tk ?_ N'
    simpa [numVal] using F'
end
section
variable {w : World} {dp un : Nat} {gd : Option (List Code)} {cn : Str} {cs : Scope} {a : Addr} {ccd : Value} {cl : List (Str × Addr)} {outer : List Env} {A₀ : Around} {base h₀ : Heap} {L : Addr} {m mg mb : Str → Option Value} {s : Shared} {Q E : Value → Shared → Prop}
  {p : Program} {loose : List Str} {mean : ExcName → Option Value}
theorem reduceI_spec {f : Addr} {l : List UInt8} {tb t0 : Tok} : PySem.Challenge.rw_pu0025_01.foot = PySem.Challenge.rw_pu0025_01.foot → Below A₀ base outer h₀ → Fr h₀ L s.heap m → (Mine01.hd.heap_1 w.params).In h₀ → Top p loose mean mg mb h₀ → cs.kind = .function → dp + 15 < recursionLimit → un + 120 < cLine → LamMul w f s.heap → FnAt f s.heap → l.length ≤ 1000 →
    (∀ t' h' tk', Keeps s.heap h' → Q (.int (num256 l) t') { s with heap := h', toks := tk' }) →
    wpAny (model PySem.Challenge.rw_pu0025_01.row.prog w) (ktrTop dp un gd cn cs L a ccd cl outer) (call (.ref 145) [.ref f, .bytes l.toArray tb, .int 0 t0]) Q E s := by
  w_top off
  k_with_none
  k_with "compareOp Is int ref" => (k_here; refine wpAny_is_other (by rfl) (by intro x; cases x) ?_)
  k_with "call builtin:iter" => (k_here; (with_reducible show wpAny _ _ (call (Value.builtin "iter") [Value.bytes _ _]) _ _ _); (k_dflt (refine' iter_bytes ?F ?N ?_; (case F => k_asm); (case N => k_asm))); intro i' h' F' N' l1; (try k_lt l1))
  k_with "pyIter ref" => (k_here; (with_reducible show wpAny _ _ (pyIter (Value.ref _)) (fun it s₂ => LoopAtV _ _ _ _ _ _ _ _ _ it s₂) _ _); (rename Fr _ _ _ _ => lF'); (rename News _ _ _ _ => lN'); (with_unfolding_all refine' redI_loop rfl lF' lN' rfl ?_ ?_); clear lF' lN'; (all_goals first
    | (intro k c tc t9 h9 tk9 own hx hM F9 N9)
    | (intro t9 u h9 tk9 F9 N9)); (all_goals (try k_fold)))
  k_with "callWith ref" => (k_here; k_dflt (refine' callWith_F ?k1 ?_; (case k1 => exact fnKeeps hFn (by assumption : Fr s.heap _ _ _).keep)))
  k_with "FnAt" => (exact fnKeeps hFn (by assumption : Fr s.heap _ _ _).keep)
  k_with "InvEndN" => ((rename News _ _ _ _ => nE'); (refine InvEndN.intro (nx := []) (by assumption) nE' ⟨rfl, ⟨_, Eq.trans rfl (congrArg (fun z => some (Value.int z _)) (num_snoc hx).symm)⟩, (by (intro z z0 z1; simp only [kstB, if_neg z0, if_neg z1]))⟩ rfl (fun _ h => by cases h) (fun _ h => h)))
  k_with "And" => ((with_reducible show FnAt _ _ ∧ _); (refine ⟨fnKeeps hFn (by assumption : Fr s.heap _ _ _).keep, ?_⟩); (try dsimp only [List.nil_append, List.cons_append]))
  k_with "call ref" => (k_here; (with_reducible show wpAny _ _ (call (Value.ref _) [Value.int _ _, Value.int _ _]) _ _ _); (k_dflt (refine' hL _ _ _ _ _ _ _ _ _ _ _ _ _ _ _ _ _ _ _ _ _ _ _ _ _ _ ?k0 ?k1 ?k2 ?k3 ?k4 ?kK ?kd ?ku ?kz ?_; (case k1 => k_asm); (case k2 => k_asm); (case k3 => k_asm); (case k4 => k_asm); (case k0 => exact (by assumption : Fr s.heap _ _ _).keep); (case kK => first | exact rfl | assumption); (case kd => ktr_room); (case ku => ktr_units); (case kz => exact num256_bits _ (by rw [List.length_take]; lia)))); intro t9 h9 tk9 K9; (have F9 := keepsFr (by k_asm) K9); (have N9 := keepsNews (by k_asm) K9); clear K9; (try dsimp only); (try k_fold))
  k_fill
  intro _ B F X T hk hd hu hL hFn hz hret
  unfold LamMul at hL
  k_dflt (refine' callK (by assumption) (by assumption) (by assumption) (by assumption) rfl rfl (by assumption) ?k6 ?k7 ?k8 ?k9 ?kB ?c5 ?c2 ?c3 ?c4 ?_; (case k6 => k_is); (case k7 => k_is); (case k8 => ktr_room); (case k9 => first | exact BindsTo.of_eq rfl | exact binds_K (by k_in) rfl (by k_is) rfl rfl rfl); (case c5 => decide); (case kB => exact locs rfl); (case c2 => exact rfl); (case c3 => exact rfl); (case c4 => exact rfl))
  intro L' h' F' N' B' X' T'
  clear B F X T
  k_steps
  all_goals (first | exact hret _ _ _ (by assumption : Fr s.heap _ _ _).keep | w_report)
end
end Mine
end
section
open PySem PySem.W PySem.W.X PyProof.Rows
set_option maxRecDepth 100000
namespace Mine
/-- what a node of a written run wants: nothing; an object made in the run; an object that stood; a code table -/
inductive Hi where
  | n
  | w (j : Nat)
  | s (j : Nat)
  | t
noncomputable def hDen (c : Code) : Sem PySem.Fin := PySem.W.ZFast.zw11892475500146522536 PySem.W.ZFast.tableZ c
theorem hDen_eq (c : Code) : denote table c = hDen c := by
  unfold hDen
  rw [← PySem.W.ZFast.ze11892475500146522536, ← PySem.W.ZFast.tableZ_eq]
abbrev RestH := List (Nat × Nat) → BT → Nat → Nat → Ch → KasT Prop
abbrev leafH (P : Prop) : KasT Prop := .ask 0 0 fun _ => .ret P
def holdH : KasT Prop → Prop
  | .ret P => P
  | .ask _ _ k => holdH (k true)
/-- so that nothing looks into it -/
structure HoldH (t : KasT Prop) : Prop where
  out : holdH t
def threeH (_ _ _ : Value) : Sem Bool := pure true
def cmpH (M : Model) (_ _ : Nat) (C : Bool → Shared → Prop) (s : Shared) : Prop := wpAny M callerA (threeH .none .none .none) C (fun _ _ => False) s
theorem hold_of {M : Model} {s : Shared} : ∀ {t : KasT Prop}, t.kasWp (cmpH M) (fun P _ => P) s → HoldH t
  | .ret _, h => ⟨h⟩
  | .ask _ _ k, h => ⟨(hold_of (t := k true) (h _ default caller_in)).out⟩
theorem three_in {M : Model} {A : Around} {C : Bool → Shared → Prop} {E : Value → Shared → Prop} {s : Shared} {a b c : Value} (h : C true s) : wpAny M A (threeH a b c) C E s := wpAny_pure h
theorem ret_in {cmp : Nat → Nat → (Bool → Shared → Prop) → Shared → Prop} {P : Prop} {s : Shared} (h : P) : KasT.kasWp cmp (.ret P) (fun P _ => P) s := h
def accOk (acc : List (Nat × Nat)) : Prop := acc.map (·.1) = acc.map (·.2)
def MeansH (V : XV) (c : Code) (κ : Kont) (t : Sem PySem.Fin) (s : Shared) : Prop := wpOwn (model V.prog V.w) (aroundOf V true κ) c t (postC V.prog V.w (aroundOf V true κ) (endOf V κ)) (postE (endOf V κ)) s
noncomputable def retH (V : XV) (g : Array GenState) (ih : Code → Kont → Sem PySem.Fin → RestH) (r : Result) (κ : Kont) : RestH := match κ with
  | .base => fun acc T m i ch => leafH (accOk acc ∧ ∀ h, Rep V h T m ch → V.R₀ r ⟨h, g, V.d, V.t₀ + i, V.os⟩)
  | .ret c _ k κ => ih c κ (k r)
  | .gen .. => fun _ _ _ _ _ => .ret False
  | .genS .. => fun _ _ _ _ _ => .ret False
noncomputable def stepH (V : XV) (g : Array GenState) (olds : List (Addr × Obj)) (ih : Code → Kont → Sem PySem.Fin → RestH) (x : Hi) (c : Code) (κ : Kont) (t : Sem PySem.Fin) : RestH := match t with
  | .pure fin => match fin with
    | .done f => retH V g ih (.ok f) κ
    | .again c' => fun acc => ih c' κ (hDen c') ((c'.quiet.toNat, 1) :: acc)
  | .raise e => retH V g ih (.error e) κ
  | .load a _ k => match x with
    | .w j => fun acc T m i ch => match T.get j with
      | some o => ih c κ (k o) ((a, V.n₁ + j) :: acc) T m i ch
      | none => .ret False
    | .s j => fun acc T m i ch => match olds[j]? with
      | some p => match (chLook ch p.1).isNone || hasCls p.2 with
        | true => ih c κ (k p.2) ((a, p.1) :: acc) T m i ch
        | false => .ret False
      | none => .ret False
    | .t => fun acc T m i ch => match nowTab V ch a with
      | some vs => ih c κ (k (tableObj vs)) acc T m i ch
      | none => .ret False
    | .n => fun _ _ _ _ _ => .ret False
  | .alloc o k => fun acc T m i ch => match o.isFreed with
    | true => .ret False
    | false => match (T.ins m o).get m with
      | some _ => ih c κ (k (V.n₁ + m)) acc (T.ins m o) (m + 1) i ch
      | none => .ret False
  | .update a _ f k => match x with
    | .w j => fun acc T m i ch => match T.get j with
      | some o => match (f o).isFreed with
        | true => .ret False
        | false => ih c κ (k ()) ((a, V.n₁ + j) :: acc) (T.set j f) m i ch
      | none => .ret False
    | .t => fun acc T m i ch => match nowTab V ch a with
      | some vs => match tabOf (f (tableObj vs)) with
        | some vs' => match strip vs.toList vs'.toList with
          | some _ => ih c κ (k ()) acc T m i (chPut ch a vs')
          | none => .ret False
        | none => .ret False
      | none => .ret False
    | .s _ => fun _ _ _ _ _ => .ret False
    | .n => fun _ _ _ _ _ => .ret False
  | .fresh k => fun acc T m i ch => ih c κ (k (V.t₀ + i)) acc T m (i + 1) ch
  | .handled own k => match own with
    | false => ih c κ (k (aroundOf V true κ).handled)
    | true => fun _ _ _ _ _ => .ret False
  | .stack k => fun acc T m i ch => leafH (accOk acc ∧ ∀ (p : Pos) (below : List (Code × Pos)), Lies ((aroundOf V true κ).under c) ((c, p) :: below) → HoldH (ih c κ (k ((c, p) :: below)) [] T m i ch))
  | .call c' hd _ _ k => match okMark hd with
    | true => ih c' (.ret c hd k κ) (hDen c')
    | false => fun _ _ _ _ _ => .ret False
  | _ => fun _ _ _ _ _ => .ret False
noncomputable def simH (V : XV) (g : Array GenState) (olds : List (Addr × Obj)) : List Hi → Code → Kont → Sem PySem.Fin → RestH
  | [] => fun c κ t acc T m i ch => leafH (accOk acc ∧ ∀ h, Rep V h T m ch → MeansH V c κ t ⟨h, g, V.d, V.t₀ + i, V.os⟩)
  | x :: hs => fun c κ t => stepH V g olds (simH V g olds hs) x c κ (skim ⟨V.prog, V.w.params⟩ 400 t)
theorem accOk.tail {q : Nat × Nat} {acc : List (Nat × Nat)} (h : accOk (q :: acc)) : q.1 = q.2 ∧ accOk acc := by
  unfold accOk at h
  rw [List.map_cons, List.map_cons, List.cons.injEq] at h
  exact h
structure HOk (V : XV) (olds : List (Addr × Obj)) : Prop where
  size : V.h₀.objs.size = V.n₁
  tabs : ∀ a vs, chLook V.tabs a = some vs → ∃ c, V.h₀.TableAt c a vs
  kt : V.kt = .nil
  olds : ∀ p ∈ olds, V.h₀.get? p.1 = some p.2
theorem HOk.ok {V : XV} {olds : List (Addr × Obj)} (O : HOk V olds) : V.Ok := ⟨O.size, by rw [O.kt]; trivial, O.tabs⟩
def IHok (V : XV) (g : Array GenState) (ih : Code → Kont → Sem PySem.Fin → RestH) : Prop :=
  ∀ c κ t acc T m i ch, holdH (ih c κ t acc T m i ch) → accOk acc ∧ ∀ h, Rep V h T m ch → MeansH V c κ t ⟨h, g, V.d, V.t₀ + i, V.os⟩
section
variable {V : XV} {g : Array GenState} {olds : List (Addr × Obj)} {ih : Code → Kont → Sem PySem.Fin → RestH} (O : HOk V olds) (IH : IHok V g ih)
include IH
theorem retH_sound {r : Result} {c : Code} {κ : Kont} {t : Sem PySem.Fin} (ht : t = leafOf r) {acc : List (Nat × Nat)} {T : BT} {m i : Nat} {ch : Ch} (H : holdH (retH V g ih r κ acc T m i ch)) :
    accOk acc ∧ ∀ h, Rep V h T m ch → MeansH V c κ t ⟨h, g, V.d, V.t₀ + i, V.os⟩ := by
  have key : accOk acc ∧ ∀ h, Rep V h T m ch → endOf V κ r ⟨h, g, V.d, V.t₀ + i, V.os⟩ := by
    cases κ with
    | base => exact H
    | ret c₁ hd k κ => exact IH _ _ _ _ _ _ _ _ H
    | gen => exact (show False from H).elim
    | genS => exact (show False from H).elim
  refine ⟨key.1, fun h D => ?_⟩
  have := key.2 h D
  cases r with
  | ok f => subst ht; exact y_pure _ _ _ _ _ _ _ _ _ (y_done _ _ _ _ _ _ this)
  | error e => subst ht; exact y_raise _ _ _ _ _ _ _ _ _ (y_err _ _ _ this)
include O
theorem old_keep {h : Heap} {T : BT} {m : Nat} {ch : Ch} (D : Rep V h T m ch) {p : Addr × Obj} (hp : p ∈ olds) (hc : ((chLook ch p.1).isNone || hasCls p.2) = true) : h.get? p.1 = some p.2 := by
  have e := O.olds p hp
  refine D.keep _ _ e ?_
  cases q : chLook ch p.1 with
  | none => rfl
  | some vs =>
    obtain ⟨_, c, ps, more, ht, _⟩ := D.ch _ _ q
    have e2 := ht.2
    rw [e] at e2
    rw [Option.some.inj e2, q] at hc
    exact absurd hc (by simp [hasCls])
theorem stepH_sound (x : Hi) : ∀ c κ t acc T m i ch, holdH (stepH V g olds ih x c κ t acc T m i ch) → accOk acc ∧ ∀ h, Rep V h T m ch → MeansH V c κ t ⟨h, g, V.d, V.t₀ + i, V.os⟩ := by
  intro c κ t acc T m i ch H
  cases t with
  | pure fin =>
    cases fin with
    | done f => exact retH_sound IH rfl H
    | again c' =>
      obtain ⟨z1, z2⟩ := IH _ _ _ _ _ _ _ _ H
      have q : c'.quiet = true := by
        have := z1.tail.1
        cases e : c'.quiet with
        | true => rfl
        | false => rw [e] at this; exact absurd this (by decide)
      refine ⟨z1.tail.2, fun h D => y_pure _ _ _ _ _ _ _ _ _ (y_again _ _ _ _ _ _ q (y_code _ _ _ _ _ _ ?_))⟩
      rw [hDen_eq]
      exact z2 h D
  | raise e => exact retH_sound IH rfl H
  | load a q k =>
    cases x with
    | n => exact (show False from H).elim
    | w j =>
      simp only [stepH] at H
      split at H
      · rename_i o e
        obtain ⟨z1, z2⟩ := IH _ _ _ _ _ _ _ _ H
        refine ⟨z1.tail.2, fun h D => ?_⟩
        have ho := (D.own _ _ e).2
        have ea := z1.tail.1
        dsimp only at ea
        rw [← ea] at ho
        exact y_load _ _ _ _ _ _ _ _ _ _ _ _ _ _ _ _ ho (z2 h D)
      · exact (show False from H).elim
    | s j =>
      simp only [stepH] at H
      split at H
      · rename_i p e
        split at H
        · rename_i hc
          obtain ⟨z1, z2⟩ := IH _ _ _ _ _ _ _ _ H
          refine ⟨z1.tail.2, fun h D => ?_⟩
          have ho := old_keep O IH D (List.mem_of_getElem? e) hc
          have ea := z1.tail.1
          dsimp only at ea
          rw [← ea] at ho
          exact y_load _ _ _ _ _ _ _ _ _ _ _ _ _ _ _ _ ho (z2 h D)
        · exact (show False from H).elim
      · exact (show False from H).elim
    | t =>
      simp only [stepH] at H
      split at H
      · rename_i vs e
        obtain ⟨z1, z2⟩ := IH _ _ _ _ _ _ _ _ H
        refine ⟨z1, fun h D => y_load _ _ _ _ _ _ _ _ _ _ _ _ _ _ _ _ ?_ (z2 h D)⟩
        unfold nowTab at e
        cases q : chLook ch a with
        | some vs' => rw [q] at e; cases e; exact (D.ch a vs q).1
        | none =>
          rw [q] at e
          obtain ⟨c', ht⟩ := O.tabs a vs e
          exact D.keep _ _ ht.2 q
      · exact (show False from H).elim
  | alloc o k =>
    simp only [stepH] at H
    split at H
    · exact (show False from H).elim
    · rename_i hf
      split at H
      · rename_i o' e
        obtain ⟨z1, z2⟩ := IH _ _ _ _ _ _ _ _ H
        refine ⟨z1, fun h D => ?_⟩
        have D' := D.alloc O.ok hf (by rw [e]; rfl)
        have ea : h.objs.size = V.n₁ + m := D.size
        exact wpOwn_bind (m := alloc o) (f := k) (wpOwn_of_wpAny (wpAny_alloc (by rw [ea]; exact z2 _ D')))
      · exact (show False from H).elim
  | update a q f k =>
    cases x with
    | n => exact (show False from H).elim
    | s j => exact (show False from H).elim
    | w j =>
      simp only [stepH] at H
      split at H
      · rename_i o e
        split at H
        · exact (show False from H).elim
        · rename_i hf
          obtain ⟨z1, z2⟩ := IH _ _ _ _ _ _ _ _ H
          refine ⟨z1.tail.2, fun h D => ?_⟩
          have ea : a = V.n₁ + j := z1.tail.1
          subst ea
          have ho := (D.own _ _ e).2
          have D' := D.update O.ok (Nat.le_add_right _ _) (by rw [Nat.add_sub_cancel_left]; exact e) hf
          rw [Nat.add_sub_cancel_left] at D'
          exact wpOwn_bind (m := updatePart _ q f) (f := k) (wpOwn_of_wpAny (wpAny_updatePart ho (z2 _ D')))
      · exact (show False from H).elim
    | t =>
      simp only [stepH] at H
      split at H
      · rename_i vs e
        split at H
        · rename_i vs' e'
          split at H
          · rename_i more em
            obtain ⟨z1, z2⟩ := IH _ _ _ _ _ _ _ _ H
            refine ⟨z1, fun h D => ?_⟩
            obtain ⟨ho, D'⟩ := D.table O.ok e (tabOf_eq e') em
            exact wpOwn_bind (m := updatePart a q f) (f := k) (wpOwn_of_wpAny (wpAny_updatePart ho (z2 _ D')))
          · exact (show False from H).elim
        · exact (show False from H).elim
      · exact (show False from H).elim
  | fresh k =>
    obtain ⟨z1, z2⟩ := IH _ _ _ _ _ _ _ _ H
    exact ⟨z1, fun h D => y_fresh _ _ _ _ _ _ _ _ _ _ _ _ _ (z2 h D)⟩
  | handled own k =>
    cases own with
    | true => exact (show False from H).elim
    | false =>
      obtain ⟨z1, z2⟩ := IH _ _ _ _ _ _ _ _ H
      exact ⟨z1, fun h D => y_handled _ _ _ _ _ _ _ _ _ (z2 h D)⟩
  | stack k =>
    obtain ⟨z1, z2⟩ := H
    exact ⟨z1, fun h D => y_stack _ _ _ _ _ _ _ _ _ fun p below l => (IH _ _ _ _ _ _ _ _ (z2 p below l).out).2 h D⟩
  | call c' hd gg l k =>
    cases q : okMark hd with
    | false => simp only [stepH, q] at H; exact (show False from H).elim
    | true =>
      simp only [stepH, q] at H
      have hnb : hd ≠ some byPass := by
        intro e
        subst e
        simp [okMark] at q
      obtain ⟨z1, z2⟩ := IH _ _ _ _ _ _ _ _ H
      refine ⟨z1, fun h D => y_call _ _ _ _ _ _ _ _ _ _ _ _ _ hnb (y_code _ _ _ _ _ _ ?_)⟩
      rw [hDen_eq]
      exact z2 h D
  | _ => exact (show False from H).elim
end
theorem simH_sound {V : XV} {g : Array GenState} {olds : List (Addr × Obj)} (O : HOk V olds) : ∀ hs, IHok V g (simH V g olds hs)
  | [] => fun _ _ _ _ _ _ _ _ H => H
  | x :: hs => fun c κ t acc T m i ch H => by
    obtain ⟨z1, z2⟩ := stepH_sound O (simH_sound O hs) x _ _ _ _ _ _ _ _ H
    exact ⟨z1, fun h D => y_skim _ _ _ _ _ _ _ _ _ 400 (z2 h D)⟩
theorem oldsNil {h : Heap} : ∀ p ∈ ([] : List (Addr × Obj)), h.get? p.1 = some p.2 := fun _ hp => by cases hp
theorem oldsCons {h : Heap} {a : Addr} {o : Obj} {l : List (Addr × Obj)} (e : h.get? a = some o) (r : ∀ p ∈ l, h.get? p.1 = some p.2) : ∀ p ∈ (a, o) :: l, h.get? p.1 = some p.2 := fun p hp => by
  rcases List.mem_cons.mp hp with rfl | hp
  · exact e
  · exact r p hp
theorem oldsSnoc {h : Heap} {a : Addr} {o : Obj} {l : List (Addr × Obj)} (r : ∀ p ∈ l, h.get? p.1 = some p.2) (e : h.get? a = some o) : ∀ p ∈ l ++ [(a, o)], h.get? p.1 = some p.2 := fun p hp => by
  rcases List.mem_append.mp hp with hp | hp
  · exact r p hp
  · rw [List.mem_singleton.mp hp]; exact e
/-- a code's run from any state -/
theorem simH_code {prog : Program} {w : World} {A : Around} {R : Result → Shared → Prop} {s : Shared} {c : Code} (n : Nat) (tabs : Ch) (olds : List (Addr × Obj)) (hs : List Hi)
    (hn : s.heap.objs.size = n) (ht : ∀ a vs, chLook tabs a = some vs → ∃ c, s.heap.TableAt c a vs) (ho : ∀ p ∈ olds, s.heap.get? p.1 = some p.2)
    (H : HOk ⟨prog, w, s.heap, n, .nil, tabs, A, R, s.drawn, s.toks, s.os⟩ olds → HoldH (simH ⟨prog, w, s.heap, n, .nil, tabs, A, R, s.drawn, s.toks, s.os⟩ s.gens olds hs c .base (hDen c) [] .nil 0 0 [])) : codeAny (model prog w) A c R s := by
  have O : HOk ⟨prog, w, s.heap, n, .nil, tabs, A, R, s.drawn, s.toks, s.os⟩ olds := ⟨hn, ht, rfl, ho⟩
  refine y_code _ _ _ _ _ _ ?_
  rw [hDen_eq]
  exact (simH_sound O hs _ _ _ _ _ _ _ _ (H O).out).2 s.heap (Rep.start O.ok)
/-- going on from where a run stopped -/
theorem simH_more {V : XV} {g : Array GenState} {olds : List (Addr × Obj)} (O : HOk V olds) (hs : List Hi) {c : Code} {κ : Kont} {t : Sem PySem.Fin} {h : Heap} {T : BT} {m i : Nat} {ch : Ch} (D : Rep V h T m ch)
    (H : HoldH (simH V g olds hs c κ t [] T m i ch)) : MeansH V c κ t ⟨h, g, V.d, V.t₀ + i, V.os⟩ := (simH_sound O hs _ _ _ _ _ _ _ _ H.out).2 h D
theorem end_at {R : Result → Shared → Prop} {r : Result} {s : Shared} (r' : Result) (e : r = r') (h : R r' s) : R r s := e ▸ h
theorem dec_any {p : Prop} (d d' : Decidable p) : @decide p d = @decide p d' := by congr
theorem means_skim {V : XV} {c : Code} {κ : Kont} {t : Sem PySem.Fin} {s : Shared} (h : MeansH V c κ (skim ⟨V.prog, V.w.params⟩ 400 t) s) : MeansH V c κ t s := y_skim _ _ _ _ _ _ _ _ _ 400 h
/-- a call that a lemma answers -/
theorem means_call {V : XV} {c : Code} {κ : Kont} {c' : Code} (c'' : Code) {hd : Option Value} {g : Bool} {l : List Value} {k : Result → Sem PySem.Fin} {s : Shared} (e : c' = c'') (hn : hd = none)
    (h : codeAny (model V.prog V.w) ((aroundOf V true κ).under c) c'' (fun r s' => MeansH V c κ (k r) s') s) : MeansH V c κ (.call c' hd g l k) s := by
  subst e hn
  exact y_call _ _ _ _ _ _ _ _ _ _ _ _ _ (by simp) h
/-- the same run from a heap that is known anew -/
def moveV (V : XV) (h : Heap) (d : Drawn) (t : Nat) (os : OsState) : XV := ⟨V.prog, V.w, h, h.objs.size, .nil, [], V.A₀, V.R₀, d, t, os⟩
theorem move_around {V : XV} {h : Heap} {d : Drawn} {t : Nat} {os : OsState} : ∀ (κ : Kont) (b : Bool), aroundOf (moveV V h d t os) b κ = aroundOf V b κ
  | .base, true => rfl
  | .base, false => rfl
  | .ret c hd k κ, true => by
    show ((aroundOf (moveV V h d t os) true κ).under c).mark hd = ((aroundOf V true κ).under c).mark hd
    rw [move_around κ true]
  | .ret .., false => rfl
  | .gen .., true => rfl
  | .genS .., true => rfl
  | .gen _ c _ κ, false => by
    show (aroundOf (moveV V h d t os) true κ).under c = (aroundOf V true κ).under c
    rw [move_around κ true]
  | .genS _ c fs _ κ, false => by
    show (aroundOf (moveV V h d t os) false κ).over c fs = (aroundOf V false κ).over c fs
    rw [move_around κ false]
theorem move_end {V : XV} {h : Heap} {d : Drawn} {t : Nat} {os : OsState} : ∀ κ : Kont, endOf (moveV V h d t os) κ = endOf V κ
  | .base => rfl
  | .ret c hd k κ => by
    show postR V.prog V.w (aroundOf (moveV V h d t os) true κ) c (postC V.prog V.w (aroundOf (moveV V h d t os) true κ) (endOf (moveV V h d t os) κ)) (postE (endOf (moveV V h d t os) κ)) k =
      postR V.prog V.w (aroundOf V true κ) c (postC V.prog V.w (aroundOf V true κ) (endOf V κ)) (postE (endOf V κ)) k
    rw [move_around κ true, move_end κ]
  | .gen .. => rfl
  | .genS .. => rfl
theorem simH_again {V : XV} {g : Array GenState} (olds : List (Addr × Obj)) (hs : List Hi) {c : Code} {κ : Kont} {t : Sem PySem.Fin} {h : Heap} {d : Drawn} {tk : Nat} {os : OsState} (ho : ∀ p ∈ olds, h.get? p.1 = some p.2)
    (H : HOk (moveV V h d tk os) olds → HoldH (simH (moveV V h d tk os) g olds hs c κ t [] .nil 0 0 [])) : MeansH V c κ t ⟨h, g, d, tk, os⟩ := by
  have O : HOk (moveV V h d tk os) olds := ⟨rfl, (fun _ _ e => nomatch e), rfl, ho⟩
  have z := (simH_sound O hs _ _ _ _ _ _ _ _ (H O).out).2 h (Rep.start O.ok)
  unfold MeansH at z ⊢
  rw [move_around, move_end] at z
  exact z
end Mine
end
section
open PySem PySem.W PyProof.Rows
namespace Mine
/-- the sort by questions, when each question is answered by keys -/
def gp (p : Array Nat) (i : Nat) : Nat := p.getD i 0
theorem gp_eq (p : Array Nat) (i : Nat) : gp p i = (p[i]?).getD 0 := by
  unfold gp
  by_cases h : i < p.size
  · simp [Array.getD, h]
  · simp [Array.getD, h]
theorem gp_congr {p q : Array Nat} {i j : Nat} (h : p[i]? = q[j]?) : gp p i = gp q j := by rw [gp_eq, gp_eq, h]
theorem gp_rev {p : Array Nat} {i j : Nat} (hj : j ≤ p.size) (k : Nat) : gp (kas_rev p i j) k = if i ≤ k ∧ k < j then gp p (i + j - 1 - k) else gp p k := by
  have e := getElem?_mirror_all (i := i) hj k
  by_cases h1 : i ≤ k ∧ k < j
  · rw [if_pos h1] at e ⊢; exact gp_congr e
  · rw [if_neg h1] at e ⊢; exact gp_congr e
theorem gp_bubble {p : Array Nat} {src d : Nat} (hs : src < p.size) (hd : d ≤ src) (k : Nat) : gp (bubble p src d) k = if k = src - d then gp p src else if src - d < k ∧ k ≤ src then gp p (k - 1) else gp p k := by
  have e := getElem?_bubble hs d hd k
  by_cases h1 : k = src - d
  · rw [if_pos h1] at e ⊢; exact gp_congr e
  · rw [if_neg h1] at e ⊢
    by_cases h2 : src - d < k ∧ k ≤ src
    · rw [if_pos h2] at e ⊢; exact gp_congr e
    · rw [if_neg h2] at e ⊢; exact gp_congr e
section
variable (n : Nat) (key : Nat → Int)
structure PB (p : Array Nat) : Prop where
  perm : p.Perm (List.toArray (List.range n))
theorem PB.size {p : Array Nat} (h : PB n p) : p.size = n := by rw [h.perm.size_eq]; simp
theorem PB.lt {p : Array Nat} (h : PB n p) (h0 : 0 < n) (i : Nat) : gp p i < n := by
  rw [gp_eq]
  cases e : p[i]? with
  | none => exact h0
  | some x =>
    have hm : x ∈ p.toList := Array.mem_toList_iff.mpr (Array.mem_of_getElem? e)
    have := (Array.perm_iff_toList_perm.mp h.perm).mem_iff.mp hm
    simpa using this
def Inc (p : Array Nat) (k : Nat) : Prop := ∀ i j, i ≤ j → j < k → key (gp p i) ≤ key (gp p j)
def Dec (p : Array Nat) (k : Nat) : Prop := ∀ i j, i ≤ j → j < k → key (gp p j) ≤ key (gp p i)
end
section
variable {n : Nat} {key : Nat → Int} {I : Shared → Prop} {cmp : Nat → Nat → (Bool → Shared → Prop) → Shared → Prop}
  (hc : ∀ i j s C, i < n → j < n → I s → (∀ s', I s' → C (decide (key i < key j)) s') → cmp i j C s) (h0 : 0 < n)
include hc h0
theorem ask_ok {α : Type} {p q : Array Nat} (B : PB n p) {i j : Nat} {k : Bool → KasT α} {G : α → Shared → Prop} {s : Shared} (hI : I s) (h : ∀ s', I s' → (k (decide (key (gp p i) < key (gp p j)))).kasWp cmp G s') :
    (KasT.ask (p.getD i 0) (p.getD j 0) k).kasWp cmp G s := hc _ _ s _ (B.lt n h0 i) (B.lt n h0 j) hI h
theorem asc_ok {p : Array Nat} (B : PB n p) {G : Nat → Shared → Prop} : ∀ (f m : Nat) (s : Shared), 1 ≤ m → m + f ≤ n → Inc key p m → I s →
    (∀ r s', I s' → m ≤ r → r ≤ m + f → Inc key p r → (r = m + f ∨ key (gp p r) < key (gp p (r - 1))) → G r s') → (kas_asc p f m).kasWp cmp G s
  | 0, m, s, h1, hz, hs, hI, hG => hG m s hI (Nat.le_refl _) (by lia) hs (.inl rfl)
  | f + 1, m, s, h1, hz, hs, hI, hG => by
    refine ask_ok (q := p) hc h0 B hI fun s' hI' => ?_
    by_cases h : key (gp p m) < key (gp p (m - 1))
    · rw [decide_eq_true h, if_pos rfl]
      exact hG m s' hI' (Nat.le_refl _) (by lia) hs (.inr h)
    · rw [decide_eq_false h, if_neg (by simp)]
      refine asc_ok B f (m + 1) s' (by lia) (by lia) (fun i j hij hj => ?_) hI' fun r s'' hI'' a1 a2 a3 a4 => hG r s'' hI'' (by lia) (by lia) a3 (by rcases a4 with a4 | a4; exact .inl (by lia); exact .inr a4)
      by_cases hjm : j < m
      · exact hs i j hij hjm
      · obtain rfl : j = m := by lia
        by_cases hi : i = j
        · subst hi; exact Int.le_refl _
        · have := hs i (j - 1) (by lia) (by lia)
          lia
theorem desc_ok {G : Array Nat × Nat × Nat → Shared → Prop} : ∀ (f : Nat) (p : Array Nat) (m q : Nat) (s : Shared), PB n p → 1 ≤ m → m + f ≤ n → Dec key p m → q + 1 ≤ m → (∀ i, m - (q + 1) ≤ i → i < m → key (gp p i) = key (gp p (m - 1))) → I s →
    (∀ p' r q' s', I s' → PB n p' → m ≤ r → r ≤ m + f → Dec key p' r → q' + 1 ≤ r → (∀ i, r - (q' + 1) ≤ i → i < r → key (gp p' i) = key (gp p' (r - 1))) → G (p', r, q') s') → (kas_desc f p m q).kasWp cmp G s
  | 0, p, m, q, s, B, h1, hz, hs, hq, he, hI, hG => hG p m q s hI B (Nat.le_refl _) (by lia) hs hq he
  | f + 1, p, m, q, s, B, h1, hz, hs, hq, he, hI, hG => by
    refine ask_ok (q := p) hc h0 B hI fun s' hI' => ?_
    have hsz := B.size
    have ext : ∀ p' : Array Nat, (∀ k, key (gp p' k) = key (gp p k)) → key (gp p m) ≤ key (gp p (m - 1)) → Dec key p' (m + 1) := fun p' hk hle i j hij hj => by
      rw [hk, hk]
      by_cases hjm : j < m
      · exact hs i j hij hjm
      · obtain rfl : j = m := by lia
        by_cases hi : i = j
        · subst hi; exact Int.le_refl _
        · have := hs i (j - 1) (by lia) (by lia)
          lia
    by_cases h : key (gp p m) < key (gp p (m - 1))
    · rw [decide_eq_true h, if_pos rfl]
      by_cases hq0 : q > 0
      · rw [if_pos hq0]
        have hk : ∀ k, key (gp (kas_rev p (m - (q + 1)) m) k) = key (gp p k) := fun k => by
          rw [gp_rev (by lia)]
          split
          · rw [he _ (by lia) (by lia), he k (by lia) (by lia)]
          · rfl
        exact desc_ok f _ (m + 1) 0 s' ⟨(mirror_perm _ _ _ _).trans B.perm⟩ (by lia) (by lia) (ext _ hk (by lia)) (by lia) (fun i a b => by congr 2; lia) hI'
          fun p' r q' s'' hI'' a1 a2 a3 a4 a5 a6 => hG p' r q' s'' hI'' a1 (by lia) (by lia) a4 a5 a6
      · rw [if_neg hq0]
        exact desc_ok f p (m + 1) 0 s' B (by lia) (by lia) (ext p (fun _ => rfl) (by lia)) (by lia) (fun i a b => by congr 2; lia) hI'
          fun p' r q' s'' hI'' a1 a2 a3 a4 a5 a6 => hG p' r q' s'' hI'' a1 (by lia) (by lia) a4 a5 a6
    · rw [decide_eq_false h, if_neg (by simp)]
      refine ask_ok (q := p) hc h0 B hI' fun s'' hI'' => ?_
      by_cases h2 : key (gp p (m - 1)) < key (gp p m)
      · rw [decide_eq_true h2, if_pos rfl]
        exact hG p m q s'' hI'' B (Nat.le_refl _) (by lia) hs hq he
      · rw [decide_eq_false h2, if_neg (by simp)]
        refine desc_ok f p (m + 1) (q + 1) s'' B (by lia) (by lia) (ext p (fun _ => rfl) (by lia)) (by lia) (fun i a b => ?_) hI''
          fun p' r q' s3 hI3 a1 a2 a3 a4 a5 a6 => hG p' r q' s3 hI3 a1 (by lia) (by lia) a4 a5 a6
        rw [show m + 1 - 1 = m by lia]
        by_cases hi : i = m
        · rw [hi]
        · rw [he i (by lia) (by lia)]; lia
theorem tail_ok {p : Array Nat} (B : PB n p) {G : Nat × Array Nat → Shared → Prop} {m : Nat} {s : Shared} (h1 : 1 ≤ m) (hm : m ≤ n) (hs : Dec key p m) (hI : I s)
    (hG : ∀ r p' s', I s' → PB n p' → 1 ≤ r → r ≤ n → Inc key p' r → G (r, p') s') : (kas_tail3 m n p).kasWp cmp G s := by
  unfold kas_tail3
  rw [KasT.kasWp_bind]
  have B' : PB n (kas_rev p 0 m) := ⟨(mirror_perm _ _ _ _).trans B.perm⟩
  have hsz := B.size
  refine asc_ok hc h0 B' (n - m) m s h1 (by lia) (fun i j hij hj => ?_) hI fun r s' hI' a1 a2 a3 _ => hG r _ s' hI' B' (by lia) (by lia) a3
  rw [gp_rev (by lia), gp_rev (by lia), if_pos (by lia), if_pos (by lia)]
  exact hs _ _ (by lia) (by lia)
theorem part_ok {p : Array Nat} (B : PB n p) {G : Nat × Array Nat → Shared → Prop} {m : Nat} {s : Shared} (hm : m + 1 ≤ n) (hs : Dec key p (m + 1)) (hI : I s)
    (hG : ∀ r p' s', I s' → PB n p' → 1 ≤ r → r ≤ n → Inc key p' r → G (r, p') s') : (kas_descPart m n p).kasWp cmp G s := by
  unfold kas_descPart
  rw [KasT.kasWp_bind]
  refine desc_ok hc h0 (n - (m + 1)) p (m + 1) 0 s B (by lia) (by lia) hs (by lia) (fun i a b => by congr 2; lia) hI fun p' r q' s' hI' B' a2 a3 a4 a5 a6 => ?_
  have hsz := B'.size
  try dsimp only
  by_cases hq : q' > 0
  · rw [if_pos hq]
    refine tail_ok hc h0 (p := kas_rev p' (r - (q' + 1)) r) ⟨(mirror_perm _ _ _ _).trans B'.perm⟩ (by lia) (by lia) (fun i j hij hj => ?_) hI' hG
    have hk : ∀ k, key (gp (kas_rev p' (r - (q' + 1)) r) k) = key (gp p' k) := fun k => by
      rw [gp_rev (by lia)]
      split
      · rw [a6 _ (by lia) (by lia), a6 k (by lia) (by lia)]
      · rfl
    rw [hk, hk]
    exact a4 i j hij hj
  · rw [if_neg hq]
    exact tail_ok hc h0 B' (by lia) (by lia) a4 hI' hG
theorem count_ok {p : Array Nat} (B : PB n p) {G : Nat × Array Nat → Shared → Prop} {s : Shared} (hI : I s)
    (hG : ∀ r p' s', I s' → PB n p' → 1 ≤ r → r ≤ n → Inc key p' r → G (r, p') s') : (kas_count n p).kasWp cmp G s := by
  unfold kas_count
  rw [KasT.kasWp_bind]
  have hsz := B.size
  refine asc_ok hc h0 B (n - 1) 1 s (Nat.le_refl _) (by lia) (fun i j hij hj => by rw [show i = j by lia]; exact Int.le_refl _) hI fun r s' hI' a1 a2 a3 a4 => ?_
  try dsimp only
  by_cases e : r = n
  · rw [if_pos (by simpa using e)]
    exact hG r p s' hI' B (by lia) (by lia) a3
  · rw [if_neg (by simpa using e)]
    have hlt : key (gp p r) < key (gp p (r - 1)) := a4.resolve_left (by lia)
    by_cases h1 : r > 1
    · rw [if_pos h1]
      refine ask_ok (q := p) hc h0 B hI' fun s'' hI'' => ?_
      by_cases h : key (gp p 0) < key (gp p (r - 1))
      · rw [decide_eq_true h, if_pos rfl]
        exact hG r p s'' hI'' B (by lia) (by lia) a3
      · rw [decide_eq_false h, if_neg (by simp)]
        have hall : ∀ k, k < r → key (gp p k) = key (gp p (r - 1)) := fun k hk => by
          have b1 := a3 0 k (by lia) hk
          have b2 := a3 k (r - 1) (by lia) (by lia)
          lia
        refine part_ok hc h0 (p := kas_rev p 0 r) ⟨(mirror_perm _ _ _ _).trans B.perm⟩ (by lia) (fun i j hij hj => ?_) hI'' hG
        have hk : ∀ k, key (gp (kas_rev p 0 r) k) = key (gp p k) := fun k => by
          rw [gp_rev (by lia)]
          split
          · rw [hall _ (by lia), hall k (by lia)]
          · rfl
        rw [hk, hk]
        by_cases hjr : j < r
        · rw [hall i (by lia), hall j hjr]; exact Int.le_refl _
        · obtain rfl : j = r := by lia
          by_cases hi : i = j
          · subst hi; exact Int.le_refl _
          · rw [hall i (by lia)]; lia
    · rw [if_neg h1]
      obtain rfl : r = 1 := by lia
      refine part_ok hc h0 B (by lia) (fun i j hij hj => ?_) hI' hG
      by_cases hi : i = j
      · subst hi; exact Int.le_refl _
      · obtain rfl : i = 0 := by lia
        obtain rfl : j = 1 := by lia
        have : (1 : Nat) - 1 = 0 := rfl
        rw [this] at hlt
        lia
theorem place_ok {p : Array Nat} (B : PB n p) {k : Nat} (hk : Inc key p k) {G : Nat → Shared → Prop} : ∀ (f l r : Nat) (s : Shared), l ≤ r → r ≤ k → r - l ≤ f → (∀ i, i < l → key (gp p i) ≤ key (gp p k)) → (∀ i, r ≤ i → i < k → key (gp p k) < key (gp p i)) → I s →
    (∀ l s', I s' → l ≤ k → (∀ i, i < l → key (gp p i) ≤ key (gp p k)) → (∀ i, l ≤ i → i < k → key (gp p k) < key (gp p i)) → G l s') → (kas_place p k f l r).kasWp cmp G s
  | 0, l, r, s, hlr, hrk, hf, hlo, hhi, hI, hG => by
    obtain rfl : l = r := by lia
    exact hG l s hI hrk hlo hhi
  | f + 1, l, r, s, hlr, hrk, hf, hlo, hhi, hI, hG => by
    unfold kas_place
    by_cases hge : l ≥ r
    · rw [if_pos hge]
      obtain rfl : l = r := by lia
      exact hG l s hI hrk hlo hhi
    · rw [if_neg hge]
      refine ask_ok (q := p) hc h0 B hI fun s' hI' => ?_
      by_cases h : key (gp p k) < key (gp p ((l + r) / 2))
      · rw [decide_eq_true h, if_pos rfl]
        exact place_ok B hk f l ((l + r) / 2) s' (by lia) (by lia) (by lia) hlo (fun i a b => by have := hk ((l + r) / 2) i a b; lia) hI' hG
      · rw [decide_eq_false h, if_neg (by simp)]
        exact place_ok B hk f ((l + r) / 2 + 1) r s' (by lia) hrk (by lia) (fun i a => by have := hk i ((l + r) / 2) (by lia) (by lia); lia) hhi hI' hG
theorem bin_ok {G : Array Nat → Shared → Prop} : ∀ (f : Nat) (p : Array Nat) (k : Nat) (s : Shared), PB n p → 1 ≤ k → k + f = n → Inc key p k → I s → (∀ p' s', I s' → PB n p' → Inc key p' n → G p' s') → (kas_bin f p k).kasWp cmp G s
  | 0, p, k, s, B, h1, hz, hs, hI, hG => hG p s hI B (by rw [← hz]; exact hs)
  | f + 1, p, k, s, B, h1, hz, hs, hI, hG => by
    show ((kas_place p k k 0 k).bind fun l => kas_bin f (bubble p k (k - l)) (k + 1)).kasWp cmp G s
    rw [KasT.kasWp_bind]
    have hsz := B.size
    refine place_ok hc h0 B hs k 0 k s (by lia) (Nat.le_refl _) (by lia) (fun i hi => by lia) (fun i a b => by lia) hI fun l s' hI' hl hlo hhi => ?_
    refine bin_ok f _ (k + 1) s' ⟨(bubble_perm _ _ _).trans B.perm⟩ (by lia) (by lia) (fun i j hij hj => ?_) hI' hG
    rw [gp_bubble (by lia) (by lia), gp_bubble (by lia) (by lia), show k - (k - l) = l by lia]
    repeat' split
    all_goals first
      | (exfalso; lia)
      | exact Int.le_refl _
      | exact hlo _ (by lia)
      | exact Int.le_of_lt (hhi _ (by lia) (by lia))
      | exact hs _ _ (by lia) (by lia)
theorem sort_ok {G : Array Nat → Shared → Prop} {s : Shared} (hI : I s) (hG : ∀ p s', I s' → PB n p → Inc key p n → G p s') : (kas_sort n).kasWp cmp G s := by
  unfold kas_sort
  rw [KasT.kasWp_bind]
  refine count_ok hc h0 (p := List.toArray (List.range n)) ⟨Array.Perm.refl _⟩ hI fun r p s' hI' B a1 a2 a3 => ?_
  try dsimp only
  by_cases h : r < n
  · rw [if_pos h, show max r 1 = r by lia]
    exact bin_ok hc h0 (n - r) p r s' B a1 (by lia) a3 hI' fun p' s'' hI'' B' a => hG p' s'' hI'' B' a
  · rw [if_neg h]
    obtain rfl : r = n := by lia
    exact hG p s' hI' B a3
end
end Mine
end
section
open PySem PySem.W PySem.W.X PyProof.Rows
set_option maxRecDepth 100000
set_option maxHeartbeats 8000000
namespace Mine
theorem sameRef_ne {a b : Nat} {v : Value} (hv : v = .ref b) (h : ¬ (a = b)) : Builtin.List.listSameRef (.ref a) v = false := by
  subst hv
  show decide (a = b) = false
  exact decide_eq_false h
theorem filt_self {d : DecidableEq Value} {a : Nat} {M : List Value} (hM : M = [.ref a, .type "object"]) : W.R.filterR (fun x => @bne Value (@instBEqOfDecidableEq Value d) x (Value.ref a)) M = [.type "object"] := by
  subst hM
  rw [← W.R.filterR_eq]
  have e : ∀ x y : Value, @bne Value (@instBEqOfDecidableEq Value d) x y = !decide (x = y) := fun x y => by
    show (!@decide (x = y) (d x y)) = _
    congr
  simp [List.filter, e]
theorem has_self {a : Nat} {M : List Value} (hM : M = [.ref a, .type "object"]) : @ZFast.zw3471404346716756564 Value (@instBEqOfDecidableEq Value ZFast.zw7966671052430208091) M (.ref a) = true := by
  subst hM
  rw [← ZFast.ze3471404346716756564]
  simp
theorem drop_self {a : Nat} {M : List Value} {v : Value} (hM : M = [.ref a, .type "object"]) (hv : v = .ref a) : List.drop 1 (List.dropWhile (fun x : Value => @bne Value (@instBEqOfDecidableEq Value ZFast.zw7966671052430208091) x v) M) = [.type "object"] := by
  subst hM hv
  simp [List.dropWhile]
theorem eq_self_ref {a : Nat} {x y : Value} (hx : x = .ref a) (hy : y = .ref a) : @BEq.beq Value (@instBEqOfDecidableEq Value ZFast.zw7966671052430208091) x y = true := by
  subst hx hy
  simp
/-- the class statement's body in cmp_to_key, and its defs -/
noncomputable def clsBody (P : Params) : List Stmt := match (Mine01.hd.heap_1 P).lookup 136 with
  | some ⟨_, _, .func fd, _⟩ => (match fd.body with | .stmts (.ClassDef _ _ _ body _ _ _ _ _ _ _ :: _) => body | _ => [])
  | _ => []
noncomputable def defAt (P : Params) (i : Nat) : Arguments × List Stmt × Scope := match (clsBody P)[i]? with
  | some (.FunctionDef _ a b _ _ _ sc _ _ _) => (a, b, sc)
  | _ => default
abbrev kEnt (e : Nat → Int) (i : Nat) (s : String) (t : Nat) (v : Value) : DictEntry := { hash := e i, key := .str (Str.ofString s) t, val := v }
/-- a method of the class made -/
noncomputable abbrev kFn (P : Params) (i : Nat) (s : String) (cl : List (Str × Addr)) (pm : Value) (c : Addr) (ct : Value) : Obj :=
  { cls := .type "function", data := .func { name := Str.ofString s, qualname := Str.ofString ("cmp_to_key.<locals>.K." ++ s), params := (defAt P i).1, body := .stmts (defAt P i).2.1, scope := (defAt P i).2.2, globals := 3, closure := cl, defaults := .none, kwdefaults := .none, pyModule := pm, code := .ref c, closureTuple := ct } }
abbrev kCode (v : Nat → Value) (s : String) (t : Nat) : Obj :=
  { cls := .type "code", data := .fields #[v 0, .str (Str.ofString ("cmp_to_key.<locals>.K." ++ s)) t, v 2, v 3, v 4, v 5, v 6, v 7, v 8, v 9, v 10, v 11, v 12, v 13, v 14, v 15, v 16, v 17, v 18] }
noncomputable def kObjs (P : Params) (e : Nat → Int) (v1 v2 : Nat → Value) (pm : Value) (r q : Nat → Nat) (f : Addr) : List (Addr × Obj) := [
  (r 60, { cls := .type "type", data := .cls { name := Str.ofString "K", bases := [.type "object"], mro := [.ref (r 60), .type "object"], ns := r 59, qualname := Str.ofString "cmp_to_key.<locals>.K", hasDict := false, slotNames := [Str.ofString "obj"] }, slots := #[some (.ref (r 2)), none, some (.str (Str.ofString "K") (q 0)), some (.str (Str.ofString "cmp_to_key.<locals>.K") (q 9)), some (.builtin "object.__new__"), some (.bool false)] }),
  (r 59, { cls := .type "dict", data := .dict #[kEnt e 0 "__module__" (q 8) (.str (Str.ofString "cpy313.functools") (q 13)), kEnt e 1 "__firstlineno__" (q 12) (v1 19), kEnt e 2 "__slots__" (q 16) (.ref (r 9)), kEnt e 3 "__init__" (q 24) (.ref (r 16)),
    kEnt e 4 "__lt__" (q 33) (.ref (r 24)), kEnt e 5 "__gt__" (q 42) (.ref (r 32)), kEnt e 6 "__eq__" (q 51) (.ref (r 40)), kEnt e 7 "__le__" (q 60) (.ref (r 48)), kEnt e 8 "__ge__" (q 69) (.ref (r 56)), kEnt e 9 "__hash__" (q 70) .none,
    kEnt e 10 "__static_attributes__" (q 72) (.ref (r 57)), kEnt e 11 "obj" (q 74) (.ref (r 61)), kEnt e 12 "__doc__" (q 75) .none] 3 }),
  (r 61, { cls := .type "member_descriptor", data := .fields #[.str (Str.ofString "obj") (q 73), .ref (r 60), .builtin "proto.slot", .builtin "proto.slot#set", .int 0 0] }),
  (r 16, kFn P 2 "__init__" [] pm (r 15) .none),
  (r 15, kCode v1 "__init__" (q 18)),
  (r 24, kFn P 3 "__lt__" [(Str.ofString "mycmp", r 1)] pm (r 23) (.ref (r 17))),
  (r 23, kCode v2 "__lt__" (q 26)),
  (r 1, { cls := .type "cell", data := .cell (some (.ref f)) })]
/-- the class made by cmp_to_key(f), at C -/
def KeyAt (P : Params) (h : Heap) (C f : Addr) : Prop := ∃ r q e v1 v2 pm, C = r 60 ∧ ∀ p ∈ kObjs P e v1 v2 pm r q f, h.get? p.1 = some p.2
abbrev codeF (v : Nat → Value) (s1 : String) (t : Nat) (x11 : Value) : Obj :=
  { cls := .type "code", data := .fields #[v 0, .str (Str.ofString s1) t, v 2, v 3, v 4, v 5, v 6, v 7, v 8, v 9, v 10, x11, v 12, v 13, v 14, v 15, v 16, v 17, v 18] }
/-- the codes that the class statement leaves -/
def cdObjs (vc v1 v2 : Nat → Value) (tq t1 t2 cc tt : Nat) (ms : Nat → Nat) : List (Addr × Obj) := [
  (131, tabObj #[.int 168 0, .int 4 0, .ref cc]),
  (cc, codeF vc "cmp_to_key.<locals>.K" tq (.ref tt)),
  (tt, tabObj #[.int 172 0, .int 8 0, .ref (ms 1), .int 175 0, .int 8 0, .ref (ms 2), .int 178 0, .int 8 0, .ref (ms 3), .int 181 0, .int 8 0, .ref (ms 4), .int 184 0, .int 8 0, .ref (ms 5), .int 187 0, .int 8 0, .ref (ms 6)]),
  (ms 1, kCode v1 "__init__" t1),
  (ms 2, kCode v2 "__lt__" t2)]
def kIdx : List Nat := [60, 59, 61, 16, 15, 24, 23, 1]
def eOf (T : BT) (j : Nat) : Int := match T.get 59 with
  | some ⟨_, _, .dict es _, _⟩ => (es[j]?.map (·.hash)).getD 0
  | _ => 0
def vOf (T : BT) (i j : Nat) : Value := match T.get i with
  | some ⟨_, _, .fields vs, _⟩ => vs.getD j .none
  | _ => .none
def lineOf (T : BT) (j : Nat) : Value := match Nat.beq j 19, T.get 59 with
  | true, some ⟨_, _, .dict es _, _⟩ => (es[1]?.map (·.val)).getD .none
  | _, _ => vOf T 15 j
def pmOf (T : BT) : Value := match T.get 16 with
  | some ⟨_, _, .func fd, _⟩ => fd.pyModule
  | _ => .none
theorem rep_all {V : XV} {h : Heap} {T : BT} {m : Nat} {ch : Ch} (D : Rep V h T m ch) : ∀ (idx : List Nat) (l : List (Addr × Obj)), idx.map T.get = l.map (fun p => some p.2) → l.map (·.1) = idx.map (V.n₁ + ·) → ∀ p ∈ l, h.get? p.1 = some p.2
  | [], [], _, _ => fun p hp => by cases hp
  | [], _ :: _, H, _ => by simp at H
  | _ :: _, [], H, _ => by simp at H
  | i :: q, a :: l, H, e => by
    simp only [List.map_cons, List.cons.injEq] at H e
    intro p hp
    rcases List.mem_cons.mp hp with rfl | hp
    · rw [e.1]; exact (D.own _ _ H.1).2
    · exact rep_all D q l H.2 e.2 p hp
theorem made_end {V : XV} {h : Heap} {T : BT} {m : Nat} {ch : Ch} {P : Params} {t : Nat} {f : Addr} (D : Rep V h T m ch)
    (H : kIdx.map T.get = (kObjs P (eOf T) (lineOf T) (vOf T 23) (pmOf T) (V.n₁ + ·) (t + ·) f).map fun p => some p.2) : KeyAt P h (V.n₁ + 60) f :=
  ⟨(V.n₁ + ·), (t + ·), eOf T, lineOf T, vOf T 23, pmOf T, rfl, rep_all D _ _ H rfl⟩
def cIdx : List Nat := [7, 6, 15, 23]
def mIdx (j : Nat) : Nat := 8 * j + 7
theorem made_codes {V : XV} {h : Heap} {T : BT} {m : Nat} {ch : Ch} {t : Nat} (D : Rep V h T m ch) (H0 : h.get? 131 = some (tabObj #[.int 168 0, .int 4 0, .ref (V.n₁ + 7)]))
    (H : cIdx.map T.get = (cdObjs (vOf T 7) (vOf T 15) (vOf T 23) (t + 3) (t + 18) (t + 26) (V.n₁ + 7) (V.n₁ + 6) (fun j => V.n₁ + mIdx j)).tail.map fun p => some p.2) :
    ∀ p ∈ cdObjs (vOf T 7) (vOf T 15) (vOf T 23) (t + 3) (t + 18) (t + 26) (V.n₁ + 7) (V.n₁ + 6) (fun j => V.n₁ + mIdx j), h.get? p.1 = some p.2 := by
  intro p hp
  rcases List.mem_cons.mp hp with rfl | hp
  · exact H0
  · exact rep_all D _ _ H rfl p hp
theorem made_old {V : XV} {h : Heap} {T : BT} {m : Nat} {ch : Ch} {a : Nat} (D : Rep V h T m ch) (hc : ch = [(a, (chLook ch a).getD #[])]) :
    (∀ b o, V.h₀.get? b = some o → b ≠ a → h.get? b = some o) ∧ h.get? a = some (tabObj ((chLook ch a).getD #[])) := by
  have e : ∀ b, chLook ch b = if a = b then some ((chLook ch a).getD #[]) else none := fun b => by
    have q : ∀ vs : Array Value, chLook [(a, vs)] b = if a = b then some vs else none := fun vs => by
      show (match Nat.beq a b with | true => some vs | false => none) = _
      rw [BT.beq_eq]
      by_cases h : a = b <;> simp [h]
    conv => lhs; rw [hc]
    exact q _
  refine ⟨fun b o ho hb => D.keep b o ho (by rw [e, if_neg (Ne.symm hb)]), ?_⟩
  have := e a
  rw [if_pos rfl] at this
  exact (D.ch _ _ this).1
theorem cls_made {w : World} {s : Shared} {A : Around} {R : Result → Shared → Prop} (f : Addr) (k : Nat) (hd : A.depth + 5 < recursionLimit) (hn : s.heap.objs.size = k + 100) (X : (Mine01.hd.heap_1 w.params).In s.heap) (B : (Mine01.boots w.params).In s.heap)
    (ht : ∀ a vs, chLook [(131, #[])] a = some vs → ∃ c, s.heap.TableAt c a vs)
    (done : ∀ h' tk vc v1 v2 tq t1 t2, KeyAt w.params h' (k + 100 + 60) f → (∀ b o, s.heap.get? b = some o → b ≠ 131 → h'.get? b = some o) → (∀ p ∈ cdObjs vc v1 v2 tq t1 t2 (k + 100 + 7) (k + 100 + 6) (fun j => k + 100 + mIdx j), h'.get? p.1 = some p.2) → R (.ok (.ret (.ref (k + 100 + 60)))) { s with heap := h', toks := tk }) :
    codeAny (model PySem.Challenge.rw_pu0025_01.row.prog w) A (.call (.ref 136) ⟨[.ref f], []⟩) R s := by
  refine simH_code (k + 100) [(131, #[])] _ [.s 0, .s 1, .n, .n, .w 1, .w 1, .n, .s 2] hn ht (oldsCons (X 136 _ rfl) (oldsCons (X 135 _ rfl) (oldsCons (X 2 _ rfl) (oldsCons (B 0 _ rfl) (oldsCons (X 3 _ rfl) (oldsCons (B 4 _ rfl) oldsNil)))))) fun O => ?_
  refine hold_of (M := model PySem.Challenge.rw_pu0025_01.row.prog w) (s := s) ?_
  kat_step
  refine three_in ?_
  kas_known
  refine ret_in ⟨by unfold accOk; kernel_rfl, fun p below l => ?_⟩
  have a1 := l.near' (Nat.lt_of_le_of_lt (Nat.add_le_add_left (Nat.le_of_ble_eq_true rfl : Code.weight _ ≤ 5) A.depth) hd) 0
  have a2 := l.over (Nat.lt_of_le_of_lt (Nat.add_le_add_left (Nat.le_of_ble_eq_true rfl : Code.weight _ ≤ 5) A.depth) hd) 0
  have a3 := l.warm (Nat.lt_of_le_of_lt (Nat.add_le_add_left (Nat.le_of_ble_eq_true rfl : Code.weight _ ≤ 5) A.depth) hd) 0
  refine hold_of (M := model PySem.Challenge.rw_pu0025_01.row.prog w) (s := s) ?_
  kat_step
  refine three_in ?_
  kas_known
  refine ret_in ⟨by unfold accOk; kernel_rfl, fun h D => ?_⟩
  conv =>
    enter [4]
    whnf
    repeat (enter [27]; whnf)
    rw [show nearF _ _ _ = false from a1, show overF _ _ _ = false from a2, show warmF _ _ _ = false from a3]
  refine simH_more O [.n, .s 3, .s 4, .s 3, .n, .n, .n, .n, .n, .n, .n, .n, .n, .n, .n, .w 3, .n, .n, .n, .w 4, .s 1, .t, .n, .n, .n, .n, .n, .n, .n, .n, .n, .t, .t, .t, .s 4, .s 5, .s 4, .n, .n, .s 2] D ?_
  refine hold_of (M := model PySem.Challenge.rw_pu0025_01.row.prog w) (s := s) ?_
  kat_step
  refine three_in ?_
  kas_known
  refine ret_in ⟨by unfold accOk; kernel_rfl, fun p2 below2 l2 => ?_⟩
  have b1 := l2.near' (Nat.lt_of_le_of_lt (Nat.add_le_add_left (Nat.le_of_ble_eq_true rfl : Code.weight _ ≤ 5) A.depth) hd) 0
  have b2 := l2.over (Nat.lt_of_le_of_lt (Nat.add_le_add_left (Nat.le_of_ble_eq_true rfl : Code.weight _ ≤ 5) A.depth) hd) 0
  have b3 := l2.warm (Nat.lt_of_le_of_lt (Nat.add_le_add_left (Nat.le_of_ble_eq_true rfl : Code.weight _ ≤ 5) A.depth) hd) 0
  refine hold_of (M := model PySem.Challenge.rw_pu0025_01.row.prog w) (s := s) ?_
  kat_step
  refine three_in ?_
  kas_known
  refine ret_in ⟨by unfold accOk; kernel_rfl, fun h2 D2 => ?_⟩
  conv =>
    enter [4]
    whnf
    repeat (enter [27]; whnf)
    rw [show nearF _ _ _ = false from b1, show overF _ _ _ = false from b2, show warmF _ _ _ = false from b3]
  refine simH_more O [.w 4, .w 4, .s 4, .w 4, .n, .w 4, .w 4, .n, .w 4, .n, .w 4, .w 4, .n, .w 4, .n, .w 4, .w 4, .n, .n, .w 4, .n, .w 4, .w 4, .n, .n, .w 4, .n, .w 4, .w 4, .w 7, .w 6, .n, .n, .n, .n, .n, .n, .n, .n, .n, .n, .n, .n, .n, .w 6, .w 6, .w 6, .s 4, .s 5, .s 4, .n, .w 4, .n, .w 4, .w 4, .n, .w 7, .w 6, .n, .n, .n, .n, .n, .n, .n, .n, .n, .n, .n, .n, .n, .n, .w 6, .w 6, .w 6, .s 4, .s 5, .s 4, .n, .w 4, .n, .w 4, .w 4, .n, .w 7, .w 6, .n, .n, .n, .n, .n, .n, .n, .n, .n, .n, .n, .n, .n, .n, .w 6, .w 6, .w 6, .s 4, .s 5, .s 4, .n, .w 4, .n, .w 4, .w 4, .n, .w 7, .w 6, .n, .n, .n, .n, .n, .n, .n, .n, .n, .n, .n, .n, .n, .n, .w 6, .w 6, .w 6, .s 4, .s 5, .s 4, .n, .w 4, .n, .w 4, .w 4, .n, .w 7, .w 6, .n, .n, .n, .n, .n, .n, .n, .n, .n, .n, .n, .n, .n, .n, .w 6, .w 6, .w 6, .s 4, .s 5, .s 4, .n, .w 4, .n, .w 4, .w 4, .n, .w 7, .w 6, .n, .n, .n, .n, .n, .n, .n, .n, .n, .n, .n, .n, .n, .n, .w 6, .w 6, .w 6, .s 4, .s 5, .s 4, .n, .w 4, .n, .w 4, .w 4, .w 4, .n, .w 4, .w 4, .n, .n, .n, .w 4, .n, .w 4, .w 4, .n, .n, .n, .n, .w 2, .w 4, .w 2, .w 4, .w 4, .w 9, .n, .n, .n, .w 9] D2 ?_
  refine hold_of (M := model PySem.Challenge.rw_pu0025_01.row.prog w) (s := s) ?_
  kat_step
  refine three_in ?_
  kas_known
  refine ret_in ⟨by unfold accOk; kernel_rfl, fun h3 D3 => ?_⟩
  conv =>
    enter [4]
    whnf
    repeat (enter [27]; whnf)
    enter [3]
    whnf
  generalize hb : Builtin.List.listSameRef _ _ = b
  obtain rfl : false = b := (sameRef_ne (b := k + 100 + 9) (by kernel_rfl) (by show ¬ (k + 100 + 58 = k + 100 + 9); omega)).symm.trans hb
  refine simH_more O [.w 9, .w 58, .w 58, .w 58, .w 58, .n, .w 58, .n, .w 59, .w 59, .w 59, .n, .w 60, .w 60, .w 60, .w 59, .w 59, .w 59, .w 59, .w 59, .w 59, .w 59] D3 ?_
  refine hold_of (M := model PySem.Challenge.rw_pu0025_01.row.prog w) (s := s) ?_
  kat_step
  refine three_in ?_
  kas_known
  refine ret_in ⟨by unfold accOk; kernel_rfl, fun h4 D4 => ?_⟩
  conv =>
    enter [4]
    whnf
    repeat (enter [27]; whnf)
  generalize hb : W.R.filterR (fun x : Value => @bne Value (@instBEqOfDecidableEq Value ZFast.zw7966671052430208091) x _) _ = b
  obtain rfl : [Value.type "object"] = b := (filt_self (by kernel_rfl)).symm.trans hb
  refine simH_more O [.w 60, .w 60, .w 60, .w 60, .w 60, .w 60, .w 60, .w 59, .w 59, .n, .n, .w 59, .n, .w 59, .w 59, .w 60, .w 60, .w 60, .w 60, .w 59, .n, .w 59, .w 59, .w 59, .w 59, .w 59, .w 59, .w 9, .w 16, .w 24, .w 32, .w 40, .w 48, .w 56, .w 57, .w 61, .n, .n, .w 60, .n, .n, .n, .n, .w 62, .w 62, .n, .w 62, .n, .w 60, .w 60, .w 60] D4 ?_
  refine hold_of (M := model PySem.Challenge.rw_pu0025_01.row.prog w) (s := s) ?_
  kat_step
  refine three_in ?_
  kas_known
  refine ret_in ⟨by unfold accOk; kernel_rfl, fun h5 D5 => ?_⟩
  conv =>
    enter [4]
    whnf
    repeat (enter [27]; whnf)
  generalize hb : @ZFast.zw3471404346716756564 Value (@instBEqOfDecidableEq Value ZFast.zw7966671052430208091) _ _ = b
  obtain rfl : true = b := (has_self (by kernel_rfl)).symm.trans hb
  refine simH_more O [.w 62, .w 62, .w 62, .w 62, .w 62, .w 62, .n, .n, .n, .w 62, .n, .w 62, .n, .w 62, .w 62, .w 62, .s 2, .w 60] D5 ?_
  refine hold_of (M := model PySem.Challenge.rw_pu0025_01.row.prog w) (s := s) ?_
  kat_step
  refine three_in ?_
  kas_known
  refine ret_in ⟨by unfold accOk; kernel_rfl, fun h6 D6 => ?_⟩
  conv =>
    enter [4]
    whnf
    repeat (enter [27]; whnf)
  generalize hb : List.drop 1 (List.dropWhile (fun x : Value => @bne Value (@instBEqOfDecidableEq Value ZFast.zw7966671052430208091) x _) _) = b
  obtain rfl : [Value.type "object"] = b := (drop_self (a := k + 100 + 60) (by kernel_rfl) (by kernel_rfl)).symm.trans hb
  refine simH_more O [.n, .n] D6 ?_
  refine hold_of (M := model PySem.Challenge.rw_pu0025_01.row.prog w) (s := s) ?_
  kat_step
  refine three_in ?_
  kas_known
  refine ret_in ⟨by unfold accOk; kernel_rfl, fun h7 D7 => ?_⟩
  conv =>
    enter [4]
    whnf
    repeat (enter [27]; whnf)
  generalize hb : @BEq.beq Value (@instBEqOfDecidableEq Value ZFast.zw7966671052430208091) (@getElem (Array Value) Nat Value (fun xs i => i < xs.size) _ _ 1 _) (@getElem (Array Value) Nat Value (fun xs i => i < xs.size) _ _ 2 _) = b
  obtain rfl : true = b := (eq_self_ref (a := k + 100 + 60) (by kernel_rfl) (by kernel_rfl)).symm.trans hb
  refine simH_more O [.w 60, .w 60, .n, .n, .n, .n, .w 63, .w 60, .w 60, .w 60, .w 60, .n, .n, .n, .w 60, .w 60, .n, .w 60, .n, .n, .n, .n, .w 0, .w 0, .w 0, .n] D7 ?_
  refine hold_of (M := model PySem.Challenge.rw_pu0025_01.row.prog w) (s := s) ?_
  kat_step
  refine three_in ?_
  kas_known
  refine ret_in ⟨by unfold accOk; kernel_rfl, fun h8 D8 => ?_⟩
  clear D7 D6 D5 D4 D3 D2 D
  have hk := made_old (a := 131) D8 (by kernel_rfl)
  exact done h8 _ _ _ _ _ _ _ (made_end (t := s.toks) D8 (by kernel_rfl)) hk.1 (made_codes (t := s.toks) D8 (hk.2.trans (congrArg some (by kernel_rfl))) (by kernel_rfl))
end Mine
end
section
open PySem PySem.W PySem.W.X PyProof.Rows
set_option maxRecDepth 100000
set_option maxHeartbeats 8000000
namespace Mine
/-- where the class made again has its objects -/
def rH (n m1 m2 : Nat) : Nat → Nat
  | 60 => n + 21 | 59 => n + 20 | 61 => n + 22 | 16 => n + 7 | 24 => n + 9 | 17 => n + 8 | 1 => n + 1 | 2 => n + 2 | 9 => n + 6
  | 32 => n + 11 | 40 => n + 13 | 48 => n + 15 | 56 => n + 17 | 57 => n + 18 | 15 => m1 | 23 => m2 | j => j
def tokV : Value → Nat
  | .str _ t => t
  | _ => 0
def slotT (T : BT) (j : Nat) : Nat := match T.get 21 with
  | some ⟨_, _, _, sl⟩ => tokV ((sl[j]?.bind id).getD .none)
  | _ => 0
def keyT (T : BT) (j : Nat) : Nat := match T.get 20 with
  | some ⟨_, _, .dict es _, _⟩ => tokV ((es[j]?.map (·.key)).getD .none)
  | _ => 0
def valT (T : BT) (j : Nat) : Nat := match T.get 20 with
  | some ⟨_, _, .dict es _, _⟩ => tokV ((es[j]?.map (·.val)).getD .none)
  | _ => 0
def hashT (T : BT) (j : Nat) : Int := match T.get 20 with
  | some ⟨_, _, .dict es _, _⟩ => (es[j]?.map (·.hash)).getD 0
  | _ => 0
def lineT (v1 : Nat → Value) (T : BT) (j : Nat) : Value := match Nat.beq j 19, T.get 20 with
  | true, some ⟨_, _, .dict es _, _⟩ => (es[1]?.map (·.val)).getD .none
  | _, _ => v1 j
def pmT (T : BT) : Value := match T.get 7 with
  | some ⟨_, _, .func fd, _⟩ => fd.pyModule
  | _ => .none
def qH (T : BT) (t1 t2 : Nat) : Nat → Nat
  | 0 => slotT T 2 | 9 => slotT T 3 | 8 => keyT T 0 | 13 => valT T 0 | 12 => keyT T 1 | 16 => keyT T 2 | 24 => keyT T 3 | 33 => keyT T 4 | 42 => keyT T 5 | 51 => keyT T 6
  | 60 => keyT T 7 | 69 => keyT T 8 | 70 => keyT T 9 | 72 => keyT T 10 | 74 => keyT T 11 | 75 => keyT T 12 | 73 => tokV (vOf T 22 0) | 18 => t1 | 26 => t2 | j => j
def hIdx : List Nat := [21, 20, 22, 7, 9, 1]
noncomputable def hObjs (P : Params) (e : Nat → Int) (v1 v2 : Nat → Value) (pm : Value) (r q : Nat → Nat) (f : Addr) : List (Addr × Obj) := [0, 1, 2, 3, 5, 7].map fun i => (kObjs P e v1 v2 pm r q f).getD i (0, default)
theorem hit_end {V : XV} {h : Heap} {T : BT} {m : Nat} {ch : Ch} {P : Params} {t1 t2 m1 m2 : Nat} {v1 v2 : Nat → Value} {f : Addr} (D : Rep V h T m ch) (h1 : h.get? m1 = some (kCode v1 "__init__" t1)) (h2 : h.get? m2 = some (kCode v2 "__lt__" t2))
    (H : hIdx.map T.get = (hObjs P (hashT T) (lineT v1 T) v2 (pmT T) (rH V.n₁ m1 m2) (qH T t1 t2) f).map fun p => some p.2) : KeyAt P h (V.n₁ + 21) f := by
  have a := rep_all D _ _ H rfl
  refine ⟨rH V.n₁ m1 m2, qH T t1 t2, hashT T, lineT v1 T, v2, pmT T, rfl, ?_⟩
  intro p hp
  rcases List.mem_cons.mp hp with rfl | hp
  · exact a _ (.head _)
  rcases List.mem_cons.mp hp with rfl | hp
  · exact a _ (.tail _ (.head _))
  rcases List.mem_cons.mp hp with rfl | hp
  · exact a _ (.tail _ (.tail _ (.head _)))
  rcases List.mem_cons.mp hp with rfl | hp
  · exact a _ (.tail _ (.tail _ (.tail _ (.head _))))
  rcases List.mem_cons.mp hp with rfl | hp
  · exact h1
  rcases List.mem_cons.mp hp with rfl | hp
  · exact a _ (.tail _ (.tail _ (.tail _ (.tail _ (.head _)))))
  rcases List.mem_cons.mp hp with rfl | hp
  · exact h2
  rcases List.mem_cons.mp hp with rfl | hp
  · exact a _ (.tail _ (.tail _ (.tail _ (.tail _ (.tail _ (.head _))))))
  cases hp
theorem cls_again {w : World} {s : Shared} {A : Around} {R : Result → Shared → Prop} (f : Addr) (k : Nat) (hd : A.depth + 5 < recursionLimit) (hn : s.heap.objs.size = k + 100) (X : (Mine01.hd.heap_1 w.params).In s.heap) (B : (Mine01.boots w.params).In s.heap)
    {vc v1 v2 : Nat → Value} {tq t1 t2 cc tt : Nat} {ms : Nat → Nat} (C : ∀ p ∈ cdObjs vc v1 v2 tq t1 t2 cc tt ms, s.heap.get? p.1 = some p.2)
    (done : ∀ h' tk, KeyAt w.params h' (k + 100 + 21) f → Keeps s.heap h' → R (.ok (.ret (.ref (k + 100 + 21)))) { s with heap := h', toks := tk }) :
    codeAny (model PySem.Challenge.rw_pu0025_01.row.prog w) A (.call (.ref 136) ⟨[.ref f], []⟩) R s := by
  refine simH_code (k + 100) [] _ [.s 0, .s 1, .n, .n, .w 1, .w 1, .n, .s 2] hn (fun a vs h => nomatch h) (oldsCons (X 136 _ rfl) (oldsCons (X 135 _ rfl) (oldsCons (X 2 _ rfl) (oldsCons (B 0 _ rfl) (oldsCons (X 3 _ rfl) (oldsCons (B 4 _ rfl) (oldsCons (C _ (.head _)) (oldsCons (C _ (.tail _ (.head _))) (oldsCons (C _ (.tail _ (.tail _ (.head _)))) oldsNil))))))))) fun O => ?_
  refine hold_of (M := model PySem.Challenge.rw_pu0025_01.row.prog w) (s := s) ?_
  kat_step
  refine three_in ?_
  kas_known
  refine ret_in ⟨by unfold accOk; kernel_rfl, fun p1 b1 l1 => ?_⟩
  have a11 := l1.near' (Nat.lt_of_le_of_lt (Nat.add_le_add_left (Nat.le_of_ble_eq_true rfl : Code.weight _ ≤ 5) A.depth) (by omega)) 0
  have a12 := l1.over (Nat.lt_of_le_of_lt (Nat.add_le_add_left (Nat.le_of_ble_eq_true rfl : Code.weight _ ≤ 5) A.depth) (by omega)) 0
  have a13 := l1.warm (Nat.lt_of_le_of_lt (Nat.add_le_add_left (Nat.le_of_ble_eq_true rfl : Code.weight _ ≤ 5) A.depth) (by omega)) 0
  refine hold_of (M := model PySem.Challenge.rw_pu0025_01.row.prog w) (s := s) ?_
  kat_step
  refine three_in ?_
  kas_known
  refine ret_in ⟨by unfold accOk; kernel_rfl, fun h1 D1 => ?_⟩
  conv =>
    enter [4]
    whnf
    repeat (enter [27]; whnf)
    rw [show nearF _ _ _ = false from a11, show overF _ _ _ = false from a12, show warmF _ _ _ = false from a13]
  refine simH_more O [.n, .s 3, .s 4, .s 3, .n, .n, .n, .n, .n, .n, .n, .n, .n, .n, .n, .w 3, .n, .n, .n, .w 4, .s 1, .s 6, .s 4, .s 5, .s 4, .n, .n, .s 2] D1 ?_
  refine hold_of (M := model PySem.Challenge.rw_pu0025_01.row.prog w) (s := s) ?_
  kat_step
  refine three_in ?_
  kas_known
  refine ret_in ⟨by unfold accOk; kernel_rfl, fun p2 b2 l2 => ?_⟩
  have a21 := l2.near' (Nat.lt_of_le_of_lt (Nat.add_le_add_left (Nat.le_of_ble_eq_true rfl : Code.weight _ ≤ 5) A.depth) (by omega)) 0
  have a22 := l2.over (Nat.lt_of_le_of_lt (Nat.add_le_add_left (Nat.le_of_ble_eq_true rfl : Code.weight _ ≤ 5) A.depth) (by omega)) 0
  have a23 := l2.warm (Nat.lt_of_le_of_lt (Nat.add_le_add_left (Nat.le_of_ble_eq_true rfl : Code.weight _ ≤ 5) A.depth) (by omega)) 0
  refine hold_of (M := model PySem.Challenge.rw_pu0025_01.row.prog w) (s := s) ?_
  kat_step
  refine three_in ?_
  kas_known
  refine ret_in ⟨by unfold accOk; kernel_rfl, fun h2 D2 => ?_⟩
  conv =>
    enter [4]
    whnf
    repeat (enter [27]; whnf)
    rw [show nearF _ _ _ = false from a21, show overF _ _ _ = false from a22, show warmF _ _ _ = false from a23]
  refine simH_more O [.w 4, .w 4, .s 4, .w 4, .n, .w 4, .w 4, .n, .w 4, .n, .w 4, .w 4, .n, .w 4, .n, .w 4, .w 4, .n, .n, .w 4, .n, .w 4, .w 4, .n, .n, .w 4, .n, .w 4, .w 4, .s 7, .s 8, .s 4, .s 5, .s 4, .n, .w 4, .n, .w 4, .w 4, .n, .s 7, .s 8, .s 4, .s 5, .s 4, .n, .w 4, .n, .w 4, .w 4, .n, .s 7, .s 8, .s 4, .s 5, .s 4, .n, .w 4, .n, .w 4, .w 4, .n, .s 7, .s 8, .s 4, .s 5, .s 4, .n, .w 4, .n, .w 4, .w 4, .n, .s 7, .s 8, .s 4, .s 5, .s 4, .n, .w 4, .n, .w 4, .w 4, .n, .s 7, .s 8, .s 4, .s 5, .s 4, .n, .w 4, .n, .w 4, .w 4, .w 4, .n, .w 4, .w 4, .n, .n, .n, .w 4, .n, .w 4, .w 4, .n, .n, .n, .n, .w 2, .w 4, .w 2, .w 4, .w 4, .w 6, .n, .n, .n, .w 6] D2 ?_
  refine hold_of (M := model PySem.Challenge.rw_pu0025_01.row.prog w) (s := s) ?_
  kat_step
  refine three_in ?_
  kas_known
  refine ret_in ⟨by unfold accOk; kernel_rfl, fun h3 D3 => ?_⟩
  conv =>
    enter [4]
    whnf
    repeat (enter [27]; whnf)
    enter [3]
    whnf
  generalize hb : Builtin.List.listSameRef _ _ = b
  obtain rfl : false = b := (sameRef_ne (b := k + 100 + 6) (by kernel_rfl) (by show ¬ (k + 100 + 19 = k + 100 + 6); omega)).symm.trans hb
  refine simH_more O [.w 6, .w 19, .w 19, .w 19, .w 19, .n, .w 19, .n, .w 20, .w 20, .w 20, .n, .w 21, .w 21, .w 21, .w 20, .w 20, .w 20, .w 20, .w 20, .w 20, .w 20] D3 ?_
  refine hold_of (M := model PySem.Challenge.rw_pu0025_01.row.prog w) (s := s) ?_
  kat_step
  refine three_in ?_
  kas_known
  refine ret_in ⟨by unfold accOk; kernel_rfl, fun h4 D4 => ?_⟩
  conv =>
    enter [4]
    whnf
    repeat (enter [27]; whnf)
  generalize hb : W.R.filterR (fun x : Value => @bne Value (@instBEqOfDecidableEq Value ZFast.zw7966671052430208091) x _) _ = b
  obtain rfl : [Value.type "object"] = b := (filt_self (by kernel_rfl)).symm.trans hb
  refine simH_more O [.w 21, .w 21, .w 21, .w 21, .w 21, .w 21, .w 21, .w 20, .w 20, .n, .n, .w 20, .n, .w 20, .w 20, .w 21, .w 21, .w 21, .w 21, .w 20, .n, .w 20, .w 20, .w 20, .w 20, .w 20, .w 20, .w 6, .w 7, .w 9, .w 11, .w 13, .w 15, .w 17, .w 18, .w 22, .n, .n, .w 21, .n, .n, .n, .n, .w 23, .w 23, .n, .w 23, .n, .w 21, .w 21, .w 21] D4 ?_
  refine hold_of (M := model PySem.Challenge.rw_pu0025_01.row.prog w) (s := s) ?_
  kat_step
  refine three_in ?_
  kas_known
  refine ret_in ⟨by unfold accOk; kernel_rfl, fun h5 D5 => ?_⟩
  conv =>
    enter [4]
    whnf
    repeat (enter [27]; whnf)
  generalize hb : @ZFast.zw3471404346716756564 Value (@instBEqOfDecidableEq Value ZFast.zw7966671052430208091) _ _ = b
  obtain rfl : true = b := (has_self (by kernel_rfl)).symm.trans hb
  refine simH_more O [.w 23, .w 23, .w 23, .w 23, .w 23, .w 23, .n, .n, .n, .w 23, .n, .w 23, .n, .w 23, .w 23, .w 23, .s 2, .w 21] D5 ?_
  refine hold_of (M := model PySem.Challenge.rw_pu0025_01.row.prog w) (s := s) ?_
  kat_step
  refine three_in ?_
  kas_known
  refine ret_in ⟨by unfold accOk; kernel_rfl, fun h6 D6 => ?_⟩
  conv =>
    enter [4]
    whnf
    repeat (enter [27]; whnf)
  generalize hb : List.drop 1 (List.dropWhile (fun x : Value => @bne Value (@instBEqOfDecidableEq Value ZFast.zw7966671052430208091) x _) _) = b
  obtain rfl : [Value.type "object"] = b := (drop_self (a := k + 100 + 21) (by kernel_rfl) (by kernel_rfl)).symm.trans hb
  refine simH_more O [.n, .n] D6 ?_
  refine hold_of (M := model PySem.Challenge.rw_pu0025_01.row.prog w) (s := s) ?_
  kat_step
  refine three_in ?_
  kas_known
  refine ret_in ⟨by unfold accOk; kernel_rfl, fun h7 D7 => ?_⟩
  conv =>
    enter [4]
    whnf
    repeat (enter [27]; whnf)
  generalize hb : @BEq.beq Value (@instBEqOfDecidableEq Value ZFast.zw7966671052430208091) (@getElem (Array Value) Nat Value (fun xs i => i < xs.size) _ _ 1 _) (@getElem (Array Value) Nat Value (fun xs i => i < xs.size) _ _ 2 _) = b
  obtain rfl : true = b := (eq_self_ref (a := k + 100 + 21) (by kernel_rfl) (by kernel_rfl)).symm.trans hb
  refine simH_more O [.w 21, .w 21, .n, .n, .n, .n, .w 24, .w 21, .w 21, .w 21, .w 21, .n, .n, .n, .w 21, .w 21, .n, .w 21, .n, .n, .n, .n, .w 0, .w 0, .w 0, .n] D7 ?_
  refine hold_of (M := model PySem.Challenge.rw_pu0025_01.row.prog w) (s := s) ?_
  kat_step
  refine three_in ?_
  kas_known
  refine ret_in ⟨by unfold accOk; kernel_rfl, fun h8 D8 => ?_⟩
  clear D7 D6 D5 D4 D3 D2 D1
  exact done h8 _ (hit_end D8 (D8.keep _ _ (C _ (.tail _ (.tail _ (.tail _ (.head _))))) rfl) (D8.keep _ _ (C _ (.tail _ (.tail _ (.tail _ (.tail _ (.head _)))))) rfl) (by kernel_rfl)) (fun b o e => D8.keep b o e rfl)
end Mine
end
section
open PySem PySem.W PySem.W.X PyProof.Rows
set_option maxRecDepth 100000
set_option maxHeartbeats 8000000
namespace Mine
/-- an object of the class made -/
abbrev kInst (C d : Addr) (v : Value) : Obj := { cls := .ref C, dict := some d, slots := #[some v] }
abbrev kDict : Obj := { cls := .type "dict", data := .dict #[] 0 }
theorem inst_made {w : World} {s : Shared} {A : Around} {R : Result → Shared → Prop} {C f : Addr} (v : Int) (tv : Tok) (hd : A.depth + 5 < recursionLimit) (X : (Mine01.hd.heap_1 w.params).In s.heap)
    (K : KeyAt w.params s.heap C f)
    (done : ∀ h' tk I d, Keeps s.heap h' → h'.get? I = some (kInst C d (.int v tv)) → h'.get? d = some kDict → R (.ok (.ret (.ref I))) { s with heap := h', toks := tk }) :
    codeAny (model PySem.Challenge.rw_pu0025_01.row.prog w) A (.call (.ref C) ⟨[.int v tv], []⟩) R s := by
  obtain ⟨r, q, e, v1, v2, pm, rfl, K⟩ := K
  refine simH_code s.heap.objs.size [] _ [.s 1, .s 1, .n, .s 1, .n, .s 1, .s 1, .s 1, .n, .s 1, .s 1, .s 1, .s 1, .s 1, .s 1, .s 1, .n, .s 1, .s 1, .s 1, .s 1, .s 1, .s 1, .s 1, .s 1, .s 1, .s 1, .s 2, .s 1, .n, .n, .s 1, .n, .w 1, .s 1] rfl (fun a vs h => nomatch h) (oldsCons (X 2 _ rfl) K) fun O => ?_
  refine hold_of (M := model PySem.Challenge.rw_pu0025_01.row.prog w) (s := s) ?_
  kat_step
  refine three_in ?_
  kas_known
  refine ret_in ⟨by unfold accOk; kernel_rfl, fun h1 D1 => ?_⟩
  conv =>
    enter [4]
    whnf
    repeat (enter [27]; whnf)
  generalize hb : @ZFast.zw3471404346716756564 Value (@instBEqOfDecidableEq Value ZFast.zw7966671052430208091) _ _ = b
  obtain rfl : true = b := (has_self (a := r 60) (by kernel_rfl)).symm.trans hb
  refine simH_more O [.w 1, .s 1, .s 1, .s 2, .s 4, .n, .s 4, .s 5, .n, .n, .w 2, .w 2, .n, .w 2, .w 2, .n, .s 0] D1 ?_
  refine hold_of (M := model PySem.Challenge.rw_pu0025_01.row.prog w) (s := s) ?_
  kat_step
  refine three_in ?_
  kas_known
  refine ret_in ⟨by unfold accOk; kernel_rfl, fun p2 b2 l2 => ?_⟩
  have a21 := l2.near' (Nat.lt_of_le_of_lt (Nat.add_le_add_left (Nat.le_of_ble_eq_true rfl : Code.weight _ ≤ 5) A.depth) (by omega)) 0
  have a22 := l2.over (Nat.lt_of_le_of_lt (Nat.add_le_add_left (Nat.le_of_ble_eq_true rfl : Code.weight _ ≤ 5) A.depth) (by omega)) 0
  have a23 := l2.warm (Nat.lt_of_le_of_lt (Nat.add_le_add_left (Nat.le_of_ble_eq_true rfl : Code.weight _ ≤ 5) A.depth) (by omega)) 0
  refine hold_of (M := model PySem.Challenge.rw_pu0025_01.row.prog w) (s := s) ?_
  kat_step
  refine three_in ?_
  kas_known
  refine ret_in ⟨by unfold accOk; kernel_rfl, fun h2 D2 => ?_⟩
  conv =>
    enter [4]
    whnf
    repeat (enter [27]; whnf)
    rw [show nearF _ _ _ = false from a21, show overF _ _ _ = false from a22, show warmF _ _ _ = false from a23]
  refine simH_more O [.n, .w 2, .w 2, .n, .w 1, .s 1, .s 1, .s 2, .n, .w 1, .s 1, .n, .w 1, .s 1, .w 1, .s 1, .s 1, .s 2, .s 3, .s 3, .n, .s 3, .n, .s 3, .s 3, .w 1, .s 1] D2 ?_
  refine hold_of (M := model PySem.Challenge.rw_pu0025_01.row.prog w) (s := s) ?_
  kat_step
  refine three_in ?_
  kas_known
  refine ret_in ⟨by unfold accOk; kernel_rfl, fun h3 D3 => ?_⟩
  conv =>
    enter [4]
    whnf
    repeat (enter [27]; whnf)
  generalize hb : @ZFast.zw3471404346716756564 Value (@instBEqOfDecidableEq Value ZFast.zw7966671052430208091) _ _ = b
  obtain rfl : true = b := (has_self (a := r 60) (by kernel_rfl)).symm.trans hb
  refine simH_more O [.s 3, .s 3, .n, .s 3, .s 3, .w 1, .s 1, .w 1, .n, .n, .n, .n] D3 ?_
  refine hold_of (M := model PySem.Challenge.rw_pu0025_01.row.prog w) (s := s) ?_
  kat_step
  refine three_in ?_
  kas_known
  refine ret_in ⟨by unfold accOk; kernel_rfl, fun h4 D4 => ?_⟩
  exact done h4 _ (s.heap.objs.size + 1) s.heap.objs.size (fun b o e => D4.keep b o e rfl) (D4.own 1 (kInst (r 60) s.heap.objs.size (.int v tv)) (by kernel_rfl)).2 (D4.own 0 kDict (by kernel_rfl)).2
end Mine
end
section
open PySem PySem.W PySem.W.X PyProof.Rows
set_option maxRecDepth 100000
set_option maxHeartbeats 8000000
namespace Mine
/-- where a def of the written part may be called -/
def Ctx (P : Params) (A : Around) (h : Heap) : Prop :=
  ∃ (dp un : Nat) (gd : Option (List Code)) (env : Env) (outer : List Env) (A₀ : Around) (base h₀ : Heap) (L : Addr) (m mg mb : Str → Option Value) (p : Program) (loose : List Str) (mean : ExcName → Option Value),
    A = ⟨none, dp, some (env :: outer), gd, un⟩ ∧ env.frame = some L ∧ env.scope.kind = .function ∧ Below A₀ base outer h₀ ∧ Fr h₀ L h m ∧ (Mine01.hd.heap_1 P).In h₀ ∧ Top p loose mean mg mb h₀
theorem Ctx.keeps {P : Params} {A : Around} {h h' : Heap} (k : Keeps h h') : Ctx P A h → Ctx P A h' := fun ⟨a1, a2, a3, a4, a5, a6, a7, a8, a9, b1, b2, b3, b4, b5, b6, c1, c2, c3, c4, c5, c6, c7⟩ =>
  ⟨a1, a2, a3, a4, a5, a6, a7, a8, a9, b1, b2, b3, b4, b5, b6, c1, c2, c3, c4, keepsFr c5 k, c6, c7⟩
theorem Ctx.in1 {P : Params} {A : Around} {h : Heap} : Ctx P A h → Ctx P A.in1 h := by
  rintro ⟨a1, a2, a3, a4, a5, a6, a7, a8, a9, b1, b2, b3, b4, b5, b6, rfl, c2, c3, c4, c5, c6, c7⟩
  exact ⟨_, _, _, a4, a5, a6, a7, a8, a9, b1, b2, b3, b4, b5, b6, rfl, c2, c3, c4, c5, c6, c7⟩
theorem Ctx.handled {P : Params} {A : Around} {h : Heap} : Ctx P A h → A.handled = none := fun ⟨_, _, _, _, _, _, _, _, _, _, _, _, _, _, _, c1, _⟩ => by rw [c1]
def nsB : Option Obj → Bool
  | some ⟨_, _, .dict es _, _⟩ => es.toList.all fun e => match e.key with | .str .. => true | _ => false
  | _ => false
theorem ns_rep {V : XV} {h : Heap} {T : BT} {m : Nat} {ch : Ch} (D : Rep V h T m ch) (j : Nat) (e : nsB (T.get j) = true) : ∃ mm, h.Ns (V.n₁ + j) mm := by
  cases q : T.get j with
  | none => rw [q] at e; cases e
  | some o =>
    obtain ⟨c, d, dt, sl⟩ := o
    rw [q] at e
    cases dt with
    | dict es ep =>
      refine ⟨nsFind es, _, es, ep, (D.own _ _ q).2, rfl, fun x hx => ?_, fun _ => rfl⟩
      have := List.all_eq_true.mp e x (Array.mem_toList_iff.mpr hx)
      split at this
      · rename_i a b c; exact ⟨_, _, c⟩
      · cases this
    | _ => cases e
/-- a def of two numbers that compares: what it gives, from any state that keeps h -/
def CmpFn (prog : Program) (w : World) (f : Addr) (cmp : Int → Int → Int) (ok : Int → Prop) (un : Nat) (h : Heap) : Prop :=
  ∀ (A : Around) (R : Result → Shared → Prop) (s : Shared) (x y : Int) (tx ty : Tok), Keeps h s.heap → ok x → ok y → Ctx w.params A s.heap → A.depth + 60 < recursionLimit → A.units + un < cLine →
    (∀ t' h' tk', Keeps s.heap h' → R (.ok (.ret (.int (cmp x y) t'))) { s with heap := h', toks := tk' }) → codeAny (model prog w) A (.call (.ref f) ⟨[.int x tx, .int y ty], []⟩) R s
def FnOf (f : Addr) (h : Heap) : Prop := ∃ fd od sl, h.get? f = some ⟨.type "function", od, .func fd, sl⟩
theorem lt_made {w : World} {s : Shared} {A : Around} {R : Result → Shared → Prop} {f I J dI dJ : Addr} {r q : Nat → Nat} {e : Nat → Int} {v1 v2 : Nat → Value} {pm : Value} {x y : Int} {tx ty : Tok} (hd : A.depth + 80 < recursionLimit) {cmp : Int → Int → Int} {ok : Int → Prop} {un : Nat} (hcmp : CmpFn PySem.Challenge.rw_pu0025_01.row.prog w f cmp ok un s.heap) (hx : ok x) (hy : ok y) (hC : Ctx w.params A s.heap) (hu : A.units + un + 20 < cLine) (hf : FnOf f s.heap) (X : (Mine01.hd.heap_1 w.params).In s.heap)
    (K : ∀ p ∈ kObjs w.params e v1 v2 pm r q f, s.heap.get? p.1 = some p.2) (hI : s.heap.get? I = some (kInst (r 60) dI (.int x tx))) (hJ : s.heap.get? J = some (kInst (r 60) dJ (.int y ty)))
    (done : ∀ h' tk', Keeps s.heap h' → R (.ok (.ret (.bool (decide (cmp x y < 0))))) { s with heap := h', toks := tk' }) :
    codeAny (model PySem.Challenge.rw_pu0025_01.row.prog w) A (.call (.ref (r 24)) ⟨[.ref I, .ref J], []⟩) R s := by
  obtain ⟨gdp, gun, ggd, genv, gouter, gA, gbase, gh, gL, gm, gmg, gmb, gp, gloose, gmean, hAr, gf, gk, gB, gF, gX, gT⟩ := hC
  obtain ⟨fd, od, sl, hf⟩ := hf
  refine simH_code s.heap.objs.size [] _ [.s 8, .s 9, .n, .n, .w 0, .w 0, .n, .w 0, .w 0, .n, .s 0] rfl (fun a vs h => nomatch h) (oldsCons (X 2 _ rfl) (oldsCons hI (oldsCons hJ (oldsSnoc K hf)))) fun O => ?_
  refine hold_of (M := model PySem.Challenge.rw_pu0025_01.row.prog w) (s := s) ?_
  kat_step
  refine three_in ?_
  kas_known
  refine ret_in ⟨by unfold accOk; kernel_rfl, fun p1 b1 l1 => ?_⟩
  have a11 := l1.near' (Nat.lt_of_le_of_lt (Nat.add_le_add_left (Nat.le_of_ble_eq_true rfl : Code.weight _ ≤ 5) A.depth) (by omega)) 0
  have a12 := l1.over (Nat.lt_of_le_of_lt (Nat.add_le_add_left (Nat.le_of_ble_eq_true rfl : Code.weight _ ≤ 5) A.depth) (by omega)) 0
  have a13 := l1.warm (Nat.lt_of_le_of_lt (Nat.add_le_add_left (Nat.le_of_ble_eq_true rfl : Code.weight _ ≤ 5) A.depth) (by omega)) 0
  refine hold_of (M := model PySem.Challenge.rw_pu0025_01.row.prog w) (s := s) ?_
  kat_step
  refine three_in ?_
  kas_known
  refine ret_in ⟨by unfold accOk; kernel_rfl, fun h1 D1 => ?_⟩
  conv =>
    enter [4]
    whnf
    repeat (enter [27]; whnf)
    rw [show nearF _ _ _ = false from a11, show overF _ _ _ = false from a12, show warmF _ _ _ = false from a13]
  refine simH_more O [.n, .s 10, .w 0, .n, .s 1, .s 3, .s 3, .s 4, .n, .s 1, .s 3, .s 3, .s 4, .s 5, .s 5, .s 3, .s 3, .s 4, .n, .s 5, .n, .s 5, .s 5, .s 1, .s 3] D1 ?_
  refine hold_of (M := model PySem.Challenge.rw_pu0025_01.row.prog w) (s := s) ?_
  kat_step
  refine three_in ?_
  kas_known
  refine ret_in ⟨by unfold accOk; kernel_rfl, fun h2 D2 => ?_⟩
  conv =>
    enter [4]
    whnf
    repeat (enter [27]; whnf)
  generalize hb : @ZFast.zw3471404346716756564 Value (@instBEqOfDecidableEq Value ZFast.zw7966671052430208091) _ _ = b
  obtain rfl : true = b := (has_self (a := r 60) (by kernel_rfl)).symm.trans hb
  refine simH_more O [.s 5, .s 5, .n, .s 5, .s 5, .s 1, .s 3, .s 1, .n, .n, .w 0, .n, .s 2, .s 3, .s 3, .s 4, .n, .s 2, .s 3, .s 3, .s 4, .s 5, .s 5, .s 3, .s 3, .s 4, .n, .s 5, .n, .s 5, .s 5, .s 2, .s 3] D2 ?_
  refine hold_of (M := model PySem.Challenge.rw_pu0025_01.row.prog w) (s := s) ?_
  kat_step
  refine three_in ?_
  kas_known
  refine ret_in ⟨by unfold accOk; kernel_rfl, fun h3 D3 => ?_⟩
  conv =>
    enter [4]
    whnf
    repeat (enter [27]; whnf)
  generalize hb : @ZFast.zw3471404346716756564 Value (@instBEqOfDecidableEq Value ZFast.zw7966671052430208091) _ _ = b
  obtain rfl : true = b := (has_self (a := r 60) (by kernel_rfl)).symm.trans hb
  refine simH_more O [.s 5, .s 5, .n, .s 5, .s 5, .s 2, .s 3, .s 2, .n, .n, .s 11] D3 ?_
  refine hold_of (M := model PySem.Challenge.rw_pu0025_01.row.prog w) (s := s) ?_
  kat_step
  refine three_in ?_
  kas_known
  refine ret_in ⟨by unfold accOk; kernel_rfl, fun h4 D4 => ?_⟩
  refine means_skim ?_
  conv =>
    enter [4]
    whnf
  refine means_call (.call (.ref f) ⟨[.int x tx, .int y ty], []⟩) (by kernel_rfl) (by kernel_rfl) ?_
  obtain ⟨_, gB', gst, _⟩ := groundX (R := fun _ _ => True) gB gF News.nil (A := A) (by rw [hAr]) gf gk
  obtain ⟨mm, hmm⟩ := ns_rep D4 0 (by kernel_rfl)
  refine hcmp _ _ _ x y tx ty (fun b o q => D4.keep b o q rfl) hx hy ?_ ?_ ?_ ?_
  · subst hAr
    exact ⟨_, _, _, _, _, _, gbase, s.heap, _, mm, gmg, gmb, gp, gloose, gmean, rfl, rfl, rfl, gB', ⟨hmm, fun b o q => D4.keep b o q rfl, Nat.le_refl _⟩, X, gT.keeps gF.keep⟩
  · exact Nat.lt_of_le_of_lt (Nat.add_le_add_right (Nat.add_le_add_left (Nat.le_of_ble_eq_true rfl : Code.weight _ ≤ 5) A.depth) 60) (by omega)
  · exact Nat.lt_of_le_of_lt (Nat.add_le_add_right (Nat.add_le_add_left (Nat.le_of_ble_eq_true rfl : Code.cUnits _ ≤ 20) A.units) un) (by omega)
  intro t' h' tk' hk
  refine simH_again (kObjs w.params e v1 v2 pm r q f) [.n] (fun p hp => hk _ _ (D4.keep _ _ (K p hp) rfl)) fun O2 => ?_
  refine hold_of (M := model PySem.Challenge.rw_pu0025_01.row.prog w) (s := s) ?_
  kat_step
  refine three_in ?_
  kas_known
  refine ret_in ⟨by unfold accOk; kernel_rfl, fun h5 D5 => ?_⟩
  refine means_skim ?_
  conv =>
    enter [4]
    whnf
    enter [3]
    whnf
    repeat (enter [27]; whnf)
  generalize hb : Params.followText _ _ = b
  cases b
  · refine simH_more O2 [.n, .n, .n, .n] D5 ?_
    refine hold_of (M := model PySem.Challenge.rw_pu0025_01.row.prog w) (s := s) ?_
    kat_step
    refine three_in ?_
    kas_known
    refine ret_in ⟨by unfold accOk; kernel_rfl, fun h6 D6 => ?_⟩
    exact end_at (R := R) (.ok (.ret (.bool (decide (cmp x y < 0))))) (congrArg (fun b => Except.ok (Flow.ret (Value.bool b))) (dec_any _ _)) (done h6 _ (fun b o q => D6.keep b o (hk b o (D4.keep b o q rfl)) rfl))
  · refine simH_more O2 [.n, .n, .n, .n] D5 ?_
    refine hold_of (M := model PySem.Challenge.rw_pu0025_01.row.prog w) (s := s) ?_
    kat_step
    refine three_in ?_
    kas_known
    refine ret_in ⟨by unfold accOk; kernel_rfl, fun h7 D7 => ?_⟩
    exact end_at (R := R) (.ok (.ret (.bool (decide (cmp x y < 0))))) (congrArg (fun b => Except.ok (Flow.ret (Value.bool b))) (dec_any _ _)) (done h7 _ (fun b o q => D7.keep b o (hk b o (D4.keep b o q rfl)) rfl))
end Mine
end
section
open PySem PySem.W PyProof.Rows PySem.Spec PySem.Calls
set_option maxRecDepth 100000
set_option maxHeartbeats 4000000
namespace Mine
section
variable {w : World} {A : Around} {E : Value → Shared → Prop} {s : Shared} {C f : Addr} {cmp key : Int → Int} {un : Nat}
theorem look_cls {P : Params} {r q : Nat → Nat} {e : Nat → Int} {v1 v2 : Nat → Value} {pm : Value} (b : (r 59 == r 60) = false) : findIn (kObjs P e v1 v2 pm r q f) (.ref (r 60)) (Str.ofString "__lt__") = some (some (.ref (r 24))) := by
  unfold findIn kObjs
  dsimp only
  rw [List.lookup_cons_self]
  show alongIn _ _ [Value.ref (r 60), .type "object"] = _
  unfold alongIn ownIn
  dsimp only
  rw [List.lookup_cons_self]
  unfold nsIn
  dsimp only
  rw [List.lookup_cons, b]
  dsimp only
  rw [List.lookup_cons_self]
  rfl
theorem look_fn {P : Params} {r q : Nat → Nat} {e : Nat → Int} {v1 v2 : Nat → Value} {pm : Value} (b1 : (r 24 == r 60) = false) (b2 : (r 24 == r 59) = false) (b3 : (r 24 == r 61) = false) (b4 : (r 24 == r 16) = false) (b5 : (r 24 == r 15) = false) : isFn (kObjs P e v1 v2 pm r q f) (.ref (r 24)) = true := by
  unfold isFn typeIn kObjs
  dsimp only
  rw [List.lookup_cons, b1]
  dsimp only
  rw [List.lookup_cons, b2]
  dsimp only
  rw [List.lookup_cons, b3]
  dsimp only
  rw [List.lookup_cons, b4]
  dsimp only
  rw [List.lookup_cons, b5]
  dsimp only
  rw [List.lookup_cons_self]
  rfl
/-- objects unlike each other stand apart -/
theorem beq_apart {h : Heap} {a b : Nat} {o1 o2 : Obj} (e1 : h.get? a = some o1) (e2 : h.get? b = some o2) (n : o1 ≠ o2) : (a == b) = false := by
  simp only [beq_eq_false_iff_ne]
  intro q
  rw [q, e2] at e1
  exact n (Option.some.inj e1).symm
theorem frag_in {h : Heap} : ∀ {K : Frag}, (∀ p ∈ K, h.get? p.1 = some p.2) → K.In h := fun k a o e => k (a, o) (mem_of_lookupK e)
end
/-- what a comparison is like from any state that keeps h -/
structure CmpIs (prog : Program) (w : World) (f : Addr) (cmp : Int → Int → Int) (key : Int → Int) (ok : Int → Prop) (un : Nat) (h : Heap) : Prop where
  fn : FnOf f h
  does : CmpFn prog w f cmp ok un h
  is : ∀ x y, ok x → ok y → (cmp x y < 0 ↔ key x < key y)
theorem FnOf.keeps {f : Addr} {h h' : Heap} (x : FnOf f h) (k : Keeps h h') : FnOf f h' := let ⟨fd, od, sl, e⟩ := x; ⟨fd, od, sl, k _ _ e⟩
theorem KeyAt.keeps {P : Params} {h h' : Heap} {C f : Addr} (x : KeyAt P h C f) (k : Keeps h h') : KeyAt P h' C f := let ⟨r, q, e, v1, v2, pm, z, H⟩ := x; ⟨r, q, e, v1, v2, pm, z, fun p hp => k _ _ (H p hp)⟩
/-- the keys made of the numbers -/
def KeysAt (h : Heap) (C : Addr) (ks : List Value) (ns : List Int) : Prop := ks.length = ns.length ∧ ∀ (i : Nat) (x : Int), ns[i]? = some x → ∃ I d t, ks[i]? = some (.ref I) ∧ h.get? I = some (kInst C d (.int x t)) ∧ h.get? d = some kDict
theorem KeysAt.keeps {h h' : Heap} {C : Addr} {ks : List Value} {ns : List Int} (x : KeysAt h C ks ns) (k : Keeps h h') : KeysAt h' C ks ns :=
  ⟨x.1, fun i y e => let ⟨I, d, t, a, b, c⟩ := x.2 i y e; ⟨I, d, t, a, k _ _ b, k _ _ c⟩⟩
theorem KeysAt.snoc {h : Heap} {C I d : Addr} {t : Tok} {ks : List Value} {ns : List Int} {x : Int} (H : KeysAt h C ks ns) (a : h.get? I = some (kInst C d (.int x t))) (b : h.get? d = some kDict) : KeysAt h C (ks ++ [.ref I]) (ns ++ [x]) := by
  refine ⟨by simp [H.1], fun i y e => ?_⟩
  by_cases hi : i < ns.length
  · rw [List.getElem?_append_left hi] at e
    obtain ⟨I', d', t', q1, q2, q3⟩ := H.2 i y e
    exact ⟨I', d', t', by rw [List.getElem?_append_left (by rw [H.1]; exact hi)]; exact q1, q2, q3⟩
  · rw [List.getElem?_append_right (Nat.le_of_not_lt hi)] at e
    obtain ⟨hl, he⟩ := List.getElem?_eq_some_iff.mp e
    have h0 : i - ns.length = 0 := by simpa using hl
    rw [h0] at e
    cases e
    exact ⟨I, d, t, by rw [List.getElem?_append_right (by rw [H.1]; exact Nat.le_of_not_lt hi), H.1, h0]; rfl, a, b⟩
section
variable {w : World} {A : Around} {E : Value → Shared → Prop} {s : Shared} {C f : Addr} {cmp : Int → Int → Int} {key : Int → Int} {ok : Int → Prop} {un : Nat}
theorem lt_wp {Ck I J dI dJ : Addr} {x y : Int} {tx ty : Tok} {C : Bool → Shared → Prop} (hd : A.depth + 80 < recursionLimit) (hu : A.units + un + 20 < cLine) (hC : Ctx w.params A s.heap) (X : (Mine01.hd.heap_1 w.params).In s.heap)
    (K : KeyAt w.params s.heap Ck f) (c : CmpIs PySem.Challenge.rw_pu0025_01.row.prog w f cmp key ok un s.heap) (hx : ok x) (hy : ok y) (hI : s.heap.get? I = some (kInst Ck dI (.int x tx))) (hdI : s.heap.get? dI = some kDict) (hJ : s.heap.get? J = some (kInst Ck dJ (.int y ty)))
    (done : ∀ h' tk', Keeps s.heap h' → C (decide (key x < key y)) { s with heap := h', toks := tk' }) : wpAny (model PySem.Challenge.rw_pu0025_01.row.prog w) A (keyLt' oneType' (.ref I) (.ref J)) C E s := by
  rw [keyLt'_oneType, oneLt'_eq]
  simp only [if_true]
  refine wpAny_bind (wpAny_cRoomFor (by omega) ?_)
  obtain ⟨r, q, e, v1, v2, pm, rfl, K'⟩ := id K
  have c60 := K' _ (.head _)
  have c59 := K' _ (.tail _ (.head _))
  have c61 := K' _ (.tail _ (.tail _ (.head _)))
  have c16 := K' _ (.tail _ (.tail _ (.tail _ (.head _))))
  have c15 := K' _ (.tail _ (.tail _ (.tail _ (.tail _ (.head _)))))
  have c24 := K' _ (.tail _ (.tail _ (.tail _ (.tail _ (.tail _ (.head _))))))
  refine wpAny_bind (ifBound_K (frag_in K') (⟨hI, rfl, rfl, hdI⟩ : InstAt s.heap I (kInst (r 60) dI (.int x tx)) (r 60) (some kDict)) (look_cls (beq_apart c59 c60 (fun z => by injection z with z; injection z with z; exact absurd z (by decide)))) (look_fn (beq_apart c24 c60 (fun z => by injection z with z; injection z with z; exact absurd z (by decide))) (beq_apart c24 c59 (fun z => by injection z with z; injection z with z; exact absurd z (by decide))) (beq_apart c24 c61 (fun z => by injection z with z; injection z with z; exact absurd z (by decide))) (beq_apart c24 c16 (fun z => by injection z with _ _ z; injection z with z; injection z with z; exact absurd z (by decide))) (beq_apart c24 c15 (fun z => by injection z with z; injection z with z; exact absurd z (by decide)))) (wpAny_call ?_))
  refine lt_made hd c.does hx hy hC hu c.fn X K' hI hJ fun h' tk' hk => ?_
  rw [decide_eq_decide.mpr (c.is x y hx hy)]
  exact wpAny_truthy_bool (done h' tk' hk)
end
end Mine
end
section
open PySem PySem.W PyProof.Rows PySem.Spec PySem.Calls
set_option maxRecDepth 100000
set_option maxHeartbeats 4000000
namespace Mine
theorem keepsBut {b h h' : Heap} {a : Addr} (k : Keeps b h) (s : Heap.SameBut a h h') (h0 : b.get? a = none) : Keeps b h' := fun x o e => (s.2 x (fun q => by rw [q, h0] at e; cases e)).trans (k x o e)
theorem ints_pick : ∀ {vs : List Value} {ns : List Int}, IntsAre vs ns → ∀ l : List Nat, (∀ i ∈ l, i < ns.length) → IntsAre (l.map fun i => vs.getD i .none) (l.map fun i => ns.getD i 0)
  | _, _, _, [], _ => .nil
  | vs, ns, H, i :: l, hl => by
    have hi := hl i (.head _)
    obtain ⟨t, ht⟩ := H.get i _ (List.getElem?_eq_getElem hi)
    rw [List.map_cons, List.map_cons]
    have e1 : vs.getD i .none = .int ns[i] t := by simp [List.getD, ht]
    have e2 : ns.getD i 0 = ns[i] := by simp [List.getD, List.getElem?_eq_getElem hi]
    rw [e1, e2]
    exact .cons _ _ (ints_pick H l fun j hj => hl j (.tail _ hj))
theorem range_pick (ns : List Int) : (List.range ns.length).map (fun i => ns.getD i 0) = ns := by
  apply List.ext_getElem (by simp)
  intro i h1 h2
  simp [List.getD, List.getElem?_eq_getElem h2]
theorem pick_ok {key : Int → Int} {ns : List Int} {p : Array Nat} (B : PB ns.length p) (H : Inc (fun i => key (ns.getD i 0)) p ns.length) :
    (p.toList.map fun i => ns.getD i 0).Perm ns ∧ (p.toList.map fun i => ns.getD i 0).Pairwise (fun x y => key x ≤ key y) := by
  constructor
  · have := (Array.perm_iff_toList_perm.mp B.perm).map fun i => ns.getD i 0
    rw [List.toList_toArray, range_pick] at this
    exact this
  · rw [List.pairwise_map, List.pairwise_iff_getElem]
    intro i j hi hj hij
    have hz := B.size
    have e : ∀ k (hk : k < p.toList.length), p.toList[k] = gp p k := fun k hk => by
      have hk' : k < p.size := by simpa using hk
      rw [gp_eq, getElem?_pos p k hk']
      simp
    rw [e i hi, e j hj]
    have hj' : j < p.size := by simpa using hj
    exact H i j (Nat.le_of_lt hij) (by rw [← hz]; exact hj')
section
variable {w : World} {A : Around} {E : Value → Shared → Prop} {s : Shared} {Ck f : Addr} {cmp : Int → Int → Int} {key : Int → Int} {ok : Int → Prop} {un : Nat} {a kS : Addr} {e1 e : Nat} {vs : List Value} {ns : List Int} {keys : Array Value} {b : Heap} {P : PySem.Fin → Shared → Prop}
theorem tail_wp {st : SortSt} (hb : Keeps b s.heap) (hk : s.heap.get? kS = some (seqObj "list" keys e)) (ha : s.heap.get? a = some (seqObj "list" #[] e1)) (hka : kS ≠ a) (bk : b.get? kS = none) (ba : b.get? a = none) (hz : keys.size ≤ 64) (hz2 : (arrOf st).size ≤ 64) (hf : failedOf st = none)
    (done : ∀ h' c, Keeps b h' → h'.get? a = some (seqObj "list" ((arrOf st).map (·.2)) c) → P (.done (.ret .none)) { s with heap := h' }) :
    wpAny (model PySem.Challenge.rw_pu0025_01.row.prog w) A (ksk_tail a false e1 (.ref kS) st) P E s := by
  have s1 := Heap.SameBut.update s.heap kS (Obj.mapSeq fun _ => (#[] : Array Value))
  have ha1 := (s1.2 a hka.symm).trans ha
  have s2 := Heap.SameBut.update (s.heap.update kS (Obj.mapSeq fun _ => (#[] : Array Value))) a (Obj.mapSeq fun _ => (arrOf st).map (·.2))
  obtain ⟨c2, hc2⟩ : ∃ c2, ((s.heap.update kS (Obj.mapSeq fun _ => (#[] : Array Value))).update a (Obj.mapSeq fun _ => (arrOf st).map (·.2))).get? a = some (seqObj "list" ((arrOf st).map (·.2)) c2) := ⟨_, get?_update_seq ha1 fun _ => (arrOf st).map (·.2)⟩
  unfold ksk_tail
  try dsimp only
  refine wpAny_bind (listUpdate_at hk rfl ?_ (by rw [sizeLine_eq]; lia) (Nat.zero_le _))
  refine wpAny_bind (wpAny_letGo ?_)
  refine wpAny_bind (seqEpoch_at ha1 rfl ?_)
  refine wpAny_bind (listUpdate_at ha1 rfl ?_ (Nat.zero_le _) (by simp only [Bool.false_eq_true, if_false, Array.size_map]; rw [sizeLine_eq]; lia))
  rw [hf]
  simp only [bne_self_eq_false, Bool.false_eq_true, if_false]
  exact wpAny_pure (done _ c2 (keepsBut (keepsBut hb s1 bk) s2 ba) hc2)
theorem end_wp (hd : A.depth + 80 < recursionLimit) (hu : A.units + un + 20 < cLine) (hX : Ctx w.params A b) (X : (Mine01.hd.heap_1 w.params).In b) (K : KeyAt w.params b Ck f) (c : CmpIs PySem.Challenge.rw_pu0025_01.row.prog w f cmp key ok un b)
    (hb : Keeps b s.heap) (hk : s.heap.get? kS = some (seqObj "list" keys e)) (ha : s.heap.get? a = some (seqObj "list" #[] e1)) (hka : kS ≠ a) (bk : b.get? kS = none) (ba : b.get? a = none)
    (hI : IntsAre vs ns) (h64 : ns.length < 64) (hok : ∀ x ∈ ns, ok x) (hK : KeysAt s.heap Ck keys.toList ns)
    (done : ∀ h' tk' out ms c, Keeps b h' → h'.get? a = some (seqObj "list" out c) → IntsAre out.toList ms → ms.Perm ns → ms.Pairwise (fun x y => key x ≤ key y) → P (.done (.ret .none)) { s with heap := h', toks := tk' }) :
    wpAny (model PySem.Challenge.rw_pu0025_01.row.prog w) A (ksk_end a false vs.toArray e1 (.ref kS) keys) P E s := by
  have hl := hI.length
  have hkl : keys.size = ns.length := by rw [← hK.1]; simp
  have hzip : (keys.zip vs.toArray).size = ns.length := by rw [Array.size_zip, hkl, List.size_toArray, hl, Nat.min_self]
  unfold ksk_end
  simp only [Bool.false_eq_true, if_false]
  by_cases h2 : vs.toArray.size < 2
  · rw [if_pos h2, if_pos h2]
    refine wpAny_bind (wpAny_pure ?_)
    rw [StateT.run_pure]
    refine wpAny_bind (wpAny_pure ?_)
    dsimp only
    refine tail_wp hb hk ha hka bk ba (by lia) (by show (keys.zip vs.toArray).size ≤ 64; lia) rfl fun h' c' hb' ha' => done h' s.toks _ ns c' hb' ha' ?_ (List.Perm.refl _) ?_
    · have e : ((keys.zip vs.toArray).map (·.2)).toList = vs := by
        have e0 : vs.length ≤ keys.toList.length := by rw [hK.1, hl]; exact Nat.le_refl _
        rw [Array.toList_map, Array.toList_zip]
        exact List.map_snd_zip e0
      show IntsAre ((keys.zip vs.toArray).map (·.2)).toList ns
      rw [e]; exact hI
    · rw [List.size_toArray, hl] at h2
      match ns, h2 with
      | [], _ => exact .nil
      | [x], _ => exact List.pairwise_singleton _ _
      | _ :: _ :: _, h2 => simp only [List.length_cons] at h2; lia
  · rw [if_neg h2, if_neg h2]
    rw [List.size_toArray, hl] at h2
    have kind : ∀ {Q : SortKind → Shared → Prop}, Q oneType' s → wpAny (model PySem.Challenge.rw_pu0025_01.row.prog w) A (keyKind' keys) Q E s := fun {Q} q => by
      have := kas_kind (M := model PySem.Challenge.rw_pu0025_01.row.prog w) (A := A) (E := E) (s := s) (vs := keys.toList) (T := .ref Ck) (Q := Q) (by rw [Array.length_toList]; lia) (fun v hv => ?_) (by rfl) (by simp) q
      · rwa [Array.toArray_toList] at this
      · obtain ⟨i, hi, he⟩ := List.mem_iff_getElem.mp hv
        have hi' : i < ns.length := by rw [← hK.1]; exact hi
        obtain ⟨I, d, t', q1, q2, q3⟩ := hK.2 i _ (List.getElem?_eq_getElem hi')
        rw [List.getElem?_eq_getElem hi, he] at q1
        cases q1
        exact (⟨q2, rfl, rfl, q3⟩ : InstAt s.heap I (kInst Ck d (.int ns[i] t')) Ck (some kDict)).type
    refine wpAny_bind (kind ?_)
    have est : SortSt.mk' oneType' (keys.zip vs.toArray) #[] 7 none = kas_st oneType' (keys.zip vs.toArray) (List.toArray (List.range ns.length)) := by
      have e := kas_range (keys.zip vs.toArray)
      rw [hzip] at e
      show SortSt.mk' oneType' (keys.zip vs.toArray) #[] 7 none = SortSt.mk' oneType' ((List.toArray (List.range ns.length)).map (kas_item (keys.zip vs.toArray))) #[] 7 none
      rw [e]
    have itm : ∀ i, i < ns.length → ∃ I d t', kas_item (keys.zip vs.toArray) i = (.ref I, vs.getD i .none) ∧ s.heap.get? I = some (kInst Ck d (.int (ns.getD i 0) t')) ∧ s.heap.get? d = some kDict := fun i hi => by
      obtain ⟨I, d, t', q1, q2, q3⟩ := hK.2 i _ (List.getElem?_eq_getElem hi)
      refine ⟨I, d, t', ?_, by simpa [List.getD, List.getElem?_eq_getElem hi] using q2, q3⟩
      have hi1 : i < keys.size := by lia
      have hi2 : i < vs.length := by lia
      have e1 : keys[i] = .ref I := by
        have := q1
        rw [List.getElem?_eq_getElem (by rw [Array.length_toList]; exact hi1)] at this
        simpa using this
      have hz : i < (keys.zip vs.toArray).size := by lia
      unfold kas_item
      simp [Array.getD, hi1, hi2, Nat.lt_min, e1, List.getD, List.getElem?_eq_getElem hi2]
    have run := sort_ok (n := ns.length) (key := fun i => key (ns.getD i 0)) (I := fun s' => ∃ h' tk', s' = { s with heap := h', toks := tk' } ∧ Keeps s.heap h')
      (cmp := kas_cmp PySem.Challenge.rw_pu0025_01.row.prog w A oneType' (keys.zip vs.toArray)) (fun i j s' C hi hj ⟨h', tk', es, hk'⟩ hC => ?_) (by lia)
      (G := fun p s' => PB ns.length p ∧ Inc (fun i => key (ns.getD i 0)) p ns.length ∧ ∃ h' tk', s' = { s with heap := h', toks := tk' } ∧ Keeps s.heap h') (s := s) ⟨s.heap, s.toks, rfl, Keeps.refl _⟩ fun p s' hI' B a => ⟨B, a, hI'⟩
    · have run2 := kas_runs (E := E) (Q := fun _ st' s' => ∃ p : Array Nat, arrOf st' = p.map (kas_item (keys.zip vs.toArray)) ∧ failedOf st' = none ∧ PB ns.length p ∧ Inc (fun i => key (ns.getD i 0)) p ns.length ∧ ∃ h' tk', s' = { s with heap := h', toks := tk' } ∧ Keeps s.heap h')
        (by lia) h64 (fun p' st' s' a1 a2 a3 a4 => ⟨p', a2, a3, a4⟩) run
      rw [← est] at run2
      refine wpAny_bind (wpAny_mono run2 ?_ fun _ _ q => q)
      rintro ⟨⟨⟩, st'⟩ s' ⟨p, har, hf, B, hinc, h', tk', rfl, hk'⟩
      dsimp only
      have hp := pick_ok B hinc
      refine tail_wp (hb.trans hk') (hk' _ _ hk) (hk' _ _ ha) hka bk ba (by lia) (by rw [har, Array.size_map, B.size]; lia) hf fun h'' c' hb' ha' => done h'' tk' _ _ c' hb' ha' ?_ hp.1 hp.2
      have e : ((arrOf st').map (·.2)).toList = p.toList.map fun i => vs.getD i .none := by
        rw [har, Array.map_map, Array.toList_map]
        refine List.map_congr_left fun i hi => ?_
        have hi' : i < ns.length := by
          have := (Array.perm_iff_toList_perm.mp B.perm).mem_iff.mp hi
          simpa using this
        obtain ⟨I, d, t', q1, _⟩ := itm i hi'
        show (kas_item (keys.zip vs.toArray) i).2 = _
        rw [q1]
      rw [e]
      refine ints_pick hI _ fun i hi => ?_
      have := (Array.perm_iff_toList_perm.mp B.perm).mem_iff.mp hi
      simpa using this
    · obtain ⟨I, d, t', q1, q2, q3⟩ := itm i hi
      obtain ⟨J, d2, t2, r1, r2, r3⟩ := itm j hj
      subst es
      have okm : ∀ i, i < ns.length → ok (ns.getD i 0) := fun i hi => by
        have e : ns.getD i 0 = ns[i] := by simp [List.getD, List.getElem?_eq_getElem hi]
        rw [e]; exact hok _ (List.getElem_mem hi)
      unfold kas_cmp
      rw [q1, r1]
      have kb := hb.trans hk'
      refine lt_wp (s := { s with heap := h', toks := tk' }) hd hu (hX.keeps kb) (X.keeps kb) (K.keeps kb) ⟨c.fn.keeps kb, fun A' R' s' x y tx ty kk => c.does A' R' s' x y tx ty (kb.trans kk), c.is⟩ (okm i hi) (okm j hj) (hk' _ _ q2) (hk' _ _ q3) (hk' _ _ r2) fun h2 tk2 k2 => ?_
      exact hC _ ⟨h2, tk2, rfl, hk'.trans k2⟩
end
end Mine
end
section
open PySem PySem.W PyProof.Rows PySem.Spec PySem.Calls
set_option maxRecDepth 100000
set_option maxHeartbeats 4000000
namespace Mine
section
variable {w : World} {A : Around} {E : Value → Shared → Prop} {s : Shared} {Ck f : Addr} {cmp : Int → Int → Int} {key : Int → Int} {ok : Int → Prop} {un : Nat} {a kS : Addr} {e1 e : Nat} {vs : List Value} {ns : List Int} {b : Heap}
theorem rest_wp {P : PySem.Fin → Shared → Prop} (hd : A.depth + 80 < recursionLimit) (hu : A.units + un + 20 < cLine) (hX : Ctx w.params A b) (X : (Mine01.hd.heap_1 w.params).In b) (K : KeyAt w.params b Ck f) (c : CmpIs PySem.Challenge.rw_pu0025_01.row.prog w f cmp key ok un b)
    (hb : Keeps b s.heap) (hk : s.heap.get? kS = some (seqObj "list" #[] e)) (ha : s.heap.get? a = some (seqObj "list" #[] e1)) (hka : kS ≠ a) (bk : b.get? kS = none) (ba : b.get? a = none)
    (hI : IntsAre vs ns) (h64 : ns.length < 64) (hok : ∀ x ∈ ns, ok x)
    (done : ∀ h' tk' out ms c, Keeps b h' → h'.get? a = some (seqObj "list" out c) → IntsAre out.toList ms → ms.Perm ns → ms.Pairwise (fun x y => key x ≤ key y) → P (.done (.ret .none)) { s with heap := h', toks := tk' }) :
    wpAny (model PySem.Challenge.rw_pu0025_01.row.prog w) A (ksk_rest a (.ref Ck) false vs.toArray e1 (.ref kS)) P E s := by
  have hl := hI.length
  unfold ksk_rest
  refine wpAny_bind (wpAny_rule ?_)
  first
    | rw [List.forIn_toArray]
    | (rw [← Array.forIn_toList]; simp only [List.toList_toArray])
    | rw [← Array.forIn_toList]
  refine wpAny_bind (ksk_fold (fun i s' => ∃ h' tk' kA e', s' = { s with heap := h', toks := tk' } ∧ Keeps b h' ∧ h'.get? kS = some (seqObj "list" kA e') ∧ h'.get? a = some (seqObj "list" #[] e1) ∧ KeysAt h' Ck kA.toList (ns.take i)) vs 0 s
    ⟨s.heap, s.toks, #[], e, rfl, hb, hk, ha, ⟨rfl, fun i x q => by simp at q⟩⟩ ?step ?done)
  case step =>
    rintro j x s' hx ⟨h', tk', kA, e', rfl, hb', hk', ha', hK⟩
    simp only [Nat.zero_add] at hK ⊢
    have hj : j < ns.length := by rw [← hl]; exact (List.getElem?_eq_some_iff.mp hx).1
    obtain ⟨tx, ht⟩ := hI.get j _ (List.getElem?_eq_getElem hj)
    rw [ht] at hx
    cases hx
    have hz : kA.size = j := by
      have := hK.1
      rw [Array.length_toList, List.length_take, Nat.min_eq_left (Nat.le_of_lt hj)] at this
      exact this
    refine wpAny_bind (wpAny_attempt (wpAny_call (inst_made (s := { s with heap := h', toks := tk' }) ns[j] tx (by lia) (X.keeps hb') (K.keeps hb') fun h2 tk2 I d k2 q1 q2 => ?_)))
    try dsimp only
    have s1 := Heap.SameBut.update h2 kS (Obj.mapSeq (·.push (.ref I)))
    obtain ⟨c2, hc2⟩ : ∃ c2, (h2.update kS (Obj.mapSeq (·.push (.ref I)))).get? kS = some (seqObj "list" (kA.push (.ref I)) c2) := ⟨_, get?_update_seq (k2 _ _ hk') (·.push (.ref I))⟩
    have ek : ns.take (j + 1) = ns.take j ++ [ns[j]] := by rw [List.take_add_one, List.getElem?_eq_getElem hj]; rfl
    have ea : (kA.push (Value.ref I)).toList = kA.toList ++ [Value.ref I] := by simp
    have other : ∀ b' o, h2.get? b' = some o → b' ≠ kS → (h2.update kS (Obj.mapSeq (·.push (.ref I)))).get? b' = some o := fun b' o q r => (s1.2 b' r).trans q
    have nk : ∀ {b' : Addr} {o : Obj}, h2.get? b' = some o → o.cls ≠ .type "list" → b' ≠ kS := fun {b' o} q r z => by
      rw [z, k2 _ _ hk'] at q
      exact r (by rw [← Option.some.inj q])
    refine wpAny_bind (listUpdate_at (k2 _ _ hk') rfl ?_ (by rw [sizeLine_eq]; lia) (Nat.le_trans (Nat.le_of_eq (Array.size_push ..)) (by rw [sizeLine_eq]; lia)))
    refine wpAny_pure ⟨rfl, _, _, kA.push (.ref I), c2, rfl, keepsBut (hb'.trans k2) s1 bk, hc2, other _ _ (k2 _ _ ha') hka.symm, ?_⟩
    rw [ea, ek]
    refine KeysAt.snoc (d := d) (t := tx) ⟨hK.1, fun i y q => ?_⟩ (other _ _ q1 (nk q1 (by simp))) (other _ _ q2 (nk q2 (by decide)))
    obtain ⟨I', d', t', r1, r2, r3⟩ := hK.2 i y q
    exact ⟨I', d', t', r1, other _ _ (k2 _ _ r2) (nk (k2 _ _ r2) (by simp)), other _ _ (k2 _ _ r3) (nk (k2 _ _ r3) (by decide))⟩
  case done =>
    rintro s' ⟨h', tk', kA, e', rfl, hb', hk', ha', hK⟩
    rw [Nat.zero_add, List.take_of_length_le (by lia)] at hK
    try dsimp only
    refine wpAny_bind (listItems_at hk' rfl ?_)
    exact end_wp (s := { s with heap := h', toks := tk' }) hd hu hX X K c hb' hk' ha' hka bk ba hI h64 hok hK done
theorem sorted_cmp {l : Addr} {Q : Value → Shared → Prop} (hd : A.in1.in1.depth + 80 < recursionLimit) (hu : A.in1.in1.units + un + 20 < cLine) (hX : Ctx w.params A.in1.in1 s.heap) (X : (Mine01.hd.heap_1 w.params).In s.heap) (K : KeyAt w.params s.heap Ck f) (c : CmpIs PySem.Challenge.rw_pu0025_01.row.prog w f cmp key ok un s.heap)
    (hlist : s.heap.IsList l vs.toArray) (hI : IntsAre vs ns) (h64 : ns.length < 64) (hok : ∀ x ∈ ns, ok x)
    (done : ∀ D h' tk' out ms c, Keeps s.heap h' → s.heap.get? D = none → h'.get? D = some (seqObj "list" out c) → IntsAre out.toList ms → ms.Perm ns → ms.Pairwise (fun x y => key x ≤ key y) → Q (.ref D) { s with heap := h', toks := tk' }) :
    wpAny (model PySem.Challenge.rw_pu0025_01.row.prog w) A (call (.builtin "sorted") [.ref l] [(Str.ofString "key", .ref Ck)]) Q E s := by
  have hl := hI.length
  refine call_function_entry_kw kind_sorted plain_sorted entry_sorted (ksk_s1 _ _) ?_
  unfold Builtin.«sorted»
  refine wpAny_bind (m := checkCount "sorted" 1 1 _) (wpAny_pure ?_)
  refine wpAny_bind (collect_list hlist ?_ (by rw [sizeLine_eq]; lia))
  refine wpAny_bind (wpAny_newList ?_ (by rw [sizeLine_eq]; lia))
  have hsz : ((s.heap.push (seqObj "list" #[] 0)).update s.heap.objs.size (Obj.mapSeq (· ++ vs.toArray))).objs.size = s.heap.objs.size + 1 := by
    rw [Heap.size_update, size_push']
  have hoL : (((s.heap.push (seqObj "list" #[] 0)).update s.heap.objs.size (Obj.mapSeq (· ++ vs.toArray))).push (seqObj "list" vs.toArray 0)).get? (s.heap.objs.size + 1) = some (seqObj "list" vs.toArray 0) := by
    rw [← hsz]; exact Heap.get?_push_size _ rfl
  have keep : Keeps s.heap (((s.heap.push (seqObj "list" #[] 0)).update s.heap.objs.size (Obj.mapSeq (· ++ vs.toArray))).push (seqObj "list" vs.toArray 0)) := fun b o q => by
    have hlt : b < s.heap.objs.size := Heap.lt_size q
    rw [Heap.get?_push_ne _ _ _ (by rw [hsz]; exact Nat.ne_of_lt (Nat.lt_succ_of_lt hlt)), Heap.get?_update_ne _ _ _ _ (Nat.ne_of_lt hlt), Heap.get?_push_ne _ _ _ (Nat.ne_of_lt hlt)]
    exact q
  show wpAny _ _ _ _ _ { s with heap := ((s.heap.push (seqObj "list" #[] 0)).update s.heap.objs.size (Obj.mapSeq (· ++ vs.toArray))).push (seqObj "list" vs.toArray 0) }
  rw [hsz]
  generalize hg : ((s.heap.push (seqObj "list" #[] 0)).update s.heap.objs.size (Obj.mapSeq (· ++ vs.toArray))).push (seqObj "list" vs.toArray 0) = g at hoL keep
  have ha0 : s.heap.get? (s.heap.objs.size + 1) = none := Heap.get?_none_of_le (Nat.le_succ _)
  have hga : s.heap.objs.size + 1 < g.objs.size := Heap.lt_size hoL
  refine wpAny_bind (wpAny_holding (wpAny_call_entry_kw slot_list_sort ⟨_, hoL, rfl⟩ entry_list_sort ?body (ksk_l1 _ _)))
  case body =>
    rw [ksk_t1]
    have s1 := Heap.SameBut.update g (s.heap.objs.size + 1) (Obj.mapSeq fun _ => (#[] : Array Value))
    obtain ⟨e1, ho1⟩ : ∃ e1, (g.update (s.heap.objs.size + 1) (Obj.mapSeq fun _ => (#[] : Array Value))).get? (s.heap.objs.size + 1) = some (seqObj "list" #[] e1) := ⟨_, get?_update_seq hoL fun _ => #[]⟩
    have k1 := keepsBut keep s1 ha0
    have hz1 : (g.update (s.heap.objs.size + 1) (Obj.mapSeq fun _ => (#[] : Array Value))).objs.size = g.objs.size := Heap.size_update ..
    have hz2 : ((g.update (s.heap.objs.size + 1) (Obj.mapSeq fun _ => (#[] : Array Value))).push (seqObj "tuple" vs.toArray 0)).objs.size = g.objs.size + 1 := by rw [size_push', hz1]
    have hka : ((g.update (s.heap.objs.size + 1) (Obj.mapSeq fun _ => (#[] : Array Value))).push (seqObj "tuple" vs.toArray 0)).objs.size ≠ s.heap.objs.size + 1 := by rw [hz2]; lia
    have hbk : s.heap.get? ((g.update (s.heap.objs.size + 1) (Obj.mapSeq fun _ => (#[] : Array Value))).push (seqObj "tuple" vs.toArray 0)).objs.size = none := Heap.get?_none_of_le (by rw [hz2]; lia)
    unfold ksk_tree
    refine wpAny_bind (listItems_at hoL rfl ?_)
    refine wpAny_bind (listUpdate_at hoL rfl ?_ (by rw [List.size_toArray, sizeLine_eq]; lia) (Nat.zero_le _))
    refine wpAny_bind (seqEpoch_at ho1 rfl ?_)
    refine wpAny_bind (wpAny_newTuple ?_ (by show vs.length ≤ _; rw [sizeLine_eq]; lia))
    refine wpAny_bind (wpAny_newList ?_ (Nat.zero_le _))
    refine wpAny_holding ?_
    refine rest_wp (s := { s with heap := ((g.update (s.heap.objs.size + 1) (Obj.mapSeq fun _ => (#[] : Array Value))).push (seqObj "tuple" vs.toArray 0)).push (seqObj "list" #[] 0) })
      (kS := ((g.update (s.heap.objs.size + 1) (Obj.mapSeq fun _ => (#[] : Array Value))).push (seqObj "tuple" vs.toArray 0)).objs.size) hd hu hX X K c
      (fun x o q => Heap.get?_push_of_some _ (Heap.get?_push_of_some _ (k1 x o q))) (Heap.get?_push_size _ rfl) (Heap.get?_push_of_some _ (Heap.get?_push_of_some _ ho1)) hka
      hbk ha0 hI h64 hok fun h' tk' out ms c' hb' q1 q2 q3 q4 => ⟨_, rfl, wpAny_pure ⟨_, rfl, done _ h' tk' out ms c' hb' ha0 q1 q2 q3 q4⟩⟩
end
end Mine
end
section
open PySem PySem.W PyProof.Rows PySem.Spec PySem.Calls
set_option maxRecDepth 100000
set_option maxHeartbeats 4000000
namespace Mine
/-- octets as numbers -/
def nk (b : List UInt8) : List Nat := b.map UInt8.toNat
@[reducible] def octKind : PyProof.Rows.KeyKind where
  toKeyOrd := PyProof.Rows.strKind.toKeyOrd
  keyOf v := match v with | .bytes x _ => some (nk x.toList) | _ => none
  dflt := []
theorem order_lt : ∀ (a b : List UInt8), (Builtin.Bytes.order a b == .lt) = decide (nk a < nk b)
  | [], [] => by simp [nk, Builtin.Bytes.order]
  | [], y :: ys => by simp [nk, Builtin.Bytes.order]
  | x :: xs, [] => by simp [nk, Builtin.Bytes.order]
  | x :: xs, y :: ys => by
    have ih := order_lt xs ys
    unfold nk at ih ⊢
    rw [List.map_cons, List.map_cons]
    unfold Builtin.Bytes.order
    by_cases h1 : x < y
    · have : x.toNat < y.toNat := h1
      simp [h1, List.cons_lt_cons_iff, this]
    · rw [if_neg h1]
      by_cases h2 : y < x
      · have h3 : y.toNat < x.toNat := h2
        have h4 : ¬ x.toNat < y.toNat := by omega
        have h5 : ¬ x.toNat = y.toNat := by omega
        simp [h2, List.cons_lt_cons_iff, h4, h5]
      · have : x = y := UInt8.le_antisymm (UInt8.not_lt.mp h2) (UInt8.not_lt.mp h1)
        subst this
        rw [if_neg h2, ih]
        simp [List.cons_lt_cons_iff]
theorem oct_slot_lt : Slot "bytes" "__lt__" "bytes.__lt__" :=
  .of (owner := "bytes") (n := "__lt__") (by rw [typeLookup_type, builtinLookup_eq_fast]; kernel_rfl) (by decide +kernel) (by decide +kernel) (by decide +kernel)
    (by first | exact .inl (by decide +kernel) | exact .inr (by decide +kernel)) (by rw [isSubtype_type]; kernel_rfl)
theorem oct_entry_lt : entryFor table "bytes.__lt__" = some Builtin.«bytes.__lt__» := entryFor_of_tree (by kernel_rfl)
theorem oct_args_lt (a b : Value) : argsOk "bytes.__lt__" ⟨[a, b], []⟩ := by
  unfold argsOk; rw [signature?_of (id := "bytes.__lt__") (n := ['_', '_', 't', 'l', '_', '_']) (o := ['s', 'e', 't', 'y', 'b']) (by kernel_rfl) FB.owner_bytes]; kernel_rfl
section
variable {prog : Program} {w : World} {A : Around} {E : Value → Shared → Prop} {s : Shared}
theorem oct_call_lt {a b : Array UInt8} {t u : Tok} {Q : Value → Shared → Prop} (h : Q (.bool (decide (nk a.toList < nk b.toList))) s) :
    wpAny (model prog w) A (call (.builtin "bytes.__lt__") [.bytes a t, .bytes b u]) Q E s := by
  refine wpAny_call_entry oct_slot_lt (typeIs_bytes s a t) oct_entry_lt ?_ (oct_args_lt _ _)
  show wpAny _ _ (isInstance (.bytes b u) (.type "bytes") >>= fun r => _) _ _ s
  refine wpAny_bind (wpAny_isInstance (typeIs_bytes s b u) F.sub_bytes_bytes ?_)
  refine wpAny_pure ⟨_, rfl, ?_⟩
  rw [← order_lt] at h
  exact h
theorem oct_oneLt {a b : Array UInt8} {t u : Tok} {Q : Bool → Shared → Prop} (h : Q (decide (nk a.toList < nk b.toList)) s) : wpAny (model prog w) A (oneLt' true (.bytes a t) (.bytes b u)) Q E s := by
  rw [oneLt'_eq]
  simp only [if_true]
  refine wpAny_bind (wpAny_cRoomFor_byValue rfl ?_)
  refine wpAny_bind (wpAny_callSpecialIfBound?_slot (typeIs_bytes s a t) oct_slot_lt (oct_call_lt ?_))
  exact wpAny_truthy_bool h
end
theorem octKind_oneLt : octKind.OneLt := by
  intro prog w A E s x y a b Q ha hb h
  cases x <;> simp only [octKind, reduceCtorEq, Option.some.injEq] at ha
  cases y <;> simp only [octKind, reduceCtorEq, Option.some.injEq] at hb
  cases ha; cases hb
  exact oct_oneLt h
def octOf : Value → List UInt8
  | .bytes x _ => x.toList
  | _ => []
theorem BytesAre.all : ∀ {vs : List Value} {bs : List (List UInt8)}, BytesAre vs bs → ∀ v ∈ vs, ∃ b t, v = .bytes (List.toArray b) t
  | _, _, .nil, v, hv => by cases hv
  | _, _, .cons b t h, v, hv => by
    rcases List.mem_cons.mp hv with rfl | hv
    · exact ⟨b, t, rfl⟩
    · exact h.all v hv
theorem BytesAre.octs : ∀ {vs : List Value} {bs : List (List UInt8)}, BytesAre vs bs → vs.map octOf = bs
  | _, _, .nil => rfl
  | _, _, .cons b t h => by rw [List.map_cons, h.octs]; simp [octOf]
theorem bytesAre_map : ∀ (vs : List Value), (∀ v ∈ vs, ∃ b t, v = .bytes (List.toArray b) t) → BytesAre vs (vs.map octOf)
  | [], _ => .nil
  | v :: vs, h => by
    obtain ⟨b, t, rfl⟩ := h v (List.mem_cons_self ..)
    have := BytesAre.cons b t (bytesAre_map vs fun u hu => h u (List.mem_cons_of_mem _ hu))
    simpa [octOf] using this
theorem BytesAre.keysOf {vs : List Value} {bs : List (List UInt8)} (hS : BytesAre vs bs) : KeysOf octKind (pairsOf vs) := by
  intro p hp
  rw [pairsOf_toList] at hp
  obtain ⟨x, t, e⟩ := hS.all _ (mem_zip_self hp).2
  exact ⟨nk x, by rw [e]⟩
theorem mapM_first_octs : ∀ {vs : List Value} {bs : List (List UInt8)}, BytesAre vs bs → vs.mapM firstOfTuple' = pure (vs.map fun _ => none)
  | _, _, .nil => by simp
  | _, _, .cons b t h => by rw [List.mapM_cons, show firstOfTuple' (.bytes b.toArray t) = pure none from rfl, mapM_first_octs h]; simp
theorem mapM_typeOf_octs : ∀ {vs : List Value} {bs : List (List UInt8)}, BytesAre vs bs → vs.mapM typeOf = pure (vs.map fun _ => Value.type "bytes")
  | _, _, .nil => by simp
  | _, _, .cons b t h => by
    rw [List.mapM_cons, mapM_typeOf_octs h]
    show (pure (Value.type "bytes") >>= fun b => pure _ >>= fun bs => pure (b :: bs)) = _
    simp
theorem keyKind_octs {v₁ v₂ : Value} {vs : List Value} {bs : List (List UInt8)} (hS : BytesAre (v₁ :: v₂ :: vs) bs) : keyKind' (v₁ :: v₂ :: vs).toArray = pure oneType' := by
  rw [keyKind'_eq, List.mapM_toArray, mapM_first_octs hS]
  simp only [map_pure, pure_bind]
  rw [if_neg (by simp), if_neg (by simp)]
  rw [oneTypeOnly'_eq, List.mapM_toArray, mapM_typeOf_octs hS]
  simp only [map_pure, pure_bind]
  have hall : ((List.map (fun _ => Value.type "bytes") (v₁ :: v₂ :: vs)).toArray.all fun x => x == Value.type "bytes") = true := by
    simp only [List.all_toArray, List.all_map, List.all_eq_true]
    intro _ _
    rfl
  have h0 : (List.map (fun _ => Value.type "bytes") (v₁ :: v₂ :: vs)).toArray[0]? = some (Value.type "bytes") := by simp
  rw [h0]
  simp only [hall, if_true, pure_bind, Option.isSome_some]
theorem KK_oct {xs : Array Keyed} {i : Nat} (hi : i < xs.size) : KK octKind xs i = nk (octOf xs[i].1) := by
  unfold KK; rw [getElem?_pos xs i hi]
  show (octKind.keyOf xs[i].1).getD [] = _
  generalize xs[i].1 = v
  cases v <;> rfl
theorem sorted_out_oct {vs : List Value} {bs : List (List UInt8)} (hS : BytesAre vs bs) {xs : Array Keyed} (hp : xs.Perm (pairsOf vs)) (hs : SortedToK octKind xs (pairsOf vs).size) :
    ∃ bs', BytesAre (xs.map (·.2)).toList bs' ∧ bs'.Perm bs ∧ bs'.Pairwise fun x y => nk x ≤ nk y := by
  have hl : xs.toList.Perm (vs.zip vs) := by rw [← pairsOf_toList]; exact Array.perm_iff_toList_perm.mp hp
  have hmem : ∀ p, p ∈ xs.toList → p.1 = p.2 ∧ p.1 ∈ vs := fun p hp' => mem_zip_self (hl.mem_iff.mp hp')
  refine ⟨xs.toList.map (fun p => octOf p.1), ?_, ?_, ?_⟩
  · have e : (xs.map (·.2)).toList = xs.toList.map (·.1) := by
      rw [Array.toList_map]; exact List.map_congr_left fun p hp' => (hmem p hp').1.symm
    rw [e]
    have h1 := bytesAre_map (xs.toList.map (·.1)) (by
      intro v hv
      obtain ⟨p, hp', rfl⟩ := List.mem_map.mp hv
      exact hS.all _ (hmem p hp').2)
    rwa [List.map_map] at h1
  · have h1 := hl.map (fun p => octOf p.1)
    have e2 : (vs.zip vs).map (fun p => octOf p.1) = bs := by
      have : (vs.zip vs).map (fun p => octOf p.1) = ((vs.zip vs).map Prod.fst).map octOf := by rw [List.map_map]; rfl
      rw [this, List.map_fst_zip (Nat.le_refl _), hS.octs]
    rwa [e2] at h1
  · rw [List.pairwise_iff_getElem]
    intro i j hi hj hij
    have hi' : i < xs.size := by simpa using hi
    have hj' : j < xs.size := by simpa using hj
    have h1 := hs i j (Nat.le_of_lt hij) (by rw [← hp.size_eq]; exact hj')
    rw [KK_oct hi', KK_oct hj'] at h1
    change decide (nk (octOf xs[j].1) < nk (octOf xs[i].1)) = false at h1
    simp only [List.getElem_map, Array.getElem_toList]
    exact List.not_lt.mp (of_decide_eq_false h1)
theorem sorted_octs {prog : Program} {w : World} {A : Around} {E : Value → Shared → Prop} {s : Shared} {h₀ : Heap} {L : Addr} {m : Str → Option Value} {news : List (Addr × Obj)} {l : Addr} {vs : List Value} {bs : List (List UInt8)} {Q : Value → Shared → Prop}
    (F : Fr h₀ L s.heap m) (N : News h₀ L s.heap news) (hl : s.heap.IsList l vs.toArray) (hS : BytesAre vs bs) (h64 : bs.length < 64)
    (h : ∀ D (h' : Heap) (vs' : List Value) (bs' : List (List UInt8)) (e : Nat), Fr h₀ L h' m → News h₀ L h' ((D, W.listOf vs'.toArray e) :: news) → (∀ p ∈ news, p.1 < D) →
      BytesAre vs' bs' → bs'.Perm bs → bs'.Pairwise (fun x y => nk x ≤ nk y) → Q (.ref D) { s with heap := h' }) :
    wpAny (model prog w) A (call (.builtin "sorted") [.ref l]) Q E s := by
  refine sortedK octKind_oneLt hl hS.keysOf (fun v₁ v₂ rest e => keyKind_octs (by rw [← e]; exact hS)) (by rw [hS.length]; exact h64) fun st' hp hs => ?_
  obtain ⟨bs', h1, h2, h3⟩ := sorted_out_oct hS hp hs
  obtain ⟨e, he⟩ := sortedAll_at s.heap vs ((arrOf st').map (·.2))
  exact h _ _ _ bs' e (F.kept fun _ _ => sortedAll_old) (N.kept_cons F (fun _ _ => sortedAll_old) (Nat.le_succ _) he) (fun p hp => Nat.lt_succ_of_lt (Heap.lt_size (N p hp).1)) h1 h2 h3
end Mine
end
section
open PySem PySem.W PyProof.Rows PySem.Spec PySem.Calls
set_option maxRecDepth 100000
set_option maxHeartbeats 4000000
namespace Mine
theorem idx_odd {n : Nat} (h : (n : Int).fmod 2 = 1) : ((n : Int).fdiv 2).toNat = (n - 1) / 2 := by
  rw [Int.fmod_eq_emod_of_nonneg _ (by decide)] at h
  rw [Int.fdiv_eq_ediv_of_nonneg _ (by decide)]
  omega
theorem idx_even {n : Nat} (h : (n : Int).fmod 2 ≠ 1) : ((n : Int).fdiv 2 - 1).toNat = (n - 1) / 2 := by
  rw [Int.fmod_eq_emod_of_nonneg _ (by decide)] at h
  rw [Int.fdiv_eq_ediv_of_nonneg _ (by decide)]
  omega
theorem idx_half {n : Nat} : ((n : Int).fdiv 2).toNat = n / 2 := by
  rw [Int.fdiv_eq_ediv_of_nonneg _ (by decide)]
  omega
theorem itemB {prog : Program} {w : World} {A : Around} {E Q : Value → Shared → Prop} {s : Shared} {h₀ : Heap} {L l : Addr} {news : List (Addr × Obj)} {us : List Value} {bs : List (List UInt8)} {c : Nat} {value slice : Expr} {k : Int} {u : Tok}
    (N : News h₀ L s.heap news) (hm : (l, W.listOf us.toArray c) ∈ news) (hB : BytesAre us bs) (h0 : 0 ≤ k) (h1 : k < bs.length) (h64 : bs.length < 64) (h : ∀ t, Q (.bytes (bs.getD k.toNat []).toArray t) s)
    (hs : subscripted slice false (.ref l) (.int k u) = operate [.ref l, .int k u] (getItem (.ref l) (.int k u)) := by with_unfolding_all rfl) (hg : ∀ r, letTemporaryGo value (.ref l) r = pure () := by intro _; with_unfolding_all rfl) :
    wpAny (model prog w) A (subscriptTail value slice (.ref l) (.int k u)) Q E s := by
  have hk : k.toNat < us.length := by rw [hB.length]; omega
  obtain ⟨b, t, e1, e2⟩ := hB.at (List.getElem?_eq_getElem hk)
  refine item_list (items := us.toArray) ⟨_, (N _ hm).1, rfl, c, rfl⟩ h0 (by omega) (x := us[k.toNat]) (by simp [hk]) ?_ hs hg
  rw [e2]
  have := h t
  rw [List.getD_eq_getElem?_getD, e1] at this
  exact this
section
variable {w : World} {dp un : Nat} {gd : Option (List Code)} {cn : Str} {cs : Scope} {a : Addr} {ccd : Value} {cl : List (Str × Addr)} {outer : List Env} {A₀ : Around} {base h₀ : Heap} {L : Addr} {m mg mb : Str → Option Value} {s : Shared} {Q E : Value → Shared → Prop}
  {p : Program} {loose : List Str} {mean : ExcName → Option Value}
theorem lowB_spec {l : Addr} {vs : List Value} {bs : List (List UInt8)} : PySem.Challenge.rw_pu0025_01.foot = PySem.Challenge.rw_pu0025_01.foot → Below A₀ base outer h₀ → Fr h₀ L s.heap m → (Mine01.hd.heap_1 w.params).In h₀ → Top p loose mean mg mb h₀ → cs.kind = .function → dp + 15 < recursionLimit → un + 120 < cLine → s.heap.IsList l vs.toArray → BytesAre vs bs → 0 < bs.length → bs.length < 64 →
    (∀ (ms : List (List UInt8)) t' h' tk', ms.Perm bs → ms.Pairwise (fun x y => nk x ≤ nk y) → Keeps s.heap h' → Q (.bytes (ms.getD ((bs.length - 1) / 2) []).toArray t') { s with heap := h', toks := tk' }) →
    wpAny (model PySem.Challenge.rw_pu0025_01.row.prog w) (ktrTop dp un gd cn cs L a ccd cl outer) (call (.ref 41) [.ref l]) Q E s := by
  w_top off
  k_with_none
  k_with "call builtin:sorted" => (k_here; (with_reducible show wpAny _ _ (call (Value.builtin "sorted") [Value.ref _]) _ _ _); (k_dflt (refine' sorted_octs ?F ?N ?l hI h1 ?_; (case F => k_asm); (case N => k_asm); (case l => first | assumption | is_list))); intro D9 h9 vs9 bs9 e9 F9 N9 l9 I9 P9 S9; (try k_lt l9))
  k_with "call builtin:len" => (k_here; (with_reducible show wpAny _ _ (call (Value.builtin "len") [Value.ref _]) _ _ _); (rename List.Perm _ _ => hp9); (rename BytesAre _ _ => hb9); k_dflt (refine' kst_len ?kN ?km (hb9.length.trans hp9.length_eq) ?kf ?_; (case kN => k_asm); (case km => k_mem); (case kf => omega)))
  k_with "subscriptTail" => (k_here; (with_reducible show wpAny _ _ (subscriptTail _ _ (Value.ref _) (Value.int _ _)) _ _ _); (rename List.Perm _ _ => hp9); (rename BytesAre _ _ => hb9); k_dflt (refine' itemB ?kN ?km hb9 ?k0 ?k1 ?k2 ?_; (case kN => k_asm); (case km => k_mem); (case k0 => first | exact Int.fdiv_nonneg (Int.natCast_nonneg _) (by decide) | (have := hp9.length_eq; rw [Int.fdiv_eq_ediv_of_nonneg _ (by decide)]; (try rw [Int.fmod_eq_emod_of_nonneg _ (by decide)] at *); omega)); (case k1 => (have := hp9.length_eq; rw [Int.fdiv_eq_ediv_of_nonneg _ (by decide)]; omega)); (case k2 => (have := hp9.length_eq; omega))))
  k_fill
  intro _ B F X T hk hd hu hl hI h0 h1 hret
  k_dflt (refine' callK (by assumption) (by assumption) (by assumption) (by assumption) rfl rfl (by assumption) ?k6 ?k7 ?k8 ?k9 ?kB ?c5 ?c2 ?c3 ?c4 ?_; (case k6 => k_is); (case k7 => k_is); (case k8 => ktr_room); (case k9 => first | exact BindsTo.of_eq rfl | exact binds_K (by k_in) rfl (by k_is) rfl rfl rfl); (case c5 => decide); (case kB => exact locs rfl); (case c2 => exact rfl); (case c3 => exact rfl); (case c4 => exact rfl))
  intro L' h' F' N' B' X' T'
  clear B F X T
  k_steps
  all_goals (rename List.Perm _ _ => hp; rename List.Pairwise _ _ => ho; have hn := hp.length_eq; first
    | (exfalso; omega)
    | (rw [idx_odd (by assumption)]; exact hret _ _ _ _ hp ho (by assumption : Fr s.heap _ _ _).keep)
    | (rw [idx_even (by assumption)]; exact hret _ _ _ _ hp ho (by assumption : Fr s.heap _ _ _).keep))
theorem highB_spec {l : Addr} {vs : List Value} {bs : List (List UInt8)} : PySem.Challenge.rw_pu0025_01.foot = PySem.Challenge.rw_pu0025_01.foot → Below A₀ base outer h₀ → Fr h₀ L s.heap m → (Mine01.hd.heap_1 w.params).In h₀ → Top p loose mean mg mb h₀ → cs.kind = .function → dp + 15 < recursionLimit → un + 120 < cLine → s.heap.IsList l vs.toArray → BytesAre vs bs → 0 < bs.length → bs.length < 64 →
    (∀ (ms : List (List UInt8)) t' h' tk', ms.Perm bs → ms.Pairwise (fun x y => nk x ≤ nk y) → Keeps s.heap h' → Q (.bytes (ms.getD (bs.length / 2) []).toArray t') { s with heap := h', toks := tk' }) →
    wpAny (model PySem.Challenge.rw_pu0025_01.row.prog w) (ktrTop dp un gd cn cs L a ccd cl outer) (call (.ref 48) [.ref l]) Q E s := by
  w_top off
  k_with_none
  k_with "call builtin:sorted" => (k_here; (with_reducible show wpAny _ _ (call (Value.builtin "sorted") [Value.ref _]) _ _ _); (k_dflt (refine' sorted_octs ?F ?N ?l hI h1 ?_; (case F => k_asm); (case N => k_asm); (case l => first | assumption | is_list))); intro D9 h9 vs9 bs9 e9 F9 N9 l9 I9 P9 S9; (try k_lt l9))
  k_with "call builtin:len" => (k_here; (with_reducible show wpAny _ _ (call (Value.builtin "len") [Value.ref _]) _ _ _); (rename List.Perm _ _ => hp9); (rename BytesAre _ _ => hb9); k_dflt (refine' kst_len ?kN ?km (hb9.length.trans hp9.length_eq) ?kf ?_; (case kN => k_asm); (case km => k_mem); (case kf => omega)))
  k_with "subscriptTail" => (k_here; (with_reducible show wpAny _ _ (subscriptTail _ _ (Value.ref _) (Value.int _ _)) _ _ _); (rename List.Perm _ _ => hp9); (rename BytesAre _ _ => hb9); k_dflt (refine' itemB ?kN ?km hb9 ?k0 ?k1 ?k2 ?_; (case kN => k_asm); (case km => k_mem); (case k0 => first | exact Int.fdiv_nonneg (Int.natCast_nonneg _) (by decide) | (have := hp9.length_eq; rw [Int.fdiv_eq_ediv_of_nonneg _ (by decide)]; (try rw [Int.fmod_eq_emod_of_nonneg _ (by decide)] at *); omega)); (case k1 => (have := hp9.length_eq; rw [Int.fdiv_eq_ediv_of_nonneg _ (by decide)]; omega)); (case k2 => (have := hp9.length_eq; omega))))
  k_fill
  intro _ B F X T hk hd hu hl hI h0 h1 hret
  k_dflt (refine' callK (by assumption) (by assumption) (by assumption) (by assumption) rfl rfl (by assumption) ?k6 ?k7 ?k8 ?k9 ?kB ?c5 ?c2 ?c3 ?c4 ?_; (case k6 => k_is); (case k7 => k_is); (case k8 => ktr_room); (case k9 => first | exact BindsTo.of_eq rfl | exact binds_K (by k_in) rfl (by k_is) rfl rfl rfl); (case c5 => decide); (case kB => exact locs rfl); (case c2 => exact rfl); (case c3 => exact rfl); (case c4 => exact rfl))
  intro L' h' F' N' B' X' T'
  clear B F X T
  k_steps
  all_goals (rename List.Perm _ _ => hp; rename List.Pairwise _ _ => ho; have hn := hp.length_eq; first
    | (exfalso; omega)
    | (rw [idx_half]; exact hret _ _ _ _ hp ho (by assumption : Fr s.heap _ _ _).keep))
end
end Mine
end
section
open PySem PySem.W PyProof.Rows PySem.Spec PySem.Calls
set_option maxRecDepth 100000
namespace Mine
/-- an address is none of the ledger's -/
def Off1 (a : Addr) : List (Addr × Obj) → Prop
  | [] => True
  | p :: r => @Ne Nat p.1 a ∧ Off1 a r
theorem Off1.of {a : Addr} : ∀ {news : List (Addr × Obj)}, (∀ p ∈ news, p.1 ≠ a) → Off1 a news
  | [], _ => True.intro
  | _ :: _, h => ⟨h _ List.mem_cons_self, Off1.of fun p hp => h p (List.mem_cons_of_mem _ hp)⟩
/-- a made object goes into the ledger -/
theorem newsAdd {h₀ h h' : Heap} {L D : Addr} {m : Str → Option Value} {news : List (Addr × Obj)} {o : Obj} (F : Fr h₀ L h m) (N : News h₀ L h news) (K : Keeps h h') (hn : h.get? D = none) (hD : h'.get? D = some o) :
    Fr h₀ L h' m ∧ News h₀ L h' ((D, o) :: news) ∧ Off1 D news := by
  refine ⟨keepsFr F K, fun p hp => ?_, Off1.of fun p hp e => ?_⟩
  · rcases List.mem_cons.mp hp with rfl | hp
    · refine ⟨hD, fun e => ?_, ?_⟩
      · obtain ⟨oL, es, ep, hL, r⟩ := F.ns
        have e : D = L := e
        rw [← e, hn] at hL
        cases hL
      · cases q : h₀.get? D with
        | none => rfl
        | some o => have := F.keep _ _ q; rw [hn] at this; cases this
    · exact ⟨K _ _ (N p hp).1, (N p hp).2⟩
  · have := (N p hp).1
    rw [e, hn] at this
    cases this
theorem in_none {h₀ h : Heap} {L l : Addr} {o : Obj} {news : List (Addr × Obj)} (N : News h₀ L h news) (hm : (l, o) ∈ news) : h₀.get? l = none := (N _ hm).2.2
theorem in_is {h₀ h : Heap} {L l : Addr} {o : Obj} {news : List (Addr × Obj)} (N : News h₀ L h news) (hm : (l, o) ∈ news) : h.get? l = some o := (N _ hm).1
section
variable {prog : Program} {w : World} {A₀ A : Around} {s : Shared} {base h₀ : Heap} {outer : List Env} {L : Addr} {m mg mb : Str → Option Value} {env : Env} {R : Result → Shared → Prop}
  {K : Frag} {p : Program} {loose : List Str} {mean : ExcName → Option Value}
  {name qual : Str} {params : Arguments} {body : List Stmt} {scope : Scope} {dV kV doc pm cdv ct oc : Value} {an od : Option Addr} {osl : Array (Option Value)} {f : Addr} {pos : List Value} {kw : List (Str × Value)} {binds : List (Str × Value)}
/-- callK on the code's side -/
theorem codeK (B : Below A₀ base outer h₀) (F : Fr h₀ L s.heap m) (X₀ : K.In h₀) (T : Top p loose mean mg mb h₀) (hA : A.frames = some (env :: outer)) (hf : env.frame = some L) (hke : env.scope.kind = .function)
    (ho : K.lookup f = some ⟨oc, od, .func (fnOf name qual params body scope dV kV doc pm an cdv ct), osl⟩) (hcd : codeIn K cdv qual = true) (hroom : A.depth < recursionLimit)
    (hbind : BindsTo s (fnOf name qual params body scope dV kV doc pm an cdv ct) ⟨pos, kw⟩ binds) (hloc : ∀ y ∈ binds, scope.names.lookup y.1 = some .local)
    (hcell : ∀ x ∈ scope.names, x.2 ≠ .cell) (hco : scope.isCoroutine = false) (hgen : scope.isGenerator = false) (hk : scope.kind = .function)
    (h : ∀ L' h₁, Fr s.heap L' h₁ (fun y => binds.reverse.lookup y) → News s.heap L' h₁ [] → Below A base (env :: outer) s.heap → K.In s.heap → Top p loose mean mg mb s.heap →
      wpAny (model prog w) (A.deeper (envOf qual scope L' f cdv)) (execs body (envOf qual scope L' f cdv))
        (fun fl s' => R (.ok (.ret (match fl with | .ret v => v | _ => .none))) s')
        (fun e s' => wpAny (model prog w) (A.deeper (envOf qual scope L' f cdv)) (leaving (envOf qual scope L' f cdv) e) (fun _ s'' => R (.error e) s'') (fun e' s'' => R (.error e') s'') s')
        { s with heap := h₁, toks := s.toks + binds.length }) : codeAny (model prog w) A (.call (.ref f) ⟨pos, kw⟩) R s := by
  have X := X₀.keeps F.keep
  obtain ⟨_, BG, st, _⟩ := groundX (R := R) B F News.nil hA hf hke
  refine codeAny_call_def (fd := fnOf name qual params body scope dV kV doc pm an cdv ct) (body := body) (binds := binds) hroom (X _ _ ho) rfl (T.nolimit.keeps F.keep) (codeRec_of X hcd) rfl hbind hcell hloc (fun h₁ hns hk₁ => ?_) hco hgen hk
  exact h s.heap.objs.size h₁ ⟨hns, hk₁, Nat.le_refl _⟩ News.nil BG X (T.keeps F.keep)
/-- callK for a def with cells -/
theorem callKC {E Q : Value → Shared → Prop} (B : Below A₀ base outer h₀) (F : Fr h₀ L s.heap m) (X₀ : K.In h₀) (T : Top p loose mean mg mb h₀) (hA : A.frames = some (env :: outer)) (hf : env.frame = some L) (hke : env.scope.kind = .function)
    (ho : K.lookup f = some ⟨oc, od, .func (fnOf name qual params body scope dV kV doc pm an cdv ct), osl⟩) (hcd : codeIn K cdv qual = true) (hroom : A.depth < recursionLimit)
    (hbind : BindsTo s (fnOf name qual params body scope dV kV doc pm an cdv ct) ⟨pos, kw⟩ binds) (hkind : (binds.all fun y => scope.names.lookup y.1 == some .local || scope.names.lookup y.1 == some .cell) = true)
    (hnd : ((cellsFrom 0 scope.names []).map (·.1)).Nodup) (hco : scope.isCoroutine = false) (hgen : scope.isGenerator = false) (hk : scope.kind = .function)
    (h : ∀ L' h₁ tk cells, Fr s.heap L' h₁ (bindL (envOfC qual scope L' f cdv).kindOf binds fun _ => none) → News s.heap L' h₁ cells →
      CellsAre (bindC (envOfC qual scope L' f cdv).kindOf binds fun _ => none) (cellsFrom (L' + 1) scope.names []) cells → Below A base (env :: outer) s.heap → K.In s.heap → Top p loose mean mg mb s.heap →
      wpAny (model prog w) (A.deeper (envOfC qual scope L' f cdv)) (execs body (envOfC qual scope L' f cdv))
        (fun fl s' => Q (match fl with | .ret v => v | _ => .none) s')
        (fun e s' => wpAny (model prog w) (A.deeper (envOfC qual scope L' f cdv)) (leaving (envOfC qual scope L' f cdv) e) (fun _ s'' => E e s'') (fun e' s'' => E e' s'') s')
        { s with heap := h₁, toks := tk }) : wpAny (model prog w) A (call (.ref f) pos kw) Q E s := by
  refine wpAny_call ?_
  have X := X₀.keeps F.keep
  obtain ⟨_, BG, st, _⟩ := groundX (R := fun r s' => match r with | .ok (.ret v) => Q v s' | .ok _ => False | .error e => E e s') B F News.nil hA hf hke
  refine codeAny_call_function hroom (X _ _ ho) rfl hco hgen rfl (codeRec_of X hcd) (hbind _ _ _ _ ?_)
  refine wpAny_newFunctionEnv_cells hk (kindsX hkind _) fun env' he s' x => ?_
  subst he
  refine ⟨(T.nolimit.keeps F.keep).keeps x.toInCall.keep, codeAny_func ?_⟩
  obtain ⟨h₁, tk, rfl, _⟩ := x.done
  obtain ⟨cells, NC, Y⟩ := Cl.news (h₀ := s.heap) (Nat.le_refl _) fun n c hm => ⟨x.cell n c (lookup_of_mem_nodup (cellsFrom_names scope.names 0 (s.heap.objs.size + 1) [] [] rfl ▸ hnd) hm), x.above n c hm⟩
  exact h s.heap.objs.size h₁ tk cells ⟨x.toInCall.ns, x.toInCall.keep, Nat.le_refl _⟩ NC Y BG X (T.keeps F.keep)
end
end Mine
end
section
open PySem PySem.W PyProof.Rows PySem.Spec PySem.Calls
set_option maxRecDepth 100000
namespace Mine
/-- comprehensions whose elements are numbers -/
def KiEl (news : List (Addr × Obj)) (k : Int) (y : Value) (news' : List (Addr × Obj)) : Prop := news' = news ∧ ∃ t : Tok, y = .int k t
theorem KiEl.intro (news : List (Addr × Obj)) {k k' : Int} {t : Tok} (e : k = k') : KiEl news k' (.int k t) news := ⟨rfl, t, by rw [e]⟩
theorem ints_snoc {b : Int} {t : Tok} : ∀ {vs : List Value} {bs : List Int}, IntsAre vs bs → IntsAre (vs ++ [.int b t]) (bs ++ [b])
  | _, _, .nil => .cons b t .nil
  | _, _, .cons z u r => .cons z u (ints_snoc r)
/-- a comprehension's source, under a name that no library line takes -/
def KiSrc (prog : Program) (w : World) (A : Around) (h₀ : Heap) (L : Addr) (m : Str → Option Value) (env : Env) (elt : Expr) (x : Str) (scope : Scope) (cl : List (Str × Addr)) (Fin : Shared → List Value → List (Addr × Obj) → Prop) (v : Value) (s : Shared) : Prop :=
  LCg.CompSrc prog w A h₀ L m env elt x scope cl Fin v s
theorem KiSrc.of {prog : Program} {w : World} {A : Around} {h₀ : Heap} {L : Addr} {m : Str → Option Value} {env : Env} {elt : Expr} {x : Str} {scope : Scope} {cl : List (Str × Addr)} {Fin : Shared → List Value → List (Addr × Obj) → Prop} {v : Value} {s : Shared}
    (h : LCg.CompSrc prog w A h₀ L m env elt x scope cl Fin v s) : KiSrc prog w A h₀ L m env elt x scope cl Fin v s := h
theorem ListComp_M {prog : Program} {w : World} {A : Around} {E : Value → Shared → Prop} {s : Shared} {h₀ : Heap} {L : Addr} {m : Str → Option Value} {env : Env} {elt iter : Expr} {x : Str} {px : Pos} {scope : Scope} {cl : List (Str × Addr)} {pos : Pos} {Q : Value → Shared → Prop} (F₀ : Fr h₀ L s.heap m)
    (hclos : closureFor scope env = pure cl) (hcell : ∀ y ∈ scope.names, y.2 ≠ .cell) (hkind : scope.kind = .function)
    (hnames : ∀ y ∈ scope.names, y.2 = .local → scope.names.lookup y.1 = some .local) (hx : scope.names.lookup x = some .local)
    (h : wpAny (model prog w) A (eval iter env) (KiSrc prog w A h₀ L m env elt x scope cl (fun s₂ => LCg.FinE h₀ L m s₂ Q)) E s)
    (hs : ∀ x, foldedSetIterable iter env x = pure x := by intro _; rfl) :
    wpAny (model prog w) A (eval (.ListComp elt [⟨.Name x px, iter, [], 0⟩] scope pos) env) Q E s := LCg.ListComp_U F₀ hclos hcell hkind hnames hx h hs
section
variable {prog : Program} {w : World} {A : Around} {h₀ : Heap} {L : Addr} {m : Str → Option Value} {env : Env} {elt : Expr} {x : Str} {scope : Scope} {cl : List (Str × Addr)} {s : Shared} {S : List (Addr × Obj) → Prop} {P : Nat → Value → Prop} {Fin : List Value → List (Addr × Obj) → Prop} {news : List (Addr × Obj)}
theorem ki_rest {n : Nat} {bs : List Int} (hl : bs.length = n)
    (turn : ∀ i v b, bs[i]? = some b → P i v → ∀ I oI C oC D m₂ ys h tk (E' : Value → Shared → Prop), LCg.NsObj oC m₂ → m₂ x = some v → Fr h₀ L h m → News h₀ L h ((I, oI) :: (C, oC) :: (D, LCg.lst ys) :: news) → LCg.Off3 I C D news → ((@Ne Nat I C) ∧ (@Ne Nat I D) ∧ (@Ne Nat C D)) →
      wpAny (model prog w) A (eval elt (compEnvC scope cl C env)) (LCg.CompEnd h₀ L m { s with heap := h, toks := tk } I oI C oC D (LCg.lst ys) S (fun y news' => KiEl news b y news')) E' { s with heap := h, toks := tk })
    (fin : ∀ ys, IntsAre ys bs → Fin ys news) : LCg.CompRest prog w A h₀ L m env elt x scope cl s S P Fin n 0 [] news := by
  have key : ∀ (j i : Nat) (ys : List Value), i + j = n → IntsAre ys (bs.take i) → LCg.CompRest prog w A h₀ L m env elt x scope cl s S P Fin j i ys news := by
    intro j
    induction j with
    | zero =>
      intro i ys hi hy
      rw [List.take_of_length_le (by omega)] at hy
      exact LCg.CompRest.zero (fin ys hy)
    | succ j ih =>
      intro i ys hi hy
      refine LCg.CompRest.succ ?_
      intro v I oI C oC D m₂ h tk E' hv hC hx F N off ne
      have hi' : i < bs.length := by omega
      refine wpAny_mono (turn i v _ (List.getElem?_eq_getElem hi') hv I oI C oC D m₂ ys h tk E' hC hx F N off ne) (fun y s₂ hq => ?_) fun _ _ e => e
      obtain ⟨h', tk', nw, e, F', N', off', hS, hn, t', hy'⟩ := hq
      rw [hn] at N' off' hS
      refine ⟨h', tk', news, e, F', N', off', hS, ?_⟩
      rw [hy']
      refine ih (i + 1) _ (by omega) ?_
      rw [List.take_add_one, List.getElem?_eq_getElem hi']
      exact ints_snoc hy
  exact key n 0 [] (by omega) (by simpa using IntsAre.nil)
/-- over numbers -/
theorem ki_ints {vs : List Value} {ns : List Int} (g : Int → Int) (hi : IntsAre vs ns)
    (turn : ∀ k t, k ∈ ns → ∀ I oI C oC D m₂ ys h tk (E' : Value → Shared → Prop), LCg.NsObj oC m₂ → m₂ x = some (.int k t) → Fr h₀ L h m → News h₀ L h ((I, oI) :: (C, oC) :: (D, LCg.lst ys) :: news) → LCg.Off3 I C D news → ((@Ne Nat I C) ∧ (@Ne Nat I D) ∧ (@Ne Nat C D)) →
      wpAny (model prog w) A (eval elt (compEnvC scope cl C env)) (LCg.CompEnd h₀ L m { s with heap := h, toks := tk } I oI C oC D (LCg.lst ys) S (fun y news' => KiEl news (g k) y news')) E' { s with heap := h, toks := tk })
    (fin : ∀ ys, IntsAre ys (ns.map g) → Fin ys news) : LCg.CompRest prog w A h₀ L m env elt x scope cl s S (fun i v => vs.toArray[i]? = some v) Fin vs.toArray.size 0 [] news := by
  refine ki_rest (bs := ns.map g) (by rw [List.length_map, List.size_toArray]; exact hi.length.symm) (fun i v b hb hv => ?_) fin
  rw [List.getElem?_map] at hb
  cases q : ns[i]? with
  | none => rw [q] at hb; simp at hb
  | some k =>
    rw [q] at hb
    cases (show some (g k) = some b from hb)
    obtain ⟨t, ht⟩ := hi.get i k q
    have hv' : vs[i]? = some v := by simpa using hv
    rw [ht] at hv'
    cases hv'
    exact turn k t (List.mem_of_getElem? q)
end
end Mine
end
section
open PySem PySem.W PyProof.Rows PySem.Spec PySem.Calls
set_option maxRecDepth 100000
namespace Mine
/-- a comprehension of two clauses over numbers -/
def Bt (X : Addr) (h h' : Heap) : Prop := ∀ b o, b ≠ X → h.get? b = some o → h'.get? b = some o
/-- its three objects are apart -/
structure Apt (h₀ : Heap) (L : Addr) (news : List (Addr × Obj)) (X : Addr) : Prop where
  l : X ≠ L
  z : h₀.get? X = none
  n : ∀ p ∈ news, p.1 ≠ X
theorem bt_fr {h₀ h h' : Heap} {L X : Addr} {m : Str → Option Value} {news : List (Addr × Obj)} (k : Bt X h h') (a : Apt h₀ L news X) (F : Fr h₀ L h m) : Fr h₀ L h' m := by
  obtain ⟨oL, es, ep, hL, r⟩ := F.ns
  exact ⟨⟨oL, es, ep, k _ _ a.l.symm hL, r⟩, fun b o e => k b o (fun q => by rw [q, a.z] at e; cases e) (F.keep b o e), F.above⟩
theorem bt_news {h₀ h h' : Heap} {L X : Addr} {news : List (Addr × Obj)} (k : Bt X h h') (a : Apt h₀ L news X) (N : News h₀ L h news) : News h₀ L h' news := fun p hp => ⟨k _ _ (a.n p hp) (N p hp).1, (N p hp).2⟩
theorem bt_it {h h' : Heap} {X I l : Addr} {i : Nat} (k : Bt X h h') (n : I ≠ X) (x : h.IsListIter I l i) : h'.IsListIter I l i := let ⟨o, e, r⟩ := x; ⟨o, k _ _ n e, r⟩
theorem bt_ls {h h' : Heap} {X I : Addr} {vs : Array Value} (k : Bt X h h') (n : I ≠ X) (x : h.IsList I vs) : h'.IsList I vs := let ⟨o, e, r⟩ := x; ⟨o, k _ _ n e, r⟩
theorem bt_ns {h h' : Heap} {X C : Addr} {m : Str → Option Value} (k : Bt X h h') (n : C ≠ X) (x : h.Ns C m) : h'.Ns C m := let ⟨o, es, ep, e, r⟩ := x; ⟨o, es, ep, k _ _ n e, r⟩
theorem Bt.same {X : Addr} {h h' : Heap} (x : Heap.SameBut X h h') : Bt X h h' := fun b _ n e => (x.2 b n).trans e
theorem Bt.ext {X : Addr} {h h' : Heap} (x : Heap.ExtBut X h h') : Bt X h h' := fun b o n e => x b o n e
theorem Bt.of {X : Addr} {h h' : Heap} (x : Keeps h h') : Bt X h h' := fun b o _ e => x b o e
structure NSt (h₀ : Heap) (L : Addr) (m : Str → Option Value) (news : List (Addr × Obj)) (I C D l : Addr) (vs : List Value) (h : Heap) (i : Nat) (ys : List Value) : Prop where
  fr : Fr h₀ L h m
  nw : News h₀ L h news
  it : h.IsListIter I l i
  ns : ∃ m', h.Ns C m'
  ac : h.get? D = some (LCg.lst ys)
structure NAp (h₀ : Heap) (L : Addr) (news : List (Addr × Obj)) (I C D : Addr) : Prop where
  i : Apt h₀ L news I
  c : Apt h₀ L news C
  d : Apt h₀ L news D
  ic : I ≠ C
  id : I ≠ D
  cd : C ≠ D
section
variable {h₀ : Heap} {L : Addr} {m : Str → Option Value} {news : List (Addr × Obj)} {I C D l : Addr} {vs : List Value} {h h' : Heap} {i : Nat} {ys : List Value}
theorem NSt.keeps (x : NSt h₀ L m news I C D l vs h i ys) (k : Keeps h h') : NSt h₀ L m news I C D l vs h' i ys :=
  let ⟨mm, q⟩ := x.ns
  ⟨keepsFr x.fr k, keepsNews x.nw k, let ⟨o, e, r⟩ := x.it; ⟨o, k _ _ e, r⟩, ⟨mm, let ⟨o, es, ep, e, r⟩ := q; ⟨o, es, ep, k _ _ e, r⟩⟩, k _ _ x.ac⟩
theorem NSt.setC (a : NAp h₀ L news I C D) (x : NSt h₀ L m news I C D l vs h i ys) (k : Bt C h h') {mm : Str → Option Value} (q : h'.Ns C mm) : NSt h₀ L m news I C D l vs h' i ys :=
  ⟨bt_fr k a.c x.fr, bt_news k a.c x.nw, bt_it k a.ic x.it, ⟨mm, q⟩, k _ _ a.cd.symm x.ac⟩
theorem NSt.setI (a : NAp h₀ L news I C D) (x : NSt h₀ L m news I C D l vs h i ys) (k : Bt I h h') {j : Nat} (q : h'.IsListIter I l j) : NSt h₀ L m news I C D l vs h' j ys :=
  ⟨bt_fr k a.i x.fr, bt_news k a.i x.nw, q, let ⟨mm, z⟩ := x.ns; ⟨mm, bt_ns k a.ic.symm z⟩, k _ _ a.id.symm x.ac⟩
theorem NSt.setD (a : NAp h₀ L news I C D) (x : NSt h₀ L m news I C D l vs h i ys) (k : Bt D h h') {zs : List Value} (q : h'.get? D = some (LCg.lst zs)) : NSt h₀ L m news I C D l vs h' i zs :=
  ⟨bt_fr k a.d x.fr, bt_news k a.d x.nw, bt_it k a.id x.it, let ⟨mm, z⟩ := x.ns; ⟨mm, bt_ns k a.cd z⟩, q⟩
theorem NSt.other (x : NSt h₀ L m news I C D l vs h i ys) {X : Addr} (a : Apt h₀ L news X) (hi : I ≠ X) (hc : C ≠ X) (hd : D ≠ X) (k : Bt X h h') : NSt h₀ L m news I C D l vs h' i ys :=
  ⟨bt_fr k a x.fr, bt_news k a x.nw, bt_it k hi x.it, let ⟨mm, z⟩ := x.ns; ⟨mm, bt_ns k hc z⟩, k _ _ hd x.ac⟩
end
theorem compTurn_in (elt t1 i1 t2 i2 : Expr) (scope : Scope) (pos : Pos) (it acc : Value) (env : Env) :
    compTurn (.ListComp elt [⟨t1, i1, [], 0⟩, ⟨t2, i2, [], 0⟩] scope pos) 1 it acc env = (standAt i2.pos >>= fun _ => pyNext it >>= fun r => match r with
      | none => pure (.done .next)
      | some v => letOwnedTupleGo t2 it v >>= fun _ => assign t2 env v >>= fun _ =>
        (eval elt env >>= fun x => call (.builtin "list.append") [acc, x] >>= fun _ => pure ()) >>= fun _ =>
          again (.compLoop (.ListComp elt [⟨t1, i1, [], 0⟩, ⟨t2, i2, [], 0⟩] scope pos) 1 it acc env)) := by rfl
theorem compTurn_out (elt t1 i1 t2 i2 : Expr) (scope : Scope) (pos : Pos) (it acc : Value) (env : Env) :
    compTurn (.ListComp elt [⟨t1, i1, [], 0⟩, ⟨t2, i2, [], 0⟩] scope pos) 0 it acc env = (standAt i1.pos >>= fun _ => pyNext it >>= fun r => match r with
      | none => pure (.done .next)
      | some v => letOwnedTupleGo t1 it v >>= fun _ => assign t1 env v >>= fun _ =>
        (eval i2 env >>= fun x => standAt i2.pos >>= fun _ => foldedSetIterable i2 env x >>= fun x => holding [x] (pyIter x) >>= fun it2 =>
          runOwn (.compStart (.ListComp elt [⟨t1, i1, [], 0⟩, ⟨t2, i2, [], 0⟩] scope pos) 1 it2 acc env) env >>= fun _ => 
          again (.compLoop (.ListComp elt [⟨t1, i1, [], 0⟩, ⟨t2, i2, [], 0⟩] scope pos) 0 it acc env))) := by rfl
/-- what the element gives -/
def EltEnd (v : Int) (s₁ : Shared) (y : Value) (s₂ : Shared) : Prop := ∃ (t' : Tok) (tk' : Nat), y = .int v t' ∧ s₂ = { s₁ with toks := tk' }
theorem EltEnd.intro {v : Int} {s₁ : Shared} {t' : Tok} {tk' : Nat} : EltEnd v s₁ (.int v t') { s₁ with toks := tk' } := ⟨t', tk', rfl, rfl⟩
theorem ints_app {vs : List Value} {bs : List Int} : ∀ {us : List Value} {as : List Int}, IntsAre us as → IntsAre vs bs → IntsAre (us ++ vs) (as ++ bs)
  | _, _, .nil, h => h
  | _, _, .cons z u r, h => .cons z u (ints_app r h)
section
variable {prog : Program} {w : World} {A : Around} {R : Result → Shared → Prop} {s : Shared} {h₀ : Heap} {L : Addr} {m : Str → Option Value} {news : List (Addr × Obj)} {I C D l : Addr} {vs : List Value} {env : Env}
  {elt i1 i2 : Expr} {x f : Str} {px pf : Pos} {scope : Scope} {pos : Pos} {cl : List (Str × Addr)}
theorem comp_in (hh : A.handled = none) (a : NAp h₀ L news I C D) {g : Int → Int} {J G : Addr} {us : List Value} {fs : List Int} {i : Nat} {ys : List Value} (hu : IntsAre us fs) (hkind : scope.kind = .function) (hf : scope.names.lookup f = some .local)
    (aJ : Apt h₀ L news J) (ji : I ≠ J) (jc : C ≠ J) (jd : D ≠ J) (gj : G ≠ J) (gc : G ≠ C) (gd : G ≠ D) (hz : ys.length + fs.length ≤ 1000)
    (helt : ∀ b t, b ∈ fs → ∀ oC m₂ h tk (E' : Value → Shared → Prop), LCg.NsObj oC m₂ → m₂ f = some (.int b t) → Fr h₀ L h m → News h₀ L h ((C, oC) :: news) →
      wpAny (model prog w) A (eval elt (compEnvC scope cl C env)) (EltEnd (g b) { s with heap := h, toks := tk }) E' { s with heap := h, toks := tk })
    {hp : Heap} {tk0 : Nat} (S : NSt h₀ L m news I C D l vs hp i ys) (hJ : hp.IsListIter J G 0) (hG : hp.IsList G us.toArray)
    (done : ∀ h tk zs, NSt h₀ L m news I C D l vs h i (ys ++ zs) → IntsAre zs (fs.map g) → R (.ok .next) { s with heap := h, toks := tk }) :
    codeAny (model prog w) A (.compLoop (.ListComp elt [⟨.Name x px, i1, [], 0⟩, ⟨.Name f pf, i2, [], 0⟩] scope pos) 1 (.ref J) (.ref D) (compEnvC scope cl C env)) R { s with heap := hp, toks := tk0 } := by
  refine codeAny_loop rfl (fun n s' => ∃ h tk j zs, s' = { s with heap := h, toks := tk } ∧ NSt h₀ L m news I C D l vs h i (ys ++ zs) ∧ h.IsListIter J G j ∧ h.IsList G us.toArray ∧ IntsAre zs ((fs.take j).map g) ∧ j ≤ fs.length ∧ n = fs.length + 1 - j)
    ?_ (fs.length + 1) ⟨hp, tk0, 0, [], rfl, by simpa using S, hJ, hG, by simpa using IntsAre.nil, Nat.zero_le _, rfl⟩
  rintro n s' ⟨h, tk, j, zs, rfl, S, hJ, hG, hZ, hj, rfl⟩
  show wpAny _ A ((compTurn _ 1 (.ref J) (.ref D) _).onRaise (fun x => do noteFrame x _; theTreesLotGoes x)) _ _ _
  refine wpAny_noted ?_
  rw [compTurn_in]
  refine wpAny_bind (wpAny_standAt (wpAny_bind ?_))
  have hul := hu.length
  by_cases hlt : j < fs.length
  · obtain ⟨t, ht⟩ := hu.get j _ (List.getElem?_eq_getElem hlt)
    refine wpAny_pyNext_list_item hJ hG (x := .int fs[j] t) (by simpa using ht) fun h₁ hJ₁ hs₁ => ?_
    have k1 := Bt.same hs₁
    have S1 := S.other aJ ji jc jd k1
    have hG1 := bt_ls k1 gj hG
    refine wpAny_bind (wpAny_of_eq (a := ()) (by rfl) ?_)
    obtain ⟨m1, hm1⟩ := S1.ns
    refine wpAny_bind (wpAny_assign_Name (wpAny_storeName_local (lookup_relabel_local hf) hm1 (fun h₂ hn₂ hs₂ => ?_) (by simp [compEnvC, relabel, hkind])))
    have k2 : Bt C h₁ h₂ := Bt.same hs₂
    have S2 := S1.setC a k2 hn₂
    have hG2 := bt_ls k2 gc hG1
    have hJ2 := bt_it k2 jc.symm hJ₁
    obtain ⟨oC, heC, hoC⟩ := LCg.ns_obj hn₂
    refine wpAny_bind (wpAny_bind (wpAny_mono (helt fs[j] t (List.getElem_mem hlt) oC _ h₂ _ _ hoC (by simp) S2.fr (fun p hp => ?_)) (fun y s₃ hy => ?_) fun _ _ e => e))
    · rcases List.mem_cons.mp hp with rfl | hp
      · exact ⟨heC, a.c.l, a.c.z⟩
      · exact S2.nw p hp
    · obtain ⟨t', tk', rfl, rfl⟩ := hy
      have hzl : zs.length = j := by rw [hZ.length, List.length_map, List.length_take, Nat.min_eq_left hj]
      refine wpAny_bind (append_at S2.ac (fun h₃ hs₃ hD₃ => ?_) (by rw [List.size_toArray, List.length_append, hzl, sizeLine_eq]; omega))
      have k3 := Bt.same hs₃
      have S3 : NSt h₀ L m news I C D l vs h₃ i (ys ++ (zs ++ [.int (g fs[j]) t'])) := S2.setD a k3 (by rw [hD₃, ← List.append_assoc, ← LCg.lst_snoc])
      refine wpAny_pure (wpAny_pure ⟨rfl, fs.length + 1 - (j + 1), by omega, h₃, _, j + 1, zs ++ [.int (g fs[j]) t'], rfl, S3, bt_it k3 jd.symm hJ2, bt_ls k3 gd hG2, ?_, hlt, rfl⟩)
      rw [List.take_add_one, List.getElem?_eq_getElem hlt, List.map_append]
      exact ints_snoc hZ
  · obtain rfl : j = fs.length := by omega
    refine wpAny_pyNext_list_end hh hJ hG (by simp [hul]) fun h₁ hs₁ => ?_
    refine wpAny_pure ?_
    rw [List.take_length] at hZ
    exact done h₁ _ zs (S.other aJ ji jc jd (Bt.ext hs₁)) hZ
theorem fresh_apt {h : Heap} {X : Addr} (F : Fr h₀ L h m) (N : News h₀ L h news) (hn : h.get? X = none) : Apt h₀ L news X := by
  refine ⟨fun e => ?_, ?_, fun p hp e => ?_⟩
  · obtain ⟨oL, es, ep, hL, r⟩ := F.ns
    rw [← e, hn] at hL; cases hL
  · cases q : h₀.get? X with
    | none => rfl
    | some o => have := F.keep _ _ q; rw [hn] at this; cases this
  · have := (N p hp).1
    rw [e, hn] at this; cases this
theorem some_ne {h : Heap} {a X : Addr} {o : Obj} (e : h.get? a = some o) (hn : h.get? X = none) : a ≠ X := fun q => by rw [q, hn] at e; cases e
theorem NSt.freshes {h : Heap} {i : Nat} {ys : List Value} {X : Addr} (S : NSt h₀ L m news I C D l vs h i ys) (hn : h.get? X = none) : Apt h₀ L news X ∧ I ≠ X ∧ C ≠ X ∧ D ≠ X := by
  refine ⟨fresh_apt S.fr S.nw hn, ?_, ?_, some_ne S.ac hn⟩
  · obtain ⟨o, e, _⟩ := S.it; exact some_ne e hn
  · obtain ⟨mm, o, es, ep, e, _⟩ := S.ns; exact some_ne e hn
/-- what the inner clause's source gives -/
def StepEnd (fs : List Int) (s₁ : Shared) (y : Value) (s₂ : Shared) : Prop :=
  ∃ (G : Addr) (c : Nat) (us : List Value) (h' : Heap) (tk' : Nat), y = .ref G ∧ s₂ = { s₁ with heap := h', toks := tk' } ∧ Keeps s₁.heap h' ∧ s₁.heap.get? G = none ∧ h'.get? G = some (W.listOf us.toArray c) ∧ IntsAre us fs
theorem StepEnd.intro {fs : List Int} {s₁ : Shared} {G : Addr} {c : Nat} {us : List Value} {h' : Heap} {tk' : Nat} (a : Keeps s₁.heap h') (b : s₁.heap.get? G = none) (d : h'.get? G = some (W.listOf us.toArray c)) (e : IntsAre us fs) :
    StepEnd fs s₁ (.ref G) { s₁ with heap := h', toks := tk' } := ⟨G, c, us, h', tk', rfl, rfl, a, b, d, e⟩
theorem comp_start1 {it acc : Value} {cenv : Env} (h0 : codeAny (model prog w) A (.compLoop (.ListComp elt [⟨.Name x px, i1, [], 0⟩, ⟨.Name f pf, i2, [], 0⟩] scope pos) 1 it acc cenv) R s)
    (h : wpAny (model prog w) A (pyIter it) (fun it' s' => codeAny (model prog w) A (.compLoop (.ListComp elt [⟨.Name x px, i1, [], 0⟩, ⟨.Name f pf, i2, [], 0⟩] scope pos) 1 it' acc cenv) R s')
      (notedBy (model prog w) A cenv fun x s' => R (.error x) s') s) :
    codeAny (model prog w) A (.compStart (.ListComp elt [⟨.Name x px, i1, [], 0⟩, ⟨.Name f pf, i2, [], 0⟩] scope pos) 1 it acc cenv) R s := by
  refine codeAny_of_tree ?_
  show wpAny _ _ ((compStart _ 1 it acc cenv).onRaise (fun x => do noteFrame x cenv; standAt theWindowsPlace)) _ _ s
  refine wpAny_notedAt ?_
  unfold compStart
  show wpAny _ _ (ask >>= _) _ _ s
  refine wpAny_bind (wpAny_askSetting (wpAny_ite ?_))
  split
  · first
      | exact wpAny_bind (wpAny_pure (wpAny_pure (And.intro rfl h0)))
      | exact wpAny_pure (And.intro rfl h0)
  · first
      | exact wpAny_bind (wpAny_rule (wpAny_bind (wpAny_standAt (wpAny_bind (wpAny_mono h (fun it' s' h' => wpAny_pure (And.intro rfl h')) fun _ _ x => x)))))
      | (refine wpAny_bind (wpAny_rule ?_); show wpAny _ _ (standAt i2.pos >>= _) _ _ s; exact wpAny_bind (wpAny_standAt (wpAny_bind (wpAny_mono h (fun it' s' h' => wpAny_pure (And.intro rfl h')) fun _ _ x => x))))
theorem comp_out (hh : A.handled = none) (a : NAp h₀ L news I C D) {g : Int → Int} {inn : Int → List Int} {ns : List Int} (hl : h₀.IsList l vs.toArray) (hi : IntsAre vs ns) (hkind : scope.kind = .function) (hx : scope.names.lookup x = some .local) (hf : scope.names.lookup f = some .local)
    (hs2 : ∀ (e : Env) x, foldedSetIterable i2 e x = pure x) (hz : (ns.flatMap inn).length ≤ 1000)
    (hstep : ∀ k t, k ∈ ns → ∀ oC m₂ h tk (E' : Value → Shared → Prop), LCg.NsObj oC m₂ → m₂ x = some (.int k t) → Fr h₀ L h m → News h₀ L h ((C, oC) :: news) →
      wpAny (model prog w) A (eval i2 (compEnvC scope cl C env)) (StepEnd (inn k) { s with heap := h, toks := tk }) E' { s with heap := h, toks := tk })
    (helt : ∀ b t k, k ∈ ns → b ∈ inn k → ∀ oC m₂ h tk (E' : Value → Shared → Prop), LCg.NsObj oC m₂ → m₂ f = some (.int b t) → Fr h₀ L h m → News h₀ L h ((C, oC) :: news) →
      wpAny (model prog w) A (eval elt (compEnvC scope cl C env)) (EltEnd (g b) { s with heap := h, toks := tk }) E' { s with heap := h, toks := tk })
    {hp : Heap} {tk0 : Nat} (S : NSt h₀ L m news I C D l vs hp 0 [])
    (done : ∀ h tk zs mm, Fr h₀ L h m → News h₀ L h news → h.Ns C mm → h.get? D = some (LCg.lst zs) → IntsAre zs ((ns.flatMap inn).map g) → R (.ok .next) { s with heap := h, toks := tk }) :
    codeAny (model prog w) A (.compLoop (.ListComp elt [⟨.Name x px, i1, [], 0⟩, ⟨.Name f pf, i2, [], 0⟩] scope pos) 0 (.ref I) (.ref D) (compEnvC scope cl C env)) R { s with heap := hp, toks := tk0 } := by
  refine codeAny_loop rfl (fun n s' => ∃ h tk j zs, s' = { s with heap := h, toks := tk } ∧ NSt h₀ L m news I C D l vs h j zs ∧ IntsAre zs (((ns.take j).flatMap inn).map g) ∧ j ≤ ns.length ∧ n = ns.length + 1 - j)
    ?_ (ns.length + 1) ⟨hp, tk0, 0, [], rfl, S, by simpa using IntsAre.nil, Nat.zero_le _, rfl⟩
  rintro n s' ⟨h, tk, j, zs, rfl, S, hZ, hj, rfl⟩
  show wpAny _ A ((compTurn _ 0 (.ref I) (.ref D) _).onRaise (fun x => do noteFrame x _; theTreesLotGoes x)) _ _ _
  refine wpAny_noted ?_
  rw [compTurn_out]
  refine wpAny_bind (wpAny_standAt (wpAny_bind ?_))
  have hil := hi.length
  have hL : h.IsList l vs.toArray := let ⟨o, e, r⟩ := hl; ⟨o, S.fr.keep _ _ e, r⟩
  by_cases hlt : j < ns.length
  · obtain ⟨t, ht⟩ := hi.get j _ (List.getElem?_eq_getElem hlt)
    refine wpAny_pyNext_list_item S.it hL (x := .int ns[j] t) (by simpa using ht) fun h₁ hI₁ hs₁ => ?_
    have S1 := S.setI a (Bt.same hs₁) hI₁
    refine wpAny_bind (wpAny_of_eq (a := ()) (by rfl) ?_)
    obtain ⟨m1, hm1⟩ := S1.ns
    refine wpAny_bind (wpAny_assign_Name (wpAny_storeName_local (lookup_relabel_local hx) hm1 (fun h₂ hn₂ hs₂ => ?_) (by simp [compEnvC, relabel, hkind])))
    have S2 := S1.setC a (Bt.same hs₂) hn₂
    obtain ⟨oC, heC, hoC⟩ := LCg.ns_obj hn₂
    refine wpAny_bind (wpAny_mono (hstep ns[j] t (List.getElem_mem hlt) oC _ h₂ _ _ hoC (by simp) S2.fr (fun p hp => ?_)) (fun y s₃ hy => ?_) fun _ _ e => e)
    · rcases List.mem_cons.mp hp with rfl | hp
      · exact ⟨heC, a.c.l, a.c.z⟩
      · exact S2.nw p hp
    · obtain ⟨G, c, us, h₃, tk', rfl, rfl, k3, hG0, hG, hus⟩ := hy
      obtain ⟨_, gi, gc, gd⟩ := S2.freshes hG0
      have S3 := S2.keeps k3
      refine wpAny_bind (wpAny_standAt (wpAny_bind (wpAny_of_eq (hs2 _ _) (wpAny_bind (wpAny_holding ?_)))))
      have hGl : h₃.IsList G us.toArray := ⟨_, hG, rfl, c, rfl⟩
      refine wpAny_pyIter_list hGl ?_
      have k4 : Keeps h₃ (h₃.push { cls := .type "list_iterator", data := .fields #[.ref G, .int 0 0] }) := fun b o e => Heap.get?_push_of_some _ e
      have hJ0 : h₃.get? h₃.objs.size = none := Heap.get?_none_of_le (Nat.le_refl _)
      obtain ⟨aJ, ji, jc, jd⟩ := S3.freshes hJ0
      have S4 := S3.keeps k4
      have hJ4 : (h₃.push { cls := .type "list_iterator", data := .fields #[.ref G, .int 0 0] }).IsListIter h₃.objs.size G 0 := ⟨_, Heap.get?_push_size _ rfl, rfl, rfl⟩
      have hG4 : (h₃.push { cls := .type "list_iterator", data := .fields #[.ref G, .int 0 0] }).IsList G us.toArray := ⟨_, k4 _ _ hG, rfl, c, rfl⟩
      have et : (ns.take (j + 1)).flatMap inn = (ns.take j).flatMap inn ++ inn ns[j] := by
        rw [List.take_add_one, List.getElem?_eq_getElem hlt, List.flatMap_append]; simp
      have hlen : zs.length + (inn ns[j]).length ≤ 1000 := by
        have e1 : zs.length + (inn ns[j]).length = ((ns.take (j + 1)).flatMap inn).length := by
          rw [et, List.length_append, hZ.length, List.length_map]
        have e2 : ns.flatMap inn = (ns.take (j + 1)).flatMap inn ++ (ns.drop (j + 1)).flatMap inn := by
          rw [← List.flatMap_append, List.take_append_drop]
        rw [e1]
        rw [e2, List.length_append] at hz
        omega
      have hmk : A.mark none = A := by
        show ({ A with handled := (none : Option Value).or A.handled } : Around) = A
        rfl
      have run := comp_in (R := fun r s' => match r with | .ok f => ∃ h tk zs', s' = { s with heap := h, toks := tk } ∧ NSt h₀ L m news I C D l vs h (j + 1) zs' ∧ IntsAre zs' (((ns.take (j + 1)).flatMap inn).map g) | .error _ => False)
        (i1 := i1) (i2 := i2) (elt := elt) (x := x) (f := f) (px := px) (pf := pf) (pos := pos) (cl := cl) (env := env) (s := s) hh a (g := g) hus hkind hf aJ ji jc jd (some_ne hG hJ0) gc.symm gd.symm hlen (fun b t hb oC m₂ h tk E' => helt b t ns[j] (List.getElem_mem hlt) hb oC m₂ h tk E') (tk0 := tk') S4 hJ4 hG4
        (fun h tk zs' S' hz' => ⟨h, tk, zs ++ zs', rfl, S', by rw [et, List.map_append]; exact ints_app hZ hz'⟩)
      refine wpAny_bind (wpAny_runOwn (h := none) (codeAny_mono (R := fun r s' => match r with | .ok f => ∃ h tk zs', s' = { s with heap := h, toks := tk } ∧ NSt h₀ L m news I C D l vs h (j + 1) zs' ∧ IntsAre zs' (((ns.take (j + 1)).flatMap inn).map g) | .error _ => False) ?_ fun r s₅ hr => ?_))
      · rw [hmk]
        exact comp_start1 run (wpAny_pyIter_listiter hJ4 run)
      · cases r with
        | error e => exact hr.elim
        | ok fl =>
          obtain ⟨h₅, tk₅, zs₅, rfl, S5, hZ5⟩ := hr
          exact wpAny_pure ⟨rfl, ns.length + 1 - (j + 1), by omega, h₅, tk₅, j + 1, zs₅, rfl, S5, hZ5, hlt, rfl⟩
  · obtain rfl : j = ns.length := by omega
    refine wpAny_pyNext_list_end hh S.it hL (by simp [hil]) fun h₁ hs₁ => ?_
    refine wpAny_pure ?_
    rw [List.take_length] at hZ
    have k1 := Bt.ext hs₁
    obtain ⟨mm, hm⟩ := S.ns
    exact done h₁ _ zs mm (bt_fr k1 a.i S.fr) (bt_news k1 a.i S.nw) (bt_ns k1 a.ic.symm hm) (k1 _ _ a.id.symm S.ac) hZ
/-- the whole comprehension -/
theorem ListComp_N {E Q : Value → Shared → Prop} (hh : A.handled = none) (F : Fr h₀ L s.heap m) (N : News h₀ L s.heap news) {g : Int → Int} {inn : Int → List Int} {ns : List Int} (hl : h₀.IsList l vs.toArray) (hi : IntsAre vs ns)
    (hclos : closureFor scope env = pure cl) (hcell : ∀ y ∈ scope.names, y.2 ≠ .cell) (hkind : scope.kind = .function)
    (hnames : ∀ y ∈ scope.names, y.2 = .local → scope.names.lookup y.1 = some .local) (hx : scope.names.lookup x = some .local) (hf : scope.names.lookup f = some .local)
    (hs1 : ∀ x, foldedSetIterable i1 env x = pure x) (hs2 : ∀ (e : Env) x, foldedSetIterable i2 e x = pure x) (hz : (ns.flatMap inn).length ≤ 1000)
    (hit : wpAny (model prog w) A (eval i1 env) (fun v s' => v = .ref l ∧ s' = s) E s)
    (hstep : ∀ k t, k ∈ ns → ∀ C oC m₂ h tk (E' : Value → Shared → Prop), LCg.NsObj oC m₂ → m₂ x = some (.int k t) → Fr h₀ L h m → News h₀ L h ((C, oC) :: news) → Off1 C news →
      wpAny (model prog w) A (eval i2 (compEnvC scope cl C env)) (StepEnd (inn k) { s with heap := h, toks := tk }) E' { s with heap := h, toks := tk })
    (helt : ∀ b t k, k ∈ ns → b ∈ inn k → ∀ C oC m₂ h tk (E' : Value → Shared → Prop), LCg.NsObj oC m₂ → m₂ f = some (.int b t) → Fr h₀ L h m → News h₀ L h ((C, oC) :: news) → Off1 C news →
      wpAny (model prog w) A (eval elt (compEnvC scope cl C env)) (EltEnd (g b) { s with heap := h, toks := tk }) E' { s with heap := h, toks := tk })
    (fin : ∀ D h tk zs, Fr h₀ L h m → News h₀ L h ((D, LCg.lst zs) :: news) → Off1 D news → IntsAre zs ((ns.flatMap inn).map g) → Q (.ref D) { s with heap := h, toks := tk }) :
    wpAny (model prog w) A (eval (.ListComp elt [⟨.Name x px, i1, [], 0⟩, ⟨.Name f pf, i2, [], 0⟩] scope pos) env) Q E s := by
  rw [eval_ListComp]
  refine wpAny_comprehension_free (use := none) rfl hs1 hclos hkind hnames (wpAny_mono hit (fun xv s₁ h₁ => ?_) fun _ _ e => e)
  obtain ⟨rfl, rfl⟩ := h₁
  have hL : s₁.heap.IsList l vs.toArray := let ⟨o, e, r⟩ := hl; ⟨o, F.keep _ _ e, r⟩
  refine wpAny_pyIter_list hL ?_
  have k0 : Keeps s₁.heap (s₁.heap.push { cls := .type "list_iterator", data := .fields #[.ref l, .int 0 0] }) := fun b o e => Heap.get?_push_of_some _ e
  have i0 : (s₁.heap.push { cls := .type "list_iterator", data := .fields #[.ref l, .int 0 0] }).get? s₁.heap.objs.size = some { cls := .type "list_iterator", data := .fields #[.ref l, .int 0 0] } := Heap.get?_push_size _ rfl
  have z0 : s₁.heap.get? s₁.heap.objs.size = none := Heap.get?_none_of_le (Nat.le_refl _)
  have aI := fresh_apt F N z0
  have F0 := keepsFr F k0
  have N0 := keepsNews N k0
  generalize s₁.heap.push { cls := .type "list_iterator", data := .fields #[.ref l, .int 0 0] } = g0 at k0 i0 F0 N0 ⊢
  generalize s₁.heap.objs.size = I at i0 z0 aI ⊢
  refine wpAny_newObj_type ?_
  have k1 : Keeps g0 (g0.push { cls := .type "list", dict := none, data := .seq ([] : List Value).toArray }) := fun b o e => Heap.get?_push_of_some _ e
  have q1 : (g0.push { cls := .type "list", dict := none, data := .seq ([] : List Value).toArray }).get? g0.objs.size = some (LCg.lst []) := Heap.get?_push_size _ rfl
  have z1 : g0.get? g0.objs.size = none := Heap.get?_none_of_le (Nat.le_refl _)
  have aD := fresh_apt F0 N0 z1
  have nID : I ≠ g0.objs.size := some_ne i0 z1
  have F1 := keepsFr F0 k1
  have N1 := keepsNews N0 k1
  have i0' := k1 _ _ i0
  show wpAny _ A _ _ _ { s₁ with heap := g0.push { cls := .type "list", dict := none, data := .seq ([] : List Value).toArray } }
  generalize g0.push { cls := .type "list", dict := none, data := .seq ([] : List Value).toArray } = g1 at k1 q1 F1 N1 i0' ⊢
  generalize g0.objs.size = D at q1 z1 aD nID ⊢
  refine wpAny_newFunctionEnv hcell (by intro y hy; simp at hy) (fun h₁ hns₁ hsb₁ => ?_) hkind
  dsimp only at hns₁ hsb₁ ⊢
  have z2 : g1.get? g1.objs.size = none := Heap.get?_none_of_le (Nat.le_refl _)
  have aC := fresh_apt F1 N1 z2
  have nIC : I ≠ g1.objs.size := some_ne i0' z2
  have nDC : D ≠ g1.objs.size := some_ne q1 z2
  have k2 : Keeps g1 h₁ := fun b o e => hsb₁.extBut b o (some_ne e z2) (Heap.get?_push_of_some _ e)
  generalize g1.objs.size = C at hns₁ hsb₁ z2 aC nIC nDC ⊢
  have a : NAp h₀ L news I C D := ⟨aI, aC, aD, nIC, nID, nDC.symm⟩
  have S : NSt h₀ L m news I C D l vs h₁ 0 [] := ⟨keepsFr F1 k2, keepsNews N1 k2, ⟨_, k2 _ _ i0', rfl, rfl⟩, ⟨_, hns₁⟩, k2 _ _ q1⟩
  have loop : ∀ tk, codeAny (model prog w) A (.compLoop (.ListComp elt [⟨.Name x px, i1, [], 0⟩, ⟨.Name f pf, i2, [], 0⟩] scope pos) 0 (.ref I) (.ref D) (compEnvC scope cl C env))
      (compPost (model prog w) A E none Q (.ref D) C) { s₁ with heap := h₁, toks := tk } := fun tk =>
    comp_out hh a (g := g) (inn := inn) hl hi hkind hx hf hs2 hz (fun k t hk oC m₂ h tk E' a1 a2 a3 a4 => hstep k t hk C oC m₂ h tk E' a1 a2 a3 a4 (Off1.of aC.n)) (fun b t k hk hb oC m₂ h tk E' a1 a2 a3 a4 => helt b t k hk hb C oC m₂ h tk E' a1 a2 a3 a4 (Off1.of aC.n)) S
      fun h tk zs mm F' N' hm hD hZ => ⟨mm, hm, fun h'' hs'' => fin D h'' tk zs (bt_fr (Bt.same hs'') aC F') (fun p hp => by
        rcases List.mem_cons.mp hp with rfl | hp
        · exact ⟨Bt.same hs'' _ _ nDC hD, aD.l, aD.z⟩
        · exact bt_news (Bt.same hs'') aC N' p hp) (Off1.of aD.n) hZ⟩
  exact codeAny_compStart_list (loop _) (wpAny_pyIter_listiter S.it (loop _))
end
end Mine
end
section
open PySem PySem.W PyProof.Rows PySem.Spec PySem.Calls
set_option maxRecDepth 100000
set_option maxHeartbeats 4000000
namespace Mine
/-- a number's figures to the base 64, the highest first -/
def fig (x : Int) (k : Nat) : Int := (x.fdiv (64 ^ k)).fmod 64
def figs (x : Int) : List Int := [fig x 3, fig x 2, fig x 1, fig x 0]
section
variable {w : World} {dp un : Nat} {gd : Option (List Code)} {cn : Str} {cs : Scope} {a : Addr} {ccd : Value} {cl : List (Str × Addr)} {outer : List Env} {A₀ : Around} {base h₀ : Heap} {L : Addr} {m mg mb : Str → Option Value} {s : Shared} {Q E : Value → Shared → Prop}
  {p : Program} {loose : List Str} {mean : ExcName → Option Value}
theorem figures_spec {x : Int} {t : Tok} : PySem.Challenge.rw_pu0025_01.foot = PySem.Challenge.rw_pu0025_01.foot → Below A₀ base outer h₀ → Fr h₀ L s.heap m → (Mine01.hd.heap_1 w.params).In h₀ → Top p loose mean mg mb h₀ → cs.kind = .function → dp + 15 < recursionLimit → un + 120 < cLine →
    (∀ D c vs h' tk', Keeps s.heap h' → s.heap.get? D = none → h'.get? D = some (W.listOf (List.toArray vs) c) → IntsAre vs (figs x) → Q (.ref D) { s with heap := h', toks := tk' }) →
    wpAny (model PySem.Challenge.rw_pu0025_01.row.prog w) (ktrTop dp un gd cn cs L a ccd cl outer) (call (.ref 150) [.int x t]) Q E s := by
  w_top off
  k_with_none
  k_with "exec Return some" => (k_here; k_dflt (refine wpAny_Return_some ?_; refine ListComp_M (F₀ := by k_asm) (by with_unfolding_all rfl) (by decide) (by rfl) (by decide) (by rfl) ?_))
  k_with "KiSrc" => (k_dflt (refine KiSrc.of ?_; refine LCg.CompSrc.ledger (by rfl) (by k_asm) (by k_asm) (by k_mem) (by rw [sizeLine_eq]; exact Nat.le_of_ble_eq_true rfl) ?_; intro g9; (refine' ki_ints (fun k => fig x k.toNat) (.cons 3 _ (.cons 2 _ (.cons 1 _ (.cons 0 _ .nil)))) (fun k9 t9 hk9 I9 oI9 C9 oC9 D9 m9 ys9 h9 tk9 E9 hC9 hx9 F9 N9 off9 ne9 => ?_) ?_); (simp only [List.mem_cons, List.not_mem_nil, or_false] at hk9; rcases hk9 with rfl | rfl | rfl | rfl)); (all_goals (try (simp only [LCg.Off3, and_true] at off9))); (all_goals (try k_fold)))
  k_with "CompEnd" => ((rename News _ _ _ _ => nE'); (k_dflt (refine' LCg.CompEnd.intro (by assumption) nE' _ ?s9 ?o9 ?c9 ⟨rfl, _, rfl⟩)); (case s9 => k_dflt lcg_sub); (case o9 => k_dflt lcg_off); (case c9 => k_dflt lcg_src))
  k_fill
  intro _ B F X T hk hd hu hret
  k_dflt (refine' callKC (by assumption) (by assumption) (by assumption) (by assumption) rfl rfl (by assumption) ?k6 ?k7 ?k8 ?k9 ?kB ?kD ?c2 ?c3 ?c4 ?_; (case k6 => k_is); (case k7 => k_is); (case k8 => ktr_room); (case k9 => first | exact BindsTo.of_eq rfl | exact binds_K (by k_in) rfl (by k_is) rfl rfl rfl); (case kB => exact rfl); (case kD => decide +kernel); (case c2 => exact rfl); (case c3 => exact rfl); (case c4 => exact rfl))
  intro L' h' tk' cells' F' N' Y' B' X' T'
  clear B F X T
  k_cells Y'
  (try simp only [List.cons_append, List.nil_append] at N')
  (try dsimp only)
  k_steps
  all_goals (rename Fr _ _ _ _ => fE'; rename News _ _ _ _ => nE'; rename IntsAre _ _ => iE; exact hret _ _ _ _ _ fE'.keep (in_none nE' (.head _)) (in_is nE' (.head _)) iE)
/-- a figure's place in the order -/
def pl (f : Int) : Int := if f < 52 then f + 12 else if f < 62 then f - 50 else f - 62
def places (x : Int) : List Int := (figs x).map pl
theorem places_gen {env : Env} {x : Int} {t : Tok} : PySem.Challenge.rw_pu0025_01.foot = PySem.Challenge.rw_pu0025_01.foot → Below A₀ base outer h₀ → Fr h₀ L s.heap m → (Mine01.hd.heap_1 w.params).In h₀ → Top p loose mean mg mb h₀ → env.frame = some L → env.scope.kind = .function → dp + 30 < recursionLimit → un + 240 < cLine →
    (∀ D c vs h' tk', Keeps s.heap h' → s.heap.get? D = none → h'.get? D = some (W.listOf (List.toArray vs) c) → IntsAre vs (places x) → Q (.ref D) { s with heap := h', toks := tk' }) →
    wpAny (model PySem.Challenge.rw_pu0025_01.row.prog w) ⟨none, dp, some (env :: outer), gd, un⟩ (call (.ref 155) [.int x t]) Q E s := by
  w_top off
  k_with_none
  k_with "call ref" => (k_here; (with_reducible show wpAny _ _ (call (Value.ref 150) [Value.int _ _] _) _ _ _); (k_dflt (refine' figures_spec rfl ?k1 ?k2 ?k3 ?k4 ?kK ?kd ?ku ?_; (case k1 => k_asm); (case k2 => k_asm); (case k3 => k_asm); (case k4 => k_asm); (case kK => first | exact rfl | assumption); (case kd => ktr_room); (case ku => ktr_units))); intro D9 c9 vs9 h9 tk9 K9 n9 e9 I9; (obtain ⟨F9, N9, o9⟩ := newsAdd (by k_asm) (by k_asm) K9 n9 e9); clear K9 n9 e9; (try simp only [Off1, and_true] at o9); (try dsimp only); (try k_fold))
  k_with "exec Return some" => (k_here; k_dflt (refine wpAny_Return_some ?_; refine ListComp_M (F₀ := by k_asm) (by with_unfolding_all rfl) (by decide) (by rfl) (by decide) (by rfl) ?_))
  k_with "KiSrc" => (k_dflt (refine KiSrc.of ?_; refine LCg.CompSrc.ledger (by rfl) (by k_asm) (by k_asm) (by k_mem) (by have := IntsAre.length (by assumption); rw [List.size_toArray, this, sizeLine_eq]; exact Nat.le_of_ble_eq_true rfl) ?_; intro g9; (refine' ki_ints pl (by assumption) (fun k9 t9 hk9 I9 oI9 C9 oC9 D9 m9 ys9 h9 tk9 E9 hC9 hx9 F9 N9 off9 ne9 => ?_) ?_)); (all_goals (try (simp only [LCg.Off3, and_true] at off9))); (all_goals (try k_fold)))
  k_with "CompEnd" => ((rename News _ _ _ _ => nE'); (k_dflt (refine' LCg.CompEnd.intro (by assumption) nE' _ ?s9 ?o9 ?c9 (KiEl.intro _ ?e9))); (case s9 => k_dflt lcg_sub); (case o9 => k_dflt lcg_off); (case c9 => k_dflt lcg_src); (case e9 => k_dflt (unfold pl; repeat' split <;> omega)))
  k_fill
  intro _ B F X T hf hk hd hu hret
  k_dflt (refine' callK (by assumption) (by assumption) (by assumption) (by assumption) rfl (by assumption) (by assumption) ?k6 ?k7 ?k8 ?k9 ?kB ?c5 ?c2 ?c3 ?c4 ?_; (case k6 => k_is); (case k7 => k_is); (case k8 => show dp < _; omega); (case k9 => first | exact BindsTo.of_eq rfl | exact binds_K (by k_in) rfl (by k_is) rfl rfl rfl); (case c5 => decide); (case kB => exact locs rfl); (case c2 => exact rfl); (case c3 => exact rfl); (case c4 => exact rfl))
  intro L' h' F' N' B' X' T'
  clear B F X T
  k_steps
  all_goals (rename Fr _ _ _ _ => fE'; rename News _ _ _ _ => nE'; rename IntsAre _ _ => iE; exact hret _ _ _ _ _ fE'.keep (in_none nE' (.head _)) (in_is nE' (.head _)) iE)
theorem places_spec {x : Int} {t : Tok} : PySem.Challenge.rw_pu0025_01.foot = PySem.Challenge.rw_pu0025_01.foot → Below A₀ base outer h₀ → Fr h₀ L s.heap m → (Mine01.hd.heap_1 w.params).In h₀ → Top p loose mean mg mb h₀ → cs.kind = .function → dp + 30 < recursionLimit → un + 240 < cLine →
    (∀ D c vs h' tk', Keeps s.heap h' → s.heap.get? D = none → h'.get? D = some (W.listOf (List.toArray vs) c) → IntsAre vs (places x) → Q (.ref D) { s with heap := h', toks := tk' }) →
    wpAny (model PySem.Challenge.rw_pu0025_01.row.prog w) (ktrTop dp un gd cn cs L a ccd cl outer) (call (.ref 155) [.int x t]) Q E s :=
  fun _ B F X T hk hd hu hret => places_gen rfl B F X T rfl hk hd hu hret
end
end Mine
end
section
open PySem PySem.W PyProof.Rows PySem.Spec PySem.Calls
open PySem.SeqAt PySem.MeetsSeq PySem.MeetsSeq2 PySem.MeetsSeq3
open PySem.AutoSeq1 (wpAny_loadPart')
set_option maxRecDepth 100000
set_option maxHeartbeats 4000000
namespace Mine
/-- lists of numbers in the order of the first that differs -/
def lxlt : List Int → List Int → Bool
  | x :: xs, y :: ys => if x = y then lxlt xs ys else decide (x < y)
  | _, _ => false
abbrev lstObj (its : Array Value) (n : Nat) : Obj := { cls := .type "list", data := .seq its n }
section
variable {prog : Program} {w : World} {A : Around} {R : Result → Shared → Prop} {s : Shared} {l b : Addr} {vs us : List Value} {xs ys : List Int} {n n2 : Nat}
theorem lt_loop (hv : IntsAre vs xs) (hu : IntsAre us ys) (hz : xs.length = ys.length) (hl : s.heap.get? l = some (lstObj vs.toArray n)) (hb : s.heap.get? b = some (lstObj us.toArray n2)) :
    ∀ k i : Nat, xs.length - i = k → R (.ok (.ret (.bool (lxlt (xs.drop i) (ys.drop i))))) s →
      wpAny (model prog w) A.in1 (Builtin.«list.__eq__.loop» ⟨[.ref l, .ref b, rawInt i, rawInt 0], []⟩) (fun fin s' => match fin with | .done f => R (.ok f) s' | .again c' => c'.quiet = true ∧ codeAny (model prog w) A c' R s') (fun e s' => R (.error e) s') s := by
  intro k
  induction k with
  | zero =>
    intro i hk h
    obtain ⟨hp, g, d, tk, os⟩ := s
    have hv1 := hv.length
    have hu1 := hu.length
    wp_walk using wpAny_loadPart' hl, wpAny_loadPart' hb
    have hi1 : vs.toArray[((i : Nat) : Int).toNat]? = none := by simp; omega
    have hi2 : us.toArray[((i : Nat) : Int).toNat]? = none := by simp; omega
    rw [hi1, hi2]
    wp_walk using wpAny_loadPart' hl, wpAny_loadPart' hb
    have hd : xs.drop i = [] := by simp; omega
    rw [hd] at h
    have e : decide (vs.length < us.length) = false := by simp; omega
    show R (.ok (.ret (.bool (decide (vs.toArray.size < us.toArray.size))))) _
    rw [List.size_toArray, List.size_toArray, e]
    exact h
  | succ k ih =>
    intro i hk h
    obtain ⟨hp, g, d, tk, os⟩ := s
    have hv1 := hv.length
    have hu1 := hu.length
    have hlt : i < xs.length := by omega
    have hlt2 : i < ys.length := by omega
    obtain ⟨t1, e1⟩ := hv.get i _ (List.getElem?_eq_getElem hlt)
    obtain ⟨t2, e2⟩ := hu.get i _ (List.getElem?_eq_getElem hlt2)
    wp_walk using wpAny_loadPart' hl, wpAny_loadPart' hb
    have hi1 : vs.toArray[((i : Nat) : Int).toNat]? = some (.int xs[i] t1) := by simpa using e1
    have hi2 : us.toArray[((i : Nat) : Int).toNat]? = some (.int ys[i] t2) := by simpa using e2
    rw [hi1, hi2]
    rw [List.drop_eq_getElem_cons hlt, List.drop_eq_getElem_cons hlt2] at h
    have hc : ((i : Int) + 1) = ((i + 1 : Nat) : Int) := by push_cast; rfl
    refine wpAny_bind (EqAt.int_int _ _ _ _ prog w _ _ ?_)
    by_cases q : xs[i] = ys[i]
    · have qb : (xs[i] == ys[i]) = true := by simpa using q
      rw [qb]
      have h' : R (.ok (.ret (.bool (lxlt (xs.drop (i + 1)) (ys.drop (i + 1)))))) ⟨hp, g, d, tk, os⟩ := by
        simpa [lxlt, q] using h
      wp_walk
      rw [hc]
      exact ⟨plainId_quiet plain_eq_loop _, codeAny_builtin entry_eq_loop (by
        rw [Around.under_plainId plain_eq_loop _]
        exact ih (i + 1) (by omega) h')⟩
    · have qb : (xs[i] == ys[i]) = false := by simpa using q
      rw [qb]
      wp_walk using wpAny_loadPart' hl, wpAny_loadPart' hb
      rw [hi1, hi2]
      have h' : R (.ok (.ret (.bool (decide (xs[i] < ys[i]))))) ⟨hp, g, d, tk, os⟩ := by
        simpa [lxlt, q] using h
      refine wpAny_bind (m := richCompare .Lt _ _) ?_
      refine PyProof.Rows.lt_int ?_
      exact wpAny_pure h'
theorem gt_loop (hv : IntsAre vs xs) (hu : IntsAre us ys) (hz : xs.length = ys.length) (hl : s.heap.get? l = some (lstObj vs.toArray n)) (hb : s.heap.get? b = some (lstObj us.toArray n2)) :
    ∀ k i : Nat, xs.length - i = k → R (.ok (.ret (.bool (lxlt (ys.drop i) (xs.drop i))))) s →
      wpAny (model prog w) A.in1 (Builtin.«list.__eq__.loop» ⟨[.ref l, .ref b, rawInt i, rawInt 4], []⟩) (fun fin s' => match fin with | .done f => R (.ok f) s' | .again c' => c'.quiet = true ∧ codeAny (model prog w) A c' R s') (fun e s' => R (.error e) s') s := by
  intro k
  induction k with
  | zero =>
    intro i hk h
    obtain ⟨hp, g, d, tk, os⟩ := s
    have hv1 := hv.length
    have hu1 := hu.length
    wp_walk using wpAny_loadPart' hl, wpAny_loadPart' hb
    have hi1 : vs.toArray[((i : Nat) : Int).toNat]? = none := by simp; omega
    have hi2 : us.toArray[((i : Nat) : Int).toNat]? = none := by simp; omega
    rw [hi1, hi2]
    wp_walk using wpAny_loadPart' hl, wpAny_loadPart' hb
    have hd : ys.drop i = [] := by simp; omega
    rw [hd] at h
    have e : decide (vs.length > us.length) = false := by simp; omega
    show R (.ok (.ret (.bool (decide (vs.toArray.size > us.toArray.size))))) _
    rw [List.size_toArray, List.size_toArray, e]
    exact h
  | succ k ih =>
    intro i hk h
    obtain ⟨hp, g, d, tk, os⟩ := s
    have hv1 := hv.length
    have hu1 := hu.length
    have hlt : i < xs.length := by omega
    have hlt2 : i < ys.length := by omega
    obtain ⟨t1, e1⟩ := hv.get i _ (List.getElem?_eq_getElem hlt)
    obtain ⟨t2, e2⟩ := hu.get i _ (List.getElem?_eq_getElem hlt2)
    wp_walk using wpAny_loadPart' hl, wpAny_loadPart' hb
    have hi1 : vs.toArray[((i : Nat) : Int).toNat]? = some (.int xs[i] t1) := by simpa using e1
    have hi2 : us.toArray[((i : Nat) : Int).toNat]? = some (.int ys[i] t2) := by simpa using e2
    rw [hi1, hi2]
    rw [List.drop_eq_getElem_cons hlt, List.drop_eq_getElem_cons hlt2] at h
    have hc : ((i : Int) + 1) = ((i + 1 : Nat) : Int) := by push_cast; rfl
    refine wpAny_bind (EqAt.int_int _ _ _ _ prog w _ _ ?_)
    by_cases q : xs[i] = ys[i]
    · have qb : (xs[i] == ys[i]) = true := by simpa using q
      rw [qb]
      have h' : R (.ok (.ret (.bool (lxlt (ys.drop (i + 1)) (xs.drop (i + 1)))))) ⟨hp, g, d, tk, os⟩ := by
        simpa [lxlt, q] using h
      wp_walk
      rw [hc]
      exact ⟨plainId_quiet plain_eq_loop _, codeAny_builtin entry_eq_loop (by
        rw [Around.under_plainId plain_eq_loop _]
        exact ih (i + 1) (by omega) h')⟩
    · have qb : (xs[i] == ys[i]) = false := by simpa using q
      rw [qb]
      wp_walk using wpAny_loadPart' hl, wpAny_loadPart' hb
      rw [hi1, hi2]
      have h' : R (.ok (.ret (.bool (decide (ys[i] < xs[i]))))) ⟨hp, g, d, tk, os⟩ := by
        have q' : ¬ ys[i] = xs[i] := fun e => q e.symm
        simpa [lxlt, q'] using h
      refine wpAny_bind (m := richCompare .Gt _ _) ?_
      refine PyProof.Rows.gt_int ?_
      exact wpAny_pure h'
end
section
variable {prog : Program} {w : World} {A : Around} {s : Shared} {l b : Addr} {vs us : List Value} {xs ys : List Int} {n n2 : Nat}
theorem list_lt_meets (hv : IntsAre vs xs) (hu : IntsAre us ys) (hz : xs.length = ys.length) : Meets (Builtin.«list.__lt__» ⟨[.ref l, .ref b], []⟩)
    (fun _ R s => s.heap.get? l = some (lstObj vs.toArray n) ∧ s.heap.get? b = some (lstObj us.toArray n2) ∧ R (.ok (.ret (.bool (lxlt xs ys)))) s) := by
  intro prog w A R s h
  obtain ⟨hp, g, d, tk, os⟩ := s; obtain ⟨hl, hb, h⟩ := h
  have f3 := AutoSeq1.sub_list_list
  wp_walk using wpAny_loadPart' hl, wpAny_loadPart' hb
  refine ⟨plainId_quiet plain_eq_loop _, codeAny_builtin entry_eq_loop ?_⟩
  rw [Around.under_plainId plain_eq_loop _]
  exact lt_loop hv hu hz hl hb _ 0 rfl h
theorem list_gt_meets (hv : IntsAre vs xs) (hu : IntsAre us ys) (hz : xs.length = ys.length) : Meets (Builtin.«list.__gt__» ⟨[.ref l, .ref b], []⟩)
    (fun _ R s => s.heap.get? l = some (lstObj vs.toArray n) ∧ s.heap.get? b = some (lstObj us.toArray n2) ∧ R (.ok (.ret (.bool (lxlt ys xs)))) s) := by
  intro prog w A R s h
  obtain ⟨hp, g, d, tk, os⟩ := s; obtain ⟨hl, hb, h⟩ := h
  have f3 := AutoSeq1.sub_list_list
  wp_walk using wpAny_loadPart' hl, wpAny_loadPart' hb
  refine ⟨plainId_quiet plain_eq_loop _, codeAny_builtin entry_eq_loop ?_⟩
  rw [Around.under_plainId plain_eq_loop _]
  exact gt_loop hv hu hz hl hb _ 0 rfl h
theorem cmp_lt_wp {E Q : Value → Shared → Prop} (hr : A.units < cLine) (hv : IntsAre vs xs) (hu : IntsAre us ys) (hz : xs.length = ys.length) (hl : s.heap.get? l = some (lstObj vs.toArray n)) (hb : s.heap.get? b = some (lstObj us.toArray n2))
    (h : Q (.bool (lxlt xs ys)) s) : wpAny (model prog w) A (compareOp .Lt (.ref l) (.ref b)) Q E s :=
  cmp_ofLt (richCompare_meets_room (op := .Lt) (T := "list") ⟨_, hl, rfl⟩ ⟨_, hb, rfl⟩ F.slot_list_lt F.entry_list_lt (F.args_list_lt_2 _ _) (list_lt_meets hv hu hz) ⟨hl, hb, And.intro (fun e => by cases e) h⟩ hr)
theorem cmp_gt_wp {E Q : Value → Shared → Prop} (hr : A.units < cLine) (hv : IntsAre vs xs) (hu : IntsAre us ys) (hz : xs.length = ys.length) (hl : s.heap.get? l = some (lstObj vs.toArray n)) (hb : s.heap.get? b = some (lstObj us.toArray n2))
    (h : Q (.bool (lxlt ys xs)) s) : wpAny (model prog w) A (compareOp .Gt (.ref l) (.ref b)) Q E s :=
  cmp_ofGt (richCompare_meets_room (op := .Gt) (T := "list") ⟨_, hl, rfl⟩ ⟨_, hb, rfl⟩ F.slot_list_gt F.entry_list_gt (F.args_list_gt_2 _ _) (list_gt_meets hv hu hz) ⟨hl, hb, And.intro (fun e => by cases e) h⟩ hr)
theorem oneLt_list {E : Value → Shared → Prop} {Q : Bool → Shared → Prop} (hr : A.units < cLine) (hv : IntsAre vs xs) (hu : IntsAre us ys) (hz : xs.length = ys.length) (hl : s.heap.get? l = some (lstObj vs.toArray n)) (hb : s.heap.get? b = some (lstObj us.toArray n2))
    (h : Q (lxlt xs ys) s) : wpAny (model prog w) A (oneLt' true (.ref l) (.ref b)) Q E s := by
  rw [oneLt'_eq]
  simp only [if_true]
  refine wpAny_bind (wpAny_cRoomFor hr ?_)
  have sl : Slot "list" "__lt__" "list.__lt__" := F.slot_list_lt
  refine wpAny_bind (wpAny_callSpecialIfBound?_slot (T := "list") ⟨_, hl, rfl⟩ sl (call_meets sl ⟨_, hl, rfl⟩ F.entry_list_lt (F.args_list_lt_2 _ _) (list_lt_meets hv hu hz) ⟨hl, hb, ?_⟩))
  exact wpAny_truthy_bool h
end
end Mine
end
section
open PySem PySem.W PyProof.Rows PySem.Spec PySem.Calls
set_option maxRecDepth 100000
set_option maxHeartbeats 4000000
namespace Mine
def cmpP (x y : Int) : Int := b2i (lxlt (places y) (places x)) - b2i (lxlt (places x) (places y))
theorem places_len (x : Int) : (places x).length = 4 := rfl
theorem cmpN_gt {prog : Program} {w : World} {A : Around} {E Q : Value → Shared → Prop} {s : Shared} {h₀ : Heap} {L l b : Addr} {news : List (Addr × Obj)} {vs us : List Value} {xs ys : List Int} {n n2 : Nat} (hr : A.units < cLine) (N : News h₀ L s.heap news)
    (hl : (l, W.listOf vs.toArray n) ∈ news) (hb : (b, W.listOf us.toArray n2) ∈ news) (hv : IntsAre vs xs) (hu : IntsAre us ys) (hz : xs.length = ys.length)
    (h : Q (.bool (lxlt ys xs)) s) : wpAny (model prog w) A (compareOp .Gt (.ref l) (.ref b)) Q E s := cmp_gt_wp hr hv hu hz (N _ hl).1 (N _ hb).1 h
theorem cmpN_lt {prog : Program} {w : World} {A : Around} {E Q : Value → Shared → Prop} {s : Shared} {h₀ : Heap} {L l b : Addr} {news : List (Addr × Obj)} {vs us : List Value} {xs ys : List Int} {n n2 : Nat} (hr : A.units < cLine) (N : News h₀ L s.heap news)
    (hl : (l, W.listOf vs.toArray n) ∈ news) (hb : (b, W.listOf us.toArray n2) ∈ news) (hv : IntsAre vs xs) (hu : IntsAre us ys) (hz : xs.length = ys.length)
    (h : Q (.bool (lxlt xs ys)) s) : wpAny (model prog w) A (compareOp .Lt (.ref l) (.ref b)) Q E s := cmp_lt_wp hr hv hu hz (N _ hl).1 (N _ hb).1 h
section
variable {w : World} {dp un : Nat} {gd : Option (List Code)} {env : Env} {outer : List Env} {A₀ : Around} {base h₀ : Heap} {L : Addr} {m mg mb : Str → Option Value} {s : Shared}
  {p : Program} {loose : List Str} {mean : ExcName → Option Value} {R : Result → Shared → Prop} {x y : Int} {tx ty : Tok}
theorem compared_code : PySem.Challenge.rw_pu0025_01.foot = PySem.Challenge.rw_pu0025_01.foot → Below A₀ base outer h₀ → Fr h₀ L s.heap m → (Mine01.hd.heap_1 w.params).In h₀ → Top p loose mean mg mb h₀ → env.frame = some L → env.scope.kind = .function → dp + 50 < recursionLimit → un + 400 < cLine →
    (∀ t' h' tk', Keeps s.heap h' → R (.ok (.ret (.int (cmpP x y) t'))) { s with heap := h', toks := tk' }) →
    codeAny (model PySem.Challenge.rw_pu0025_01.row.prog w) ⟨none, dp, some (env :: outer), gd, un⟩ (.call (.ref 162) ⟨[.int x tx, .int y ty], []⟩) R s := by
  w_top off
  k_with_none
  k_with "call ref" => (k_here; (with_reducible show wpAny _ _ (call (Value.ref 155) [Value.int _ _] _) _ _ _); (k_dflt (refine' places_spec rfl ?k1 ?k2 ?k3 ?k4 ?kK ?kd ?ku ?_; (case k1 => k_asm); (case k2 => k_asm); (case k3 => k_asm); (case k4 => k_asm); (case kK => first | exact rfl | assumption); (case kd => ktr_room); (case ku => ktr_units))); intro D9 c9 vs9 h9 tk9 K9 n9 e9 I9; (obtain ⟨F9, N9, o9⟩ := newsAdd (by k_asm) (by k_asm) K9 n9 e9); clear K9 n9 e9; (try simp only [Off1, and_true] at o9); (try dsimp only); (try k_fold))
  k_with "compareOp Gt ref ref" => (k_here; k_dflt (refine' cmpN_gt ?kr ?kN ?kl ?kb ?kv ?ku ?kz ?_; (case kr => ktr_units); (case kN => k_asm); (case kl => k_mem); (case kb => k_mem); (case kv => assumption); (case ku => assumption); (case kz => exact rfl)))
  k_with "compareOp Lt ref ref" => (k_here; k_dflt (refine' cmpN_lt ?kr ?kN ?kl ?kb ?kv ?ku ?kz ?_; (case kr => ktr_units); (case kN => k_asm); (case kl => k_mem); (case kb => k_mem); (case kv => assumption); (case ku => assumption); (case kz => exact rfl)))
  k_fill
  intro _ B F X T hf hk hd hu hret
  k_dflt (refine' codeK (by assumption) (by assumption) (by assumption) (by assumption) rfl (by assumption) (by assumption) ?k6 ?k7 ?k8 ?k9 ?kB ?c5 ?c2 ?c3 ?c4 ?_; (case k6 => k_is); (case k7 => k_is); (case k8 => show dp < _; omega); (case k9 => first | exact BindsTo.of_eq rfl | exact binds_K (by k_in) rfl (by k_is) rfl rfl rfl); (case c5 => decide); (case kB => exact locs rfl); (case c2 => exact rfl); (case c3 => exact rfl); (case c4 => exact rfl))
  intro L' h' F' N' B' X' T'
  clear B F X T
  k_steps
  all_goals (exact hret _ _ _ (by assumption : Fr s.heap _ _ _).keep)
end
/-- the places as one number -/
def keyP (x : Int) : Int := ((pl (fig x 3) * 64 + pl (fig x 2)) * 64 + pl (fig x 1)) * 64 + pl (fig x 0)
theorem fig_bounds (x : Int) (k : Nat) : 0 ≤ fig x k ∧ fig x k < 64 := ⟨Int.fmod_nonneg_of_pos _ (by decide), Int.fmod_lt_of_pos _ (by decide)⟩
theorem pl_bounds {f : Int} (h : 0 ≤ f ∧ f < 64) : 0 ≤ pl f ∧ pl f < 64 := by
  unfold pl
  repeat' split
  all_goals omega
theorem lx_four {a b c d a' b' c' d' : Int} (h1 : 0 ≤ b ∧ b < 64) (h2 : 0 ≤ c ∧ c < 64) (h3 : 0 ≤ d ∧ d < 64) (h1' : 0 ≤ b' ∧ b' < 64) (h2' : 0 ≤ c' ∧ c' < 64) (h3' : 0 ≤ d' ∧ d' < 64) :
    lxlt [a, b, c, d] [a', b', c', d'] = decide (((a * 64 + b) * 64 + c) * 64 + d < ((a' * 64 + b') * 64 + c') * 64 + d') := by
  unfold lxlt
  by_cases e1 : a = a'
  · rw [if_pos e1]
    unfold lxlt
    by_cases e2 : b = b'
    · rw [if_pos e2]
      unfold lxlt
      by_cases e3 : c = c'
      · rw [if_pos e3]
        unfold lxlt
        by_cases e4 : d = d'
        · rw [if_pos e4]
          unfold lxlt
          exact (decide_eq_false (by lia)).symm
        · rw [if_neg e4]
          exact decide_eq_decide.mpr (by lia)
      · rw [if_neg e3]
        exact decide_eq_decide.mpr (by lia)
    · rw [if_neg e2]
      exact decide_eq_decide.mpr (by lia)
  · rw [if_neg e1]
    exact decide_eq_decide.mpr (by lia)
theorem lx_places (x y : Int) : lxlt (places x) (places y) = decide (keyP x < keyP y) :=
  lx_four (pl_bounds (fig_bounds x 2)) (pl_bounds (fig_bounds x 1)) (pl_bounds (fig_bounds x 0)) (pl_bounds (fig_bounds y 2)) (pl_bounds (fig_bounds y 1)) (pl_bounds (fig_bounds y 0))
theorem cmpP_is (x y : Int) : cmpP x y < 0 ↔ keyP x < keyP y := by
  unfold cmpP
  rw [lx_places, lx_places]
  by_cases h1 : keyP x < keyP y
  · rw [decide_eq_true h1, decide_eq_false (by omega)]
    simp [b2i, h1]
  · rw [decide_eq_false h1]
    by_cases h2 : keyP y < keyP x
    · rw [decide_eq_true h2]; simp [b2i, h1]
    · rw [decide_eq_false h2]; simp [b2i, h1]
theorem cmpIs_compared {w : World} {h : Heap} (X : (Mine01.hd.heap_1 w.params).In h) : CmpIs PySem.Challenge.rw_pu0025_01.row.prog w 162 cmpP keyP (fun _ => True) 400 h where
  fn := ⟨_, _, _, X 162 _ rfl⟩
  does := by
    rintro A R s x y tx ty hk _ _ ⟨a1, a2, a3, a4, a5, a6, a7, a8, a9, b1, b2, b3, b4, b5, b6, rfl, c2, c3, c4, c5, c6, c7⟩ hd hu done
    exact compared_code rfl c4 c5 c6 c7 c2 c3 (Nat.lt_of_le_of_lt (Nat.add_le_add_left (by decide : 50 ≤ 60) _) hd) hu done
  is := fun x y _ _ => cmpP_is x y
end Mine
end
section
open PySem PySem.W PyProof.Rows PySem.Spec PySem.Calls
set_option maxRecDepth 100000
set_option maxHeartbeats 4000000
namespace Mine
/-- the lists of places made of the numbers -/
def KeysL (h : Heap) (kS : Addr) (ks : List Value) (ns : List Int) : Prop := ks.length = ns.length ∧ ∀ (i : Nat) (x : Int), ns[i]? = some x → ∃ D vs c, ks[i]? = some (.ref D) ∧ h.get? D = some (lstObj (List.toArray vs) c) ∧ IntsAre vs (places x) ∧ D ≠ kS
theorem KeysL.snoc {h : Heap} {kS D : Addr} {vs : List Value} {c : Nat} {ks : List Value} {ns : List Int} {x : Int} (H : KeysL h kS ks ns) (a : h.get? D = some (lstObj vs.toArray c)) (b : IntsAre vs (places x)) (ne : D ≠ kS) : KeysL h kS (ks ++ [.ref D]) (ns ++ [x]) := by
  refine ⟨by simp [H.1], fun i y e => ?_⟩
  by_cases hi : i < ns.length
  · rw [List.getElem?_append_left hi] at e
    obtain ⟨I', d', t', q1, q2, q3⟩ := H.2 i y e
    exact ⟨I', d', t', by rw [List.getElem?_append_left (by rw [H.1]; exact hi)]; exact q1, q2, q3⟩
  · rw [List.getElem?_append_right (Nat.le_of_not_lt hi)] at e
    obtain ⟨hl, he⟩ := List.getElem?_eq_some_iff.mp e
    have h0 : i - ns.length = 0 := by simpa using hl
    rw [h0] at e
    cases e
    exact ⟨D, vs, c, by rw [List.getElem?_append_right (by rw [H.1]; exact Nat.le_of_not_lt hi), H.1, h0]; rfl, a, b, ne⟩
theorem places_ctx {w : World} {A : Around} {s : Shared} {x : Int} {t : Tok} {Q E : Value → Shared → Prop} (hC : Ctx w.params A s.heap) (hd : A.depth + 40 < recursionLimit) (hu : A.units + 400 < cLine)
    (hret : ∀ D c vs h' tk', Keeps s.heap h' → s.heap.get? D = none → h'.get? D = some (W.listOf (List.toArray vs) c) → IntsAre vs (places x) → Q (.ref D) { s with heap := h', toks := tk' }) :
    wpAny (model PySem.Challenge.rw_pu0025_01.row.prog w) A (call (.ref 155) [.int x t]) Q E s := by
  obtain ⟨a1, a2, a3, a4, a5, a6, a7, a8, a9, b1, b2, b3, b4, b5, b6, rfl, c2, c3, c4, c5, c6, c7⟩ := hC
  exact places_gen rfl c4 c5 c6 c7 c2 c3 (Nat.lt_of_le_of_lt (Nat.add_le_add_left (by decide : 30 ≤ 40) _) hd) (Nat.lt_of_le_of_lt (Nat.add_le_add_left (by decide : 240 ≤ 400) _) hu) hret
section
variable {w : World} {A : Around} {E : Value → Shared → Prop} {s : Shared} {a kS : Addr} {e1 e : Nat} {vs : List Value} {ns : List Int} {keys : Array Value} {b : Heap} {P : PySem.Fin → Shared → Prop}
theorem endL_wp (hu : A.units < cLine)
    (hb : Keeps b s.heap) (hk : s.heap.get? kS = some (seqObj "list" keys e)) (ha : s.heap.get? a = some (seqObj "list" #[] e1)) (hka : kS ≠ a) (bk : b.get? kS = none) (ba : b.get? a = none)
    (hI : IntsAre vs ns) (h64 : ns.length < 64) (hK : KeysL s.heap kS keys.toList ns)
    (done : ∀ h' tk' out ms c, Keeps b h' → h'.get? a = some (seqObj "list" out c) → IntsAre out.toList ms → ms.Perm ns → ms.Pairwise (fun x y => keyP x ≤ keyP y) → P (.done (.ret .none)) { s with heap := h', toks := tk' }) :
    wpAny (model PySem.Challenge.rw_pu0025_01.row.prog w) A (ksk_end a false vs.toArray e1 (.ref kS) keys) P E s := by
  have hl := hI.length
  have hkl : keys.size = ns.length := by rw [← hK.1]; simp
  have hzip : (keys.zip vs.toArray).size = ns.length := by rw [Array.size_zip, hkl, List.size_toArray, hl, Nat.min_self]
  unfold ksk_end
  simp only [Bool.false_eq_true, if_false]
  by_cases h2 : vs.toArray.size < 2
  · rw [if_pos h2, if_pos h2]
    refine wpAny_bind (wpAny_pure ?_)
    rw [StateT.run_pure]
    refine wpAny_bind (wpAny_pure ?_)
    dsimp only
    refine tail_wp hb hk ha hka bk ba (by lia) (by show (keys.zip vs.toArray).size ≤ 64; lia) rfl fun h' c' hb' ha' => done h' s.toks _ ns c' hb' ha' ?_ (List.Perm.refl _) ?_
    · have e : ((keys.zip vs.toArray).map (·.2)).toList = vs := by
        have e0 : vs.length ≤ keys.toList.length := by rw [hK.1, hl]; exact Nat.le_refl _
        rw [Array.toList_map, Array.toList_zip]
        exact List.map_snd_zip e0
      show IntsAre ((keys.zip vs.toArray).map (·.2)).toList ns
      rw [e]; exact hI
    · rw [List.size_toArray, hl] at h2
      match ns, h2 with
      | [], _ => exact .nil
      | [x], _ => exact List.pairwise_singleton _ _
      | _ :: _ :: _, h2 => simp only [List.length_cons] at h2; lia
  · rw [if_neg h2, if_neg h2]
    rw [List.size_toArray, hl] at h2
    have kind : ∀ {Q : SortKind → Shared → Prop}, Q oneType' s → wpAny (model PySem.Challenge.rw_pu0025_01.row.prog w) A (keyKind' keys) Q E s := fun {Q} q => by
      have := kas_kind (M := model PySem.Challenge.rw_pu0025_01.row.prog w) (A := A) (E := E) (s := s) (vs := keys.toList) (T := .type "list") (Q := Q) (by rw [Array.length_toList]; lia) (fun v hv => ?_) (by rfl) (by simp) q
      · rwa [Array.toArray_toList] at this
      · obtain ⟨i, hi, he⟩ := List.mem_iff_getElem.mp hv
        have hi' : i < ns.length := by rw [← hK.1]; exact hi
        obtain ⟨D, us, c9, q1, q2, q3, -⟩ := hK.2 i _ (List.getElem?_eq_getElem hi')
        rw [List.getElem?_eq_getElem hi, he] at q1
        cases q1
        exact kitAt_ty _ _ ⟨_, q2, rfl⟩
    refine wpAny_bind (kind ?_)
    have est : SortSt.mk' oneType' (keys.zip vs.toArray) #[] 7 none = kas_st oneType' (keys.zip vs.toArray) (List.toArray (List.range ns.length)) := by
      have e := kas_range (keys.zip vs.toArray)
      rw [hzip] at e
      show SortSt.mk' oneType' (keys.zip vs.toArray) #[] 7 none = SortSt.mk' oneType' ((List.toArray (List.range ns.length)).map (kas_item (keys.zip vs.toArray))) #[] 7 none
      rw [e]
    have itm : ∀ i, i < ns.length → ∃ D us c9, kas_item (keys.zip vs.toArray) i = (.ref D, vs.getD i .none) ∧ s.heap.get? D = some (lstObj (List.toArray us) c9) ∧ IntsAre us (places (ns.getD i 0)) := fun i hi => by
      obtain ⟨I, us, c9, q1, q2, q3, -⟩ := hK.2 i _ (List.getElem?_eq_getElem hi)
      refine ⟨I, us, c9, ?_, q2, by simpa [List.getD, List.getElem?_eq_getElem hi] using q3⟩
      have hi1 : i < keys.size := by lia
      have hi2 : i < vs.length := by lia
      have e1 : keys[i] = .ref I := by
        have := q1
        rw [List.getElem?_eq_getElem (by rw [Array.length_toList]; exact hi1)] at this
        simpa using this
      have hz : i < (keys.zip vs.toArray).size := by lia
      unfold kas_item
      simp [Array.getD, hi1, hi2, Nat.lt_min, e1, List.getD, List.getElem?_eq_getElem hi2]
    have run := sort_ok (n := ns.length) (key := fun i => keyP (ns.getD i 0)) (I := fun s' => ∃ h' tk', s' = { s with heap := h', toks := tk' } ∧ Keeps s.heap h')
      (cmp := kas_cmp PySem.Challenge.rw_pu0025_01.row.prog w A oneType' (keys.zip vs.toArray)) (fun i j s' C hi hj ⟨h', tk', es, hk'⟩ hC => ?_) (by lia)
      (G := fun p s' => PB ns.length p ∧ Inc (fun i => keyP (ns.getD i 0)) p ns.length ∧ ∃ h' tk', s' = { s with heap := h', toks := tk' } ∧ Keeps s.heap h') (s := s) ⟨s.heap, s.toks, rfl, Keeps.refl _⟩ fun p s' hI' B a => ⟨B, a, hI'⟩
    · have run2 := kas_runs (E := E) (Q := fun _ st' s' => ∃ p : Array Nat, arrOf st' = p.map (kas_item (keys.zip vs.toArray)) ∧ failedOf st' = none ∧ PB ns.length p ∧ Inc (fun i => keyP (ns.getD i 0)) p ns.length ∧ ∃ h' tk', s' = { s with heap := h', toks := tk' } ∧ Keeps s.heap h')
        (by lia) h64 (fun p' st' s' a1 a2 a3 a4 => ⟨p', a2, a3, a4⟩) run
      rw [← est] at run2
      refine wpAny_bind (wpAny_mono run2 ?_ fun _ _ q => q)
      rintro ⟨⟨⟩, st'⟩ s' ⟨p, har, hf, B, hinc, h', tk', rfl, hk'⟩
      dsimp only
      have hp := pick_ok (key := keyP) B hinc
      refine tail_wp (hb.trans hk') (hk' _ _ hk) (hk' _ _ ha) hka bk ba (by lia) (by rw [har, Array.size_map, B.size]; lia) hf fun h'' c' hb' ha' => done h'' tk' _ _ c' hb' ha' ?_ hp.1 hp.2
      have e : ((arrOf st').map (·.2)).toList = p.toList.map fun i => vs.getD i .none := by
        rw [har, Array.map_map, Array.toList_map]
        refine List.map_congr_left fun i hi => ?_
        have hi' : i < ns.length := by
          have := (Array.perm_iff_toList_perm.mp B.perm).mem_iff.mp hi
          simpa using this
        obtain ⟨I, d, t', q1, _⟩ := itm i hi'
        show (kas_item (keys.zip vs.toArray) i).2 = _
        rw [q1]
      rw [e]
      refine ints_pick hI _ fun i hi => ?_
      have := (Array.perm_iff_toList_perm.mp B.perm).mem_iff.mp hi
      simpa using this
    · obtain ⟨I, us, c9, q1, q2, q3⟩ := itm i hi
      obtain ⟨J, us2, c8, r1, r2, r3⟩ := itm j hj
      subst es
      unfold kas_cmp
      rw [q1, r1, keyLt'_oneType]
      refine oneLt_list (s := { s with heap := h', toks := tk' }) hu q3 r3 rfl (hk' _ _ q2) (hk' _ _ r2) ?_
      rw [lx_places]
      exact hC _ ⟨h', tk', rfl, hk'⟩
theorem restL_wp {P : PySem.Fin → Shared → Prop} (hd : A.depth + 40 < recursionLimit) (hu : A.units + 400 < cLine) (hX : Ctx w.params A b)
    (hb : Keeps b s.heap) (hk : s.heap.get? kS = some (seqObj "list" #[] e)) (ha : s.heap.get? a = some (seqObj "list" #[] e1)) (hka : kS ≠ a) (bk : b.get? kS = none) (ba : b.get? a = none)
    (hI : IntsAre vs ns) (h64 : ns.length < 64)
    (done : ∀ h' tk' out ms c, Keeps b h' → h'.get? a = some (seqObj "list" out c) → IntsAre out.toList ms → ms.Perm ns → ms.Pairwise (fun x y => keyP x ≤ keyP y) → P (.done (.ret .none)) { s with heap := h', toks := tk' }) :
    wpAny (model PySem.Challenge.rw_pu0025_01.row.prog w) A (ksk_rest a (.ref 155) false vs.toArray e1 (.ref kS)) P E s := by
  have hl := hI.length
  unfold ksk_rest
  refine wpAny_bind (wpAny_rule ?_)
  first
    | rw [List.forIn_toArray]
    | (rw [← Array.forIn_toList]; simp only [List.toList_toArray])
    | rw [← Array.forIn_toList]
  refine wpAny_bind (ksk_fold (fun i s' => ∃ h' tk' kA e', s' = { s with heap := h', toks := tk' } ∧ Keeps b h' ∧ h'.get? kS = some (seqObj "list" kA e') ∧ h'.get? a = some (seqObj "list" #[] e1) ∧ KeysL h' kS kA.toList (ns.take i)) vs 0 s
    ⟨s.heap, s.toks, #[], e, rfl, hb, hk, ha, ⟨rfl, fun i x q => by simp at q⟩⟩ ?step ?done)
  case step =>
    rintro j x s' hx ⟨h', tk', kA, e', rfl, hb', hk', ha', hK⟩
    simp only [Nat.zero_add] at hK ⊢
    have hj : j < ns.length := by rw [← hl]; exact (List.getElem?_eq_some_iff.mp hx).1
    obtain ⟨tx, ht⟩ := hI.get j _ (List.getElem?_eq_getElem hj)
    rw [ht] at hx
    cases hx
    have hz : kA.size = j := by
      have := hK.1
      rw [Array.length_toList, List.length_take, Nat.min_eq_left (Nat.le_of_lt hj)] at this
      exact this
    refine wpAny_bind (wpAny_attempt (places_ctx (s := { s with heap := h', toks := tk' }) (hX.keeps hb') hd hu fun I c9 us h2 tk2 k2 q0 q1 q2 => ?_))
    try dsimp only
    have s1 := Heap.SameBut.update h2 kS (Obj.mapSeq (·.push (.ref I)))
    obtain ⟨c2, hc2⟩ : ∃ c2, (h2.update kS (Obj.mapSeq (·.push (.ref I)))).get? kS = some (seqObj "list" (kA.push (.ref I)) c2) := ⟨_, get?_update_seq (k2 _ _ hk') (·.push (.ref I))⟩
    have ek : ns.take (j + 1) = ns.take j ++ [ns[j]] := by rw [List.take_add_one, List.getElem?_eq_getElem hj]; rfl
    have ea : (kA.push (Value.ref I)).toList = kA.toList ++ [Value.ref I] := by simp
    have other : ∀ b' o, h2.get? b' = some o → b' ≠ kS → (h2.update kS (Obj.mapSeq (·.push (.ref I)))).get? b' = some o := fun b' o q r => (s1.2 b' r).trans q
    refine wpAny_bind (listUpdate_at (k2 _ _ hk') rfl ?_ (by rw [sizeLine_eq]; lia) (Nat.le_trans (Nat.le_of_eq (Array.size_push ..)) (by rw [sizeLine_eq]; lia)))
    refine wpAny_pure ⟨rfl, _, _, kA.push (.ref I), c2, rfl, keepsBut (hb'.trans k2) s1 bk, hc2, other _ _ (k2 _ _ ha') hka.symm, ?_⟩
    rw [ea, ek]
    have nD : I ≠ kS := fun z => by rw [z] at q0; exact absurd (hk'.symm.trans q0) (by simp)
    refine KeysL.snoc ⟨hK.1, fun i y q => ?_⟩ (other _ _ q1 nD) q2 nD
    obtain ⟨I', d', t', r1, r2, r3, r4⟩ := hK.2 i y q
    exact ⟨I', d', t', r1, other _ _ (k2 _ _ r2) r4, r3, r4⟩
  case done =>
    rintro s' ⟨h', tk', kA, e', rfl, hb', hk', ha', hK⟩
    rw [Nat.zero_add, List.take_of_length_le (by lia)] at hK
    try dsimp only
    refine wpAny_bind (listItems_at hk' rfl ?_)
    exact endL_wp (s := { s with heap := h', toks := tk' }) (by omega) hb' hk' ha' hka bk ba hI h64 hK done
theorem sorted_places {l : Addr} {Q : Value → Shared → Prop} (hd : A.in1.in1.depth + 40 < recursionLimit) (hu : A.in1.in1.units + 400 < cLine) (hX : Ctx w.params A.in1.in1 s.heap)
    (hlist : s.heap.IsList l vs.toArray) (hI : IntsAre vs ns) (h64 : ns.length < 64)
    (done : ∀ D h' tk' out ms c, Keeps s.heap h' → s.heap.get? D = none → h'.get? D = some (seqObj "list" out c) → IntsAre out.toList ms → ms.Perm ns → ms.Pairwise (fun x y => keyP x ≤ keyP y) → Q (.ref D) { s with heap := h', toks := tk' }) :
    wpAny (model PySem.Challenge.rw_pu0025_01.row.prog w) A (call (.builtin "sorted") [.ref l] [(Str.ofString "key", .ref 155)]) Q E s := by
  have hl := hI.length
  refine call_function_entry_kw kind_sorted plain_sorted entry_sorted (ksk_s1 _ _) ?_
  unfold Builtin.«sorted»
  refine wpAny_bind (m := checkCount "sorted" 1 1 _) (wpAny_pure ?_)
  refine wpAny_bind (collect_list hlist ?_ (by rw [sizeLine_eq]; lia))
  refine wpAny_bind (wpAny_newList ?_ (by rw [sizeLine_eq]; lia))
  have hsz : ((s.heap.push (seqObj "list" #[] 0)).update s.heap.objs.size (Obj.mapSeq (· ++ vs.toArray))).objs.size = s.heap.objs.size + 1 := by
    rw [Heap.size_update, size_push']
  have hoL : (((s.heap.push (seqObj "list" #[] 0)).update s.heap.objs.size (Obj.mapSeq (· ++ vs.toArray))).push (seqObj "list" vs.toArray 0)).get? (s.heap.objs.size + 1) = some (seqObj "list" vs.toArray 0) := by
    rw [← hsz]; exact Heap.get?_push_size _ rfl
  have keep : Keeps s.heap (((s.heap.push (seqObj "list" #[] 0)).update s.heap.objs.size (Obj.mapSeq (· ++ vs.toArray))).push (seqObj "list" vs.toArray 0)) := fun b o q => by
    have hlt : b < s.heap.objs.size := Heap.lt_size q
    rw [Heap.get?_push_ne _ _ _ (by rw [hsz]; exact Nat.ne_of_lt (Nat.lt_succ_of_lt hlt)), Heap.get?_update_ne _ _ _ _ (Nat.ne_of_lt hlt), Heap.get?_push_ne _ _ _ (Nat.ne_of_lt hlt)]
    exact q
  show wpAny _ _ _ _ _ { s with heap := ((s.heap.push (seqObj "list" #[] 0)).update s.heap.objs.size (Obj.mapSeq (· ++ vs.toArray))).push (seqObj "list" vs.toArray 0) }
  rw [hsz]
  generalize hg : ((s.heap.push (seqObj "list" #[] 0)).update s.heap.objs.size (Obj.mapSeq (· ++ vs.toArray))).push (seqObj "list" vs.toArray 0) = g at hoL keep
  have ha0 : s.heap.get? (s.heap.objs.size + 1) = none := Heap.get?_none_of_le (Nat.le_succ _)
  have hga : s.heap.objs.size + 1 < g.objs.size := Heap.lt_size hoL
  refine wpAny_bind (wpAny_holding (wpAny_call_entry_kw slot_list_sort ⟨_, hoL, rfl⟩ entry_list_sort ?body (ksk_l1 _ _)))
  case body =>
    rw [ksk_t1]
    have s1 := Heap.SameBut.update g (s.heap.objs.size + 1) (Obj.mapSeq fun _ => (#[] : Array Value))
    obtain ⟨e1, ho1⟩ : ∃ e1, (g.update (s.heap.objs.size + 1) (Obj.mapSeq fun _ => (#[] : Array Value))).get? (s.heap.objs.size + 1) = some (seqObj "list" #[] e1) := ⟨_, get?_update_seq hoL fun _ => #[]⟩
    have k1 := keepsBut keep s1 ha0
    have hz1 : (g.update (s.heap.objs.size + 1) (Obj.mapSeq fun _ => (#[] : Array Value))).objs.size = g.objs.size := Heap.size_update ..
    have hz2 : ((g.update (s.heap.objs.size + 1) (Obj.mapSeq fun _ => (#[] : Array Value))).push (seqObj "tuple" vs.toArray 0)).objs.size = g.objs.size + 1 := by rw [size_push', hz1]
    have hka : ((g.update (s.heap.objs.size + 1) (Obj.mapSeq fun _ => (#[] : Array Value))).push (seqObj "tuple" vs.toArray 0)).objs.size ≠ s.heap.objs.size + 1 := by rw [hz2]; lia
    have hbk : s.heap.get? ((g.update (s.heap.objs.size + 1) (Obj.mapSeq fun _ => (#[] : Array Value))).push (seqObj "tuple" vs.toArray 0)).objs.size = none := Heap.get?_none_of_le (by rw [hz2]; lia)
    unfold ksk_tree
    refine wpAny_bind (listItems_at hoL rfl ?_)
    refine wpAny_bind (listUpdate_at hoL rfl ?_ (by rw [List.size_toArray, sizeLine_eq]; lia) (Nat.zero_le _))
    refine wpAny_bind (seqEpoch_at ho1 rfl ?_)
    refine wpAny_bind (wpAny_newTuple ?_ (by show vs.length ≤ _; rw [sizeLine_eq]; lia))
    refine wpAny_bind (wpAny_newList ?_ (Nat.zero_le _))
    refine wpAny_holding ?_
    refine restL_wp (s := { s with heap := ((g.update (s.heap.objs.size + 1) (Obj.mapSeq fun _ => (#[] : Array Value))).push (seqObj "tuple" vs.toArray 0)).push (seqObj "list" #[] 0) })
      (kS := ((g.update (s.heap.objs.size + 1) (Obj.mapSeq fun _ => (#[] : Array Value))).push (seqObj "tuple" vs.toArray 0)).objs.size) hd hu hX
      (fun x o q => Heap.get?_push_of_some _ (Heap.get?_push_of_some _ (k1 x o q))) (Heap.get?_push_size _ rfl) (Heap.get?_push_of_some _ (Heap.get?_push_of_some _ ho1)) hka
      hbk ha0 hI h64 fun h' tk' out ms c' hb' q1 q2 q3 q4 => ⟨_, rfl, wpAny_pure ⟨_, rfl, done _ h' tk' out ms c' hb' ha0 q1 q2 q3 q4⟩⟩
end
end Mine
end
section
open PySem PySem.W PyProof.Rows PySem.Spec PySem.Calls
set_option maxRecDepth 100000
set_option maxHeartbeats 4000000
namespace Mine
theorem Ctx.of_top {P : Params} {dp un : Nat} {gd : Option (List Code)} {cn : Str} {cs : Scope} {a L : Addr} {ccd : Value} {cl : List (Str × Addr)} {outer : List Env} {A₀ : Around} {base h₀ h : Heap} {m mg mb : Str → Option Value} {p : Program} {loose : List Str} {mean : ExcName → Option Value}
    (B : Below A₀ base outer h₀) (F : Fr h₀ L h m) (X : (Mine01.hd.heap_1 P).In h₀) (T : Top p loose mean mg mb h₀) (hk : cs.kind = .function) : Ctx P (ktrTop dp un gd cn cs L a ccd cl outer) h :=
  ⟨_, _, _, _, _, _, _, _, _, _, _, _, _, _, _, rfl, rfl, hk, B, F, X, T⟩
theorem itemI {prog : Program} {w : World} {A : Around} {E Q : Value → Shared → Prop} {s : Shared} {h₀ : Heap} {L l : Addr} {news : List (Addr × Obj)} {us : List Value} {bs : List Int} {c : Nat} {value slice : Expr} {k : Int} {u : Tok}
    (N : News h₀ L s.heap news) (hm : (l, W.listOf us.toArray c) ∈ news) (hB : IntsAre us bs) (h0 : 0 ≤ k) (h1 : k < bs.length) (h64 : bs.length < 64) (h : ∀ t, Q (.int (bs.getD k.toNat 0) t) s)
    (hs : subscripted slice false (.ref l) (.int k u) = operate [.ref l, .int k u] (getItem (.ref l) (.int k u)) := by with_unfolding_all rfl) (hg : ∀ r, letTemporaryGo value (.ref l) r = pure () := by intro _; with_unfolding_all rfl) :
    wpAny (model prog w) A (subscriptTail value slice (.ref l) (.int k u)) Q E s := by
  have hk : k.toNat < bs.length := by omega
  obtain ⟨t, e⟩ := hB.get k.toNat _ (List.getElem?_eq_getElem hk)
  refine item_list (items := us.toArray) ⟨_, (N _ hm).1, rfl, c, rfl⟩ h0 (by omega) (x := .int bs[k.toNat] t) (by simpa using e) ?_ hs hg
  have := h t
  rw [List.getD_eq_getElem?_getD, List.getElem?_eq_getElem hk] at this
  exact this
theorem idx_lo {n : Nat} (h : 0 < n) : (((n : Int) - 1).fdiv 2).toNat = (n - 1) / 2 := by
  rw [Int.fdiv_eq_ediv_of_nonneg _ (by decide)]
  omega
theorem idx_hi {n : Nat} : ((n : Int).fdiv 2).toNat = n / 2 := by
  rw [Int.fdiv_eq_ediv_of_nonneg _ (by decide)]
  omega
section
variable {w : World} {dp un : Nat} {gd : Option (List Code)} {cn : Str} {cs : Scope} {a : Addr} {ccd : Value} {cl : List (Str × Addr)} {outer : List Env} {A₀ : Around} {base h₀ : Heap} {L : Addr} {m mg mb : Str → Option Value} {s : Shared} {Q E : Value → Shared → Prop}
  {p : Program} {loose : List Str} {mean : ExcName → Option Value}
theorem sortP_told {l : Addr} {vs : List Value} {ns : List Int} : PySem.Challenge.rw_pu0025_01.foot = PySem.Challenge.rw_pu0025_01.foot → Below A₀ base outer h₀ → Fr h₀ L s.heap m → (Mine01.hd.heap_1 w.params).In h₀ → Top p loose mean mg mb h₀ → cs.kind = .function → dp + 60 < recursionLimit → un + 500 < cLine → s.heap.IsList l vs.toArray → IntsAre vs ns → ns.length < 64 →
    (∀ D h' tk' out ms c, Keeps s.heap h' → s.heap.get? D = none → h'.get? D = some (W.listOf (List.toArray out) c) → IntsAre out ms → ms.Perm ns → ms.Pairwise (fun x y => keyP x ≤ keyP y) → Q (.ref D) { s with heap := h', toks := tk' }) →
    wpAny (model PySem.Challenge.rw_pu0025_01.row.prog w) (ktrTop dp un gd cn cs L a ccd cl outer) (call (.builtin "sorted") [.ref l] [(Str.ofString "key", .ref 155)]) Q E s := by
  intro _ B F X T hk hd hu hl hI h64 hret
  refine sorted_places (by show dp + 40 < _; omega) (by show un + 1 + 1 + 400 < _; omega) (Ctx.of_top B F X T hk).in1.in1 hl hI h64 fun D h' tk' out ms c keep hn hD hO hp hs => ?_
  exact hret D h' tk' out.toList ms c keep hn (by simpa using hD) hO hp hs
/-- the signs of all figures -/
theorem figs_flat (ns : List Int) : (ns.flatMap figs).length = 4 * ns.length := by
  induction ns with
  | nil => rfl
  | cons k r ih => rw [List.flatMap_cons, List.length_append, ih, List.length_cons]; show 4 + _ = _; omega
theorem figs_mem {k b : Int} (h : b ∈ figs k) : 0 ≤ b ∧ b < 64 := by
  simp only [figs, List.mem_cons, List.not_mem_nil, or_false] at h
  rcases h with rfl | rfl | rfl | rfl <;> exact fig_bounds _ _
def signsOf (ns : List Int) : List UInt8 := (ns.flatMap figs).map sgB
theorem bytes_signs {prog : Program} {A : Around} {news : List (Addr × Obj)} {l : Addr} {vs : List Value} {fs : List Int} (N : News h₀ L s.heap news) (hm : (l, LCg.lst vs) ∈ news) (hI : IntsAre vs (fs.map sg)) (hz : fs.length ≤ 1000) (hh : A.handled = none)
    (h : ∀ h' t k, Keeps s.heap h' → Q (.bytes (fs.map sgB).toArray t) { s with heap := h', toks := k }) : wpAny (model prog w) A (call (.type "bytes") [.ref l]) Q E s := by
  refine call_bytes_ints (vs := vs) (ns := fs.map sg) ⟨_, (N _ hm).1, rfl, _, rfl⟩ hI ?_ ?_ hh ?_
  · intro x hx
    obtain ⟨b, _, rfl⟩ := List.mem_map.mp hx
    exact sg_bounds b
  · rw [hI.length, List.length_map, sizeLine_eq]; omega
  · intro h' t k hk
    have := h h' t k hk
    have e : byteArr (fs.map sg) = (fs.map sgB).toArray := by
      unfold byteArr
      rw [List.map_map]
      congr 1
      exact List.map_congr_left fun b _ => sg_back b
    rw [e]
    exact this
theorem due_spec {l : Addr} {vs : List Value} {ns : List Int} : PySem.Challenge.rw_pu0025_01.foot = PySem.Challenge.rw_pu0025_01.foot → Below A₀ base outer h₀ → Fr h₀ L s.heap m → (Mine01.hd.heap_1 w.params).In h₀ → Top p loose mean mg mb h₀ → cs.kind = .function → dp + 80 < recursionLimit → un + 700 < cLine → s.heap.IsList l vs.toArray → IntsAre vs ns → 0 < ns.length → ns.length ≤ 12 →
    (∀ (R D : Addr) h' tk' (t1 t2 t3 : Tok) (out : List Value) ms c1 c2, Keeps s.heap h' → h'.get? R = some (W.listOf (List.toArray [.ref D, .bytes (signsOf ns).toArray t1, .int (ms.getD ((ns.length - 1) / 2) 0) t2, .int (ms.getD (ns.length / 2) 0) t3]) c1) → h'.get? D = some (W.listOf (List.toArray out) c2) →
      s.heap.get? R = none → s.heap.get? D = none → IntsAre out ms → ms.Perm ns → ms.Pairwise (fun x y => keyP x ≤ keyP y) → Q (.ref R) { s with heap := h', toks := tk' }) →
    wpAny (model PySem.Challenge.rw_pu0025_01.row.prog w) (ktrTop dp un gd cn cs L a ccd cl outer) (call (.ref 172) [.ref l]) Q E s := by
  w_top off
  k_with_none
  k_with "call builtin:sorted" => (k_here; (with_reducible show wpAny _ _ (call (Value.builtin "sorted") [Value.ref _] _) _ _ _); (k_dflt (refine' sortP_told rfl ?k1 ?k2 ?k3 ?k4 ?kK ?kd ?ku ?kl hI (by omega) ?_; (case k1 => k_asm); (case k2 => k_asm); (case k3 => k_asm); (case k4 => k_asm); (case kK => first | exact rfl | assumption); (case kd => ktr_room); (case ku => ktr_units); (case kl => first | assumption | is_list))); intro D9 h9 tk9 out9 ms9 c9 K9 n9 e9 Iord Pord Sord; (obtain ⟨F9, N9, o9⟩ := newsAdd (by k_asm) (by k_asm) K9 n9 e9); clear K9 n9 e9; (try simp only [Off1, and_true] at o9); (try dsimp only); (try k_fold))
  k_with "eval ListComp" => (k_here; k_dflt (refine' ListComp_N rfl ?nF ?nN (g := sg) (inn := figs) hl hI (by rfl) (by decide) (by rfl) (by decide) (by rfl) (by rfl) (by intro _; rfl) (by intro _ _; rfl) (by rw [figs_flat]; omega) ?nit (fun k9 t9 hk9 C9 oC9 m9 h9 tk9 E9 hC9 hx9 F9 N9 o9 => ?nst) (fun b9 t9 k9 hk9 hb9 C9 oC9 m9 h9 tk9 E9 hC9 hx9 F9 N9 o9 => ?nel) ?nfi; (case nF => k_asm); (case nN => k_asm); (case nit => exact nameX_L (by k_asm) (by rfl) ⟨rfl, rfl⟩)); (all_goals (try simp only [Off1, and_true] at o9)); (all_goals (try (intro D9 h9 tk9 zs9 F9 N9 o9 I9; (try simp only [Off1, and_true] at o9)))); (all_goals (try k_fold)))
  k_with "call ref" => (k_here; (with_reducible show wpAny _ _ (call (Value.ref 150) [Value.int _ _] _) _ _ _); (k_dflt (refine' figures_spec rfl ?k1 ?k2 ?k3 ?k4 ?kK ?kd ?ku ?_; (case k1 => k_asm); (case k2 => k_asm); (case k3 => k_asm); (case k4 => k_asm); (case kK => first | exact rfl | assumption); (case kd => ktr_room); (case ku => ktr_units); (intro D9 c9 vs9 h9 tk9 K9 n9 e9 I9; exact StepEnd.intro K9 n9 e9 I9))))
  k_with "subscriptTail" => (k_here; (with_reducible show wpAny _ _ (subscriptTail _ _ (Value.bytes _ _) (Value.int _ _)) _ _ _); (with_unfolding_all refine b64_at ?h0 ?h1 ?_; (case h0 => exact (figs_mem hb9).1); (case h1 => exact (figs_mem hb9).2)))
  k_with "call type:bytes" => (k_here; (with_reducible show wpAny _ _ (call (Value.type _) [Value.ref _]) _ _ _); k_dflt (refine' bytes_signs (fs := ns.flatMap figs) ?N ?m ?i ?z rfl ?_; (case N => k_asm); (case m => k_mem); (case i => assumption); (case z => rw [figs_flat]; omega)); intro h8 t8 tk8 K8; (have F8 := keepsFr (by k_asm) K8); (have N8 := keepsNews (by k_asm) K8); clear K8; (try dsimp only))
  k_with "call builtin:len" => (k_here; (with_reducible show wpAny _ _ (call (Value.builtin "len") [Value.ref _]) _ _ _); k_dflt (refine' kst_len ?kN ?km (Iord.length.trans Pord.length_eq) ?kf ?_; (case kN => k_asm); (case km => k_mem); (case kf => omega)))
  k_with "subscriptTail" => (k_here; (with_reducible show wpAny _ _ (subscriptTail _ _ (Value.ref _) (Value.int _ _)) _ _ _); k_dflt (refine' itemI ?kN ?km Iord ?k0 ?k1 ?k2 ?_; (case kN => k_asm); (case km => k_mem); (case k0 => (have := Pord.length_eq; rw [Int.fdiv_eq_ediv_of_nonneg _ (by decide)]; omega)); (case k1 => (have := Pord.length_eq; rw [Int.fdiv_eq_ediv_of_nonneg _ (by decide)]; omega)); (case k2 => (have := Pord.length_eq; omega))))
  k_with "EltEnd" => (k_dflt (exact EltEnd.intro))
  k_fill
  intro _ B F X T hk hd hu hl hI h0 h1 hret
  k_dflt (refine' callKC (by assumption) (by assumption) (by assumption) (by assumption) rfl rfl (by assumption) ?k6 ?k7 ?k8 ?k9 ?kB ?kD ?c2 ?c3 ?c4 ?_; (case k6 => k_is); (case k7 => k_is); (case k8 => ktr_room); (case k9 => first | exact BindsTo.of_eq rfl | exact binds_K (by k_in) rfl (by k_is) rfl rfl rfl); (case kB => exact rfl); (case kD => decide +kernel); (case c2 => exact rfl); (case c3 => exact rfl); (case c4 => exact rfl))
  intro L' h' tk' cells' F' N' Y' B' X' T'
  clear B F X T
  k_cells Y'
  (try simp only [List.cons_append, List.nil_append] at N')
  (try dsimp only)
  k_steps
  all_goals (rename Fr _ _ _ _ => fE'; rename News _ _ _ _ => nE'; rw [idx_lo h0, idx_hi] at nE'; k_dflt (refine' hret _ _ _ _ _ _ _ _ _ _ _ fE'.keep (in_is nE' ?a) (in_is nE' ?b) (in_none nE' ?a) (in_none nE' ?b) Iord Pord Sord))
  case a => k_dflt (exact .head _)
  case b => k_dflt k_mem
end
end Mine
end
section
open PySem PySem.W PySem.W.X PyProof.Rows
set_option maxRecDepth 100000
set_option maxHeartbeats 8000000
namespace Mine
abbrev lamPar (p1 p2 : Pos) : Arguments := { posonlyargs := [], args := [{ arg := "a", annotation := none, pos := p1 }, { arg := "b", annotation := none, pos := p2 }], vararg := none, kwonlyargs := [], kw_defaults := [], kwarg := none, defaults := [] }
abbrev lamScope : Scope := { kind := .function, names := [(Str.ofString "a", .local), (Str.ofString "b", .local)], isGenerator := false, isCoroutine := false, more := [] }
theorem mul_small {x : Int} {c : Bool} : (decide (bitsQ x > shortFactorBits) && decide (bitsQ 256 > shortFactorBits) && c) = false := by
  have e : bitsQ 256 = 9 := bits_is (by decide)
  rw [e]
  have : decide (9 > shortFactorBits) = false := by decide
  rw [this]
  simp
theorem not_long {n : Nat} (h : n ≤ 16777216) : Builtin.Bytes.tooLong n = false := by
  unfold Builtin.Bytes.tooLong
  exact decide_eq_false (by rw [sizeLine_eq]; omega)
theorem add_run {w : World} {s : Shared} {A : Around} {R : Result → Shared → Prop} {f c : Addr} {nm ql : Str} {p1 p2 q1 q2 q3 : Pos} {pm ct : Value} {oc : Obj} {vs : Array Value} {tq : Tok} {x y : Array UInt8} {tx ty : Tok} (hd : A.depth + 5 < recursionLimit) (X : (Mine01.hd.heap_1 w.params).In s.heap)
    (hf : s.heap.get? f = some (kla_obj nm ql (lamPar p1 p2) (.BinOp (.Name "a" q1) .Add (.Name "b" q2) q3) lamScope [] pm c ct)) (hc : s.heap.get? c = some oc) (hdc : oc.data = .fields vs) (hv : vs[1]? = some (.str ql tq)) (hz : x.size + y.size ≤ 16777216)
    (done : ∀ h' t' tk', Keeps s.heap h' → R (.ok (.ret (.bytes (x ++ y) t'))) { s with heap := h', toks := tk' }) :
    codeAny (model PySem.Challenge.rw_pu0025_01.row.prog w) A (.call (.ref f) ⟨[.bytes x tx, .bytes y ty], []⟩) R s := by
  obtain ⟨cl, dc, da, sl⟩ := oc
  cases hdc
  obtain ⟨vs⟩ := vs
  match vs, hv with
  | v0 :: v1 :: vr, hv =>
  cases hv
  refine simH_code s.heap.objs.size [] _ [.s 1, .s 2, .n, .n, .w 0, .w 0, .n, .w 0, .w 0, .n, .s 0] rfl (fun a vs h => nomatch h) (oldsCons (X 2 _ rfl) (oldsCons hf (oldsCons hc oldsNil))) fun O => ?_
  refine hold_of (M := model PySem.Challenge.rw_pu0025_01.row.prog w) (s := s) ?_
  kat_step
  refine three_in ?_
  kas_known
  refine ret_in ⟨by unfold accOk; kernel_rfl, fun p1 b1 l1 => ?_⟩
  have a11 := l1.near' (Nat.lt_of_le_of_lt (Nat.add_le_add_left (Nat.le_of_ble_eq_true rfl : Code.weight _ ≤ 5) A.depth) (by omega)) 0
  have a12 := l1.over (Nat.lt_of_le_of_lt (Nat.add_le_add_left (Nat.le_of_ble_eq_true rfl : Code.weight _ ≤ 5) A.depth) (by omega)) 0
  have a13 := l1.warm (Nat.lt_of_le_of_lt (Nat.add_le_add_left (Nat.le_of_ble_eq_true rfl : Code.weight _ ≤ 5) A.depth) (by omega)) 0
  refine hold_of (M := model PySem.Challenge.rw_pu0025_01.row.prog w) (s := s) ?_
  kat_step
  refine three_in ?_
  kas_known
  refine ret_in ⟨by unfold accOk; kernel_rfl, fun h1 D1 => ?_⟩
  conv =>
    enter [4]
    whnf
    repeat (enter [27]; whnf)
    rw [show nearF _ _ _ = false from a11, show overF _ _ _ = false from a12, show warmF _ _ _ = false from a13]
  refine simH_more O [.n, .w 0, .w 0, .n, .n] D1 ?_
  refine hold_of (M := model PySem.Challenge.rw_pu0025_01.row.prog w) (s := s) ?_
  kat_step
  refine three_in ?_
  kas_known
  refine ret_in ⟨by unfold accOk; kernel_rfl, fun h2 D2 => ?_⟩
  conv =>
    enter [4]
    whnf
    repeat (enter [27]; whnf)
    enter [3]
    tactic' => exact (by kernel_rfl : _ = false)
  conv =>
    enter [4]
    whnf
    repeat (enter [27]; whnf)
    enter [3]
    tactic' => exact (by kernel_rfl : _ = false)
  conv =>
    enter [4]
    whnf
    repeat (enter [27]; whnf)
    enter [3]
    tactic' => exact (by kernel_rfl : _ = false)
  conv =>
    enter [4]
    whnf
    repeat (enter [27]; whnf)
    enter [3]
    tactic' => exact (by kernel_rfl : _ = false)
  conv =>
    enter [4]
    whnf
    repeat (enter [27]; whnf)
    enter [3]
  cases hxe : x.isEmpty
  · conv =>
      enter [4]
      whnf
      repeat (enter [27]; whnf)
      enter [3]
    cases hye : y.isEmpty
    · conv =>
        enter [4]
        whnf
        repeat (enter [27]; whnf)
        enter [3]
        rw [not_long hz]
      have hz2 : ¬ sizeLine < (x ++ y).size := by rw [Array.size_append, sizeLine_eq]; omega
      conv =>
        enter [4]
        whnf
        repeat (enter [27]; whnf)
        rw [← ZFast.ze494991955013373658]
        enter [3]
        rw [show Nat.decLt sizeLine (x ++ y).size = Decidable.isFalse hz2 from Subsingleton.elim _ _]
      refine simH_more O [.n, .n, .n] D2 ?_
      refine hold_of (M := model PySem.Challenge.rw_pu0025_01.row.prog w) (s := s) ?_
      kat_step
      refine three_in ?_
      kas_known
      refine ret_in ⟨by unfold accOk; kernel_rfl, fun h3 D3 => ?_⟩
      exact done h3 _ _ fun b o e => D3.keep b o e rfl
    · refine simH_more O [.n, .n] D2 ?_
      refine hold_of (M := model PySem.Challenge.rw_pu0025_01.row.prog w) (s := s) ?_
      kat_step
      refine three_in ?_
      kas_known
      refine ret_in ⟨by unfold accOk; kernel_rfl, fun h3 D3 => ?_⟩
      have e : x ++ y = x := by rw [Array.isEmpty_iff.mp hye]; simp
      rw [e] at done
      exact end_at (R := R) (.ok (.ret (.bytes x _))) (by kernel_rfl) (done h3 tx _ fun b o e => D3.keep b o e rfl)
  · refine simH_more O [.n, .n] D2 ?_
    refine hold_of (M := model PySem.Challenge.rw_pu0025_01.row.prog w) (s := s) ?_
    kat_step
    refine three_in ?_
    kas_known
    refine ret_in ⟨by unfold accOk; kernel_rfl, fun h3 D3 => ?_⟩
    have e : x ++ y = y := by rw [Array.isEmpty_iff.mp hxe]; simp
    rw [e] at done
    exact end_at (R := R) (.ok (.ret (.bytes y _))) (by kernel_rfl) (done h3 ty _ fun b o e => D3.keep b o e rfl)
theorem mul_run {w : World} {s : Shared} {A : Around} {R : Result → Shared → Prop} {f c : Addr} {nm ql : Str} {p1 p2 q1 q2 q3 q4 q5 : Pos} {t2 : Tok} {pm ct : Value} {oc : Obj} {vs : Array Value} {tq : Tok} {x y : Int} {tx ty : Tok} (hd : A.depth + 5 < recursionLimit) (X : (Mine01.hd.heap_1 w.params).In s.heap)
    (hf : s.heap.get? f = some (kla_obj nm ql (lamPar p1 p2) (.BinOp (.BinOp (.Name "a" q1) .Mult (.Constant (.int 256) t2 q2) q3) .Add (.Name "b" q4) q5) lamScope [] pm c ct)) (hc : s.heap.get? c = some oc) (hdc : oc.data = .fields vs) (hv : vs[1]? = some (.str ql tq))
    (done : ∀ h' t' tk', Keeps s.heap h' → R (.ok (.ret (.int (x * 256 + y) t'))) { s with heap := h', toks := tk' }) :
    codeAny (model PySem.Challenge.rw_pu0025_01.row.prog w) A (.call (.ref f) ⟨[.int x tx, .int y ty], []⟩) R s := by
  obtain ⟨cl, dc, da, sl⟩ := oc
  cases hdc
  obtain ⟨vs⟩ := vs
  match vs, hv with
  | v0 :: v1 :: vr, hv =>
  cases hv
  refine simH_code s.heap.objs.size [] _ [.s 1, .s 2, .n, .n, .w 0, .w 0, .n, .w 0, .w 0, .n, .s 0] rfl (fun a vs h => nomatch h) (oldsCons (X 2 _ rfl) (oldsCons hf (oldsCons hc oldsNil))) fun O => ?_
  refine hold_of (M := model PySem.Challenge.rw_pu0025_01.row.prog w) (s := s) ?_
  kat_step
  refine three_in ?_
  kas_known
  refine ret_in ⟨by unfold accOk; kernel_rfl, fun p1 b1 l1 => ?_⟩
  have a11 := l1.near' (Nat.lt_of_le_of_lt (Nat.add_le_add_left (Nat.le_of_ble_eq_true rfl : Code.weight _ ≤ 5) A.depth) (by omega)) 0
  have a12 := l1.over (Nat.lt_of_le_of_lt (Nat.add_le_add_left (Nat.le_of_ble_eq_true rfl : Code.weight _ ≤ 5) A.depth) (by omega)) 0
  have a13 := l1.warm (Nat.lt_of_le_of_lt (Nat.add_le_add_left (Nat.le_of_ble_eq_true rfl : Code.weight _ ≤ 5) A.depth) (by omega)) 0
  refine hold_of (M := model PySem.Challenge.rw_pu0025_01.row.prog w) (s := s) ?_
  kat_step
  refine three_in ?_
  kas_known
  refine ret_in ⟨by unfold accOk; kernel_rfl, fun h1 D1 => ?_⟩
  conv =>
    enter [4]
    whnf
    repeat (enter [27]; whnf)
    rw [show nearF _ _ _ = false from a11, show overF _ _ _ = false from a12, show warmF _ _ _ = false from a13]
  refine simH_more O [.n, .w 0, .n, .n, .n] D1 ?_
  refine hold_of (M := model PySem.Challenge.rw_pu0025_01.row.prog w) (s := s) ?_
  kat_step
  refine three_in ?_
  kas_known
  refine ret_in ⟨by unfold accOk; kernel_rfl, fun h2 D2 => ?_⟩
  conv =>
    enter [4]
    whnf
    repeat (enter [27]; whnf)
  generalize hb : (decide (bitsQ x > shortFactorBits) && decide (bitsQ 256 > shortFactorBits) && _) = b
  obtain rfl : false = b := mul_small.symm.trans hb
  refine simH_more O [.n, .n, .w 0, .n, .n, .n, .n, .n] D2 ?_
  refine hold_of (M := model PySem.Challenge.rw_pu0025_01.row.prog w) (s := s) ?_
  kat_step
  refine three_in ?_
  kas_known
  refine ret_in ⟨by unfold accOk; kernel_rfl, fun h3 D3 => ?_⟩
  exact done h3 _ _ fun b o e => D3.keep b o e rfl
end Mine
end
section
open PySem PySem.W PyProof.Rows PySem.Spec PySem.Calls
set_option maxRecDepth 100000
namespace Mine
section
variable {prog : Program} {w : World} {A₀ A : Around} {s : Shared} {base h₀ : Heap} {outer : List Env} {L : Addr} {m mg mb : Str → Option Value} {env : Env} {E : Value → Shared → Prop} {Q : Value → Shared → Prop}
  {K : Frag} {p : Program} {loose : List Str} {mean : ExcName → Option Value} {news : List (Addr × Obj)}
  {name qual : Str} {params : Arguments} {body : List Stmt} {scope : Scope} {dV kV doc pm cdv ct oc : Value} {an od : Option Addr} {osl : Array (Option Value)} {f : Addr} {pos : List Value} {kw : List (Str × Value)} {binds : List (Str × Value)}
/-- a call of a def of the written part, some objects (code tables) kept in the ledger -/
theorem callN (B : Below A₀ base outer h₀) (F : Fr h₀ L s.heap m) (N : News h₀ L s.heap news) (X₀ : K.In h₀) (T : Top p loose mean mg mb h₀) (hA : A.frames = some (env :: outer)) (hf : env.frame = some L) (hke : env.scope.kind = .function)
    (ho : K.lookup f = some ⟨oc, od, .func (fnOf name qual params body scope dV kV doc pm an cdv ct), osl⟩) (hcd : codeIn K cdv qual = true) (hroom : A.depth < recursionLimit)
    (hbind : BindsTo s (fnOf name qual params body scope dV kV doc pm an cdv ct) ⟨pos, kw⟩ binds) (hloc : ∀ y ∈ binds, scope.names.lookup y.1 = some .local)
    (hcell : ∀ x ∈ scope.names, x.2 ≠ .cell) (hco : scope.isCoroutine = false) (hgen : scope.isGenerator = false) (hk : scope.kind = .function)
    (h : ∀ L' h₁, Fr (hideAll s.heap (news.map (·.1))) L' h₁ (fun y => binds.reverse.lookup y) → News (hideAll s.heap (news.map (·.1))) L' h₁ news → Below A base (env :: outer) (hideAll s.heap (news.map (·.1))) → K.In (hideAll s.heap (news.map (·.1))) → Top p loose mean mg mb (hideAll s.heap (news.map (·.1))) → h₀.StaysIn (hideAll s.heap (news.map (·.1))) →
      wpAny (model prog w) (A.deeper (envOf qual scope L' f cdv)) (execs body (envOf qual scope L' f cdv))
        (fun fl s' => Q (match fl with | .ret v => v | _ => .none) s')
        (fun e s' => wpAny (model prog w) (A.deeper (envOf qual scope L' f cdv)) (leaving (envOf qual scope L' f cdv) e) (fun _ s'' => E e s'') (fun e' s'' => E e' s'') s')
        { s with heap := h₁, toks := s.toks + binds.length }) : wpAny (model prog w) A (call (.ref f) pos kw) Q E s := by
  refine wpAny_call ?_
  have X := X₀.keeps F.keep
  obtain ⟨_, BG, st, _⟩ := groundX (R := fun r s' => match r with | .ok (.ret v) => Q v s' | .ok _ => False | .error e => E e s') B F N hA hf hke
  refine codeAny_call_def (fd := fnOf name qual params body scope dV kV doc pm an cdv ct) (body := body) (binds := binds) hroom (X _ _ ho) rfl (T.nolimit.keeps F.keep) (codeRec_of X hcd) rfl hbind hcell hloc (fun h₁ hns hk₁ => ?_) hco hgen hk
  refine h s.heap.objs.size h₁ ⟨hns, fun b o e => hk₁ b o (of_hideAll _ e), Nat.le_of_eq (hideAll_size _ _)⟩ (fun q hq => ⟨hk₁ _ _ (N q hq).1, Nat.ne_of_lt (Heap.lt_size (N q hq).1), hideAll_none _ (List.mem_map_of_mem hq)⟩) BG (X₀.keeps st) (T.keeps st) st
end
/-- the start-up objects, out of the lines' sight -/
structure BootAt (P : Params) (h : Heap) : Prop where
  out : (Mine01.boots P).In h
/-- back in the caller: what stood but the objects set apart -/
theorem fr_back {h₀ h h' : Heap} {L : Addr} {m : Str → Option Value} {news : List (Addr × Obj)} (F : Fr h₀ L h m) (N : News h₀ L h news) (k : Keeps (hideAll h (news.map (·.1))) h') : Fr h₀ L h' m := by
  obtain ⟨oL, es, ep, hL, r⟩ := F.ns
  have nm : ∀ b o, h₀.get? b = some o → b ∉ news.map (·.1) := fun b o e q => by
    obtain ⟨p, hp, rfl⟩ := List.mem_map.mp q
    rw [(N p hp).2.2] at e; cases e
  refine ⟨⟨oL, es, ep, k _ _ (hideAll_get _ hL fun q => ?_), r⟩, fun b o e => k _ _ (hideAll_get _ (F.keep b o e) (nm b o e)), F.above⟩
  obtain ⟨p, hp, e⟩ := List.mem_map.mp q
  exact (N p hp).2.1 e
end Mine
end
section
open PySem PySem.W PyProof.Rows PySem.Spec PySem.Calls
set_option maxRecDepth 100000
namespace Mine
/-- a number's three octets, the highest first -/
def row3 (k : Int) : List UInt8 := [((k.fdiv 65536).fmod 256).toNat.toUInt8, ((k.fdiv 256).fmod 256).toNat.toUInt8, (k.fmod 256).toNat.toUInt8]
/-- its writing -/
def encOf (k : Int) : List UInt8 := enc3 ((k.fdiv 65536).fmod 256).toNat.toUInt8 ((k.fdiv 256).fmod 256).toNat.toUInt8 (k.fmod 256).toNat.toUInt8
theorem bytes_three {prog : Program} {w : World} {A : Around} {E Q : Value → Shared → Prop} {s : Shared} {h₀ : Heap} {L l : Addr} {news : List (Addr × Obj)} {n : Nat} {y0 y1 y2 : Int} {t0 t1 t2 : Tok}
    (N : News h₀ L s.heap news) (hm : (l, W.listOf (List.toArray [Value.int y0 t0, .int y1 t1, .int y2 t2]) n) ∈ news) (hh : A.handled = none) (h0 : 0 ≤ y0 ∧ y0 < 256) (h1 : 0 ≤ y1 ∧ y1 < 256) (h2 : 0 ≤ y2 ∧ y2 < 256)
    (h : ∀ h' t k, Keeps s.heap h' → Q (.bytes (List.toArray [y0.toNat.toUInt8, y1.toNat.toUInt8, y2.toNat.toUInt8]) t) { s with heap := h', toks := k }) : wpAny (model prog w) A (call (.type "bytes") [.ref l]) Q E s := by
  refine call_bytes_ints (vs := [.int y0 t0, .int y1 t1, .int y2 t2]) (ns := [y0, y1, y2]) ⟨_, (N _ hm).1, rfl, _, rfl⟩ (.cons _ _ (.cons _ _ (.cons _ _ .nil))) ?_ ?_ hh h
  · simp only [List.forall_mem_cons, List.not_mem_nil, false_implies, implies_true, and_true]
    exact ⟨h0, h1, h2⟩
  · rw [sizeLine_eq]; exact Nat.le_of_ble_eq_true rfl
theorem fmod256 (x : Int) : 0 ≤ x.fmod 256 ∧ x.fmod 256 < 256 := by
  rw [Int.fmod_eq_emod_of_nonneg _ (by decide)]
  omega
def KbEl (news : List (Addr × Obj)) (b : List UInt8) (y : Value) (news' : List (Addr × Obj)) : Prop := news' = news ∧ ∃ t : Tok, y = .bytes b.toArray t
theorem BytesAre.snoc {b : List UInt8} {t : Tok} : ∀ {vs : List Value} {bs : List (List UInt8)}, BytesAre vs bs → BytesAre (vs ++ [.bytes b.toArray t]) (bs ++ [b])
  | _, _, .nil => .cons b t .nil
  | _, _, .cons z u r => .cons z u r.snoc
section
variable {prog : Program} {w : World} {A : Around} {h₀ : Heap} {L : Addr} {m : Str → Option Value} {env : Env} {elt : Expr} {x : Str} {scope : Scope} {cl : List (Str × Addr)} {s : Shared} {S : List (Addr × Obj) → Prop} {P : Nat → Value → Prop} {Fin : List Value → List (Addr × Obj) → Prop} {news : List (Addr × Obj)}
theorem kb_rest {n : Nat} {bs : List (List UInt8)} (hl : bs.length = n)
    (turn : ∀ i v b, bs[i]? = some b → P i v → ∀ I oI C oC D m₂ ys h tk (E' : Value → Shared → Prop), LCg.NsObj oC m₂ → m₂ x = some v → Fr h₀ L h m → News h₀ L h ((I, oI) :: (C, oC) :: (D, LCg.lst ys) :: news) → LCg.Off3 I C D news → ((@Ne Nat I C) ∧ (@Ne Nat I D) ∧ (@Ne Nat C D)) →
      wpAny (model prog w) A (eval elt (compEnvC scope cl C env)) (LCg.CompEnd h₀ L m { s with heap := h, toks := tk } I oI C oC D (LCg.lst ys) S (fun y news' => KbEl news b y news')) E' { s with heap := h, toks := tk })
    (fin : ∀ ys, BytesAre ys bs → Fin ys news) : LCg.CompRest prog w A h₀ L m env elt x scope cl s S P Fin n 0 [] news := by
  have key : ∀ (j i : Nat) (ys : List Value), i + j = n → BytesAre ys (bs.take i) → LCg.CompRest prog w A h₀ L m env elt x scope cl s S P Fin j i ys news := by
    intro j
    induction j with
    | zero =>
      intro i ys hi hy
      rw [List.take_of_length_le (by omega)] at hy
      exact LCg.CompRest.zero (fin ys hy)
    | succ j ih =>
      intro i ys hi hy
      refine LCg.CompRest.succ ?_
      intro v I oI C oC D m₂ h tk E' hv hC hx F N off ne
      have hi' : i < bs.length := by omega
      refine wpAny_mono (turn i v _ (List.getElem?_eq_getElem hi') hv I oI C oC D m₂ ys h tk E' hC hx F N off ne) (fun y s₂ hq => ?_) fun _ _ e => e
      obtain ⟨h', tk', nw, e, F', N', off', hS, hn, t', hy'⟩ := hq
      rw [hn] at N' off' hS
      refine ⟨h', tk', news, e, F', N', off', hS, ?_⟩
      rw [hy']
      refine ih (i + 1) _ (by omega) ?_
      rw [List.take_add_one, List.getElem?_eq_getElem hi']
      exact hy.snoc
  exact key n 0 [] (by omega) (by simpa using BytesAre.nil)
/-- over numbers -/
theorem kb_ints {vs : List Value} {ns : List Int} (g : Int → List UInt8) (hi : IntsAre vs ns)
    (turn : ∀ k t, k ∈ ns → ∀ I oI C oC D m₂ ys h tk (E' : Value → Shared → Prop), LCg.NsObj oC m₂ → m₂ x = some (.int k t) → Fr h₀ L h m → News h₀ L h ((I, oI) :: (C, oC) :: (D, LCg.lst ys) :: news) → LCg.Off3 I C D news → ((@Ne Nat I C) ∧ (@Ne Nat I D) ∧ (@Ne Nat C D)) →
      wpAny (model prog w) A (eval elt (compEnvC scope cl C env)) (LCg.CompEnd h₀ L m { s with heap := h, toks := tk } I oI C oC D (LCg.lst ys) S (fun y news' => KbEl news (g k) y news')) E' { s with heap := h, toks := tk })
    (fin : ∀ ys, BytesAre ys (ns.map g) → Fin ys news) : LCg.CompRest prog w A h₀ L m env elt x scope cl s S (fun i v => vs.toArray[i]? = some v) Fin vs.toArray.size 0 [] news := by
  refine kb_rest (bs := ns.map g) (by rw [List.length_map, List.size_toArray]; exact hi.length.symm) (fun i v b hb hv => ?_) fin
  rw [List.getElem?_map] at hb
  cases q : ns[i]? with
  | none => rw [q] at hb; simp at hb
  | some k =>
    rw [q] at hb
    cases (show some (g k) = some b from hb)
    obtain ⟨t, ht⟩ := hi.get i k q
    have hv' : vs[i]? = some v := by simpa using hv
    rw [ht] at hv'
    cases hv'
    exact turn k t (List.mem_of_getElem? q)
/-- over octets made of numbers -/
theorem kb_rows {vs : List Value} {ns : List Int} (r g : Int → List UInt8) (hi : BytesAre vs (ns.map r))
    (turn : ∀ k t, k ∈ ns → ∀ I oI C oC D m₂ ys h tk (E' : Value → Shared → Prop), LCg.NsObj oC m₂ → m₂ x = some (.bytes (r k).toArray t) → Fr h₀ L h m → News h₀ L h ((I, oI) :: (C, oC) :: (D, LCg.lst ys) :: news) → LCg.Off3 I C D news → ((@Ne Nat I C) ∧ (@Ne Nat I D) ∧ (@Ne Nat C D)) →
      wpAny (model prog w) A (eval elt (compEnvC scope cl C env)) (LCg.CompEnd h₀ L m { s with heap := h, toks := tk } I oI C oC D (LCg.lst ys) S (fun y news' => KbEl news (g k) y news')) E' { s with heap := h, toks := tk })
    (fin : ∀ ys, BytesAre ys (ns.map g) → Fin ys news) : LCg.CompRest prog w A h₀ L m env elt x scope cl s S (fun i v => vs.toArray[i]? = some v) Fin vs.toArray.size 0 [] news := by
  refine kb_rest (bs := ns.map g) (by rw [List.size_toArray, hi.length, List.length_map, List.length_map]) (fun i v b hb hv => ?_) fin
  rw [List.getElem?_map] at hb
  cases q : ns[i]? with
  | none => rw [q] at hb; simp at hb
  | some k =>
    rw [q] at hb
    cases (show some (g k) = some b from hb)
    have hv' : vs[i]? = some v := by simpa using hv
    obtain ⟨b', t, h1, rfl⟩ := hi.at hv'
    rw [List.getElem?_map, q] at h1
    cases (show some (r k) = some b' from h1)
    exact turn k t (List.mem_of_getElem? q)
end
end Mine
end
section
open PySem PySem.W PyProof.Rows PySem.Spec PySem.Calls
set_option maxRecDepth 100000
namespace Mine
/-- the writing of the numbers, end to end -/
def longOf (ns : List Int) : List UInt8 := (ns.map encOf).flatten
/-- a number's four figures -/
def figs3 (b0 b1 b2 : UInt8) : List Int := [(b0.toNat : Int) / 4 % 64, ((b0.toNat : Int) * 256 + b1.toNat) / 16 % 64, ((b1.toNat : Int) * 256 + b2.toNat) / 64 % 64, (b2.toNat : Int) % 64]
def figsOf (ns : List Int) : List Int := (ns.map fun k => figs3 ((k.fdiv 65536).fmod 256).toNat.toUInt8 ((k.fdiv 256).fmod 256).toNat.toUInt8 (k.fmod 256).toNat.toUInt8).flatten
theorem longOf_length (ns : List Int) : (longOf ns).length = 4 * ns.length := by
  unfold longOf
  induction ns with
  | nil => rfl
  | cons k r ih =>
    rw [List.map_cons, List.flatten_cons, List.length_append, ih, List.length_cons]
    show 4 + _ = _
    omega
theorem figsOf_length (ns : List Int) : (figsOf ns).length = 4 * ns.length := by
  unfold figsOf
  induction ns with
  | nil => rfl
  | cons k r ih =>
    rw [List.map_cons, List.flatten_cons, List.length_append, ih, List.length_cons]
    show 4 + _ = _
    omega
theorem figsOf_mem {ns : List Int} : ∀ f ∈ figsOf ns, 0 ≤ f ∧ f < 64 := by
  intro f hf
  obtain ⟨l, hl, hf⟩ := List.mem_flatten.mp hf
  obtain ⟨k, _, rfl⟩ := List.mem_map.mp hl
  simp only [figs3, List.mem_cons, List.not_mem_nil, or_false] at hf
  omega
theorem in_at {h₀ h : Heap} {L l : Addr} {o : Obj} {news : List (Addr × Obj)} (N : News h₀ L h news) (hm : (l, o) ∈ news) : h.get? l = some o := (N _ hm).1
section
variable {w : World} {dp un : Nat} {gd : Option (List Code)} {cn : Str} {cs : Scope} {a : Addr} {ccd : Value} {cl : List (Str × Addr)} {outer : List Env} {A₀ : Around} {base h₀ : Heap} {L : Addr} {m mg mb : Str → Option Value} {s : Shared} {Q E : Value → Shared → Prop}
  {p : Program} {loose : List Str} {mean : ExcName → Option Value}
variable {news : List (Addr × Obj)} {f l c : Addr} {nm ql : Str} {p1 p2 q1 q2 q3 q4 q5 : Pos} {pm ct : Value} {oc : Obj} {vs0 : Array Value} {t2 tq : Tok} {ys : List Value} {ns : List Int}
theorem lamAdd_at {h : Heap} (hf : h.get? f = some (kla_obj nm ql (lamPar p1 p2) (.BinOp (.Name "a" q1) .Add (.Name "b" q2) q3) lamScope [] pm c ct)) (hc : h.get? c = some oc) (hdc : oc.data = .fields vs0) (hv : vs0[1]? = some (.str ql tq)) : LamAdd w f h := by
  intro dp un gd cn cs a ccd cl outer A₀ base h₀ L m mg mb s Q E p loose mean x y tx ty hk B F X T _ hd hu hz hret
  refine wpAny_call (add_run (by ktr_room) (X.keeps F.keep) (hk _ _ hf) (hk _ _ hc) hdc hv (by simpa using hz) fun h' t' tk' K => ?_)
  simpa using hret t' h' tk' K
theorem lamMul_at {h : Heap} (hf : h.get? f = some (kla_obj nm ql (lamPar p1 p2) (.BinOp (.BinOp (.Name "a" q1) .Mult (.Constant (.int 256) t2 q2) q3) .Add (.Name "b" q4) q5) lamScope [] pm c ct)) (hc : h.get? c = some oc) (hdc : oc.data = .fields vs0) (hv : vs0[1]? = some (.str ql tq)) : LamMul w f h := by
  intro dp un gd cn cs a ccd cl outer A₀ base h₀ L m mg mb s Q E p loose mean x y tx ty hk B F X T _ hd hu hz hret
  exact wpAny_call (mul_run (by ktr_room) (X.keeps F.keep) (hk _ _ hf) (hk _ _ hc) hdc hv fun h' t' tk' K => hret t' h' tk' K)
theorem fnAt_at {h : Heap} {params : Arguments} {body : Expr} {scope : Scope} (hf : h.get? f = some (kla_obj nm ql params body scope [] pm c ct)) : FnAt f h := ⟨_, _, _, _, hf⟩
theorem red_told : PySem.Challenge.rw_pu0025_01.foot = PySem.Challenge.rw_pu0025_01.foot → Below A₀ base outer h₀ → Fr h₀ L s.heap m → (Mine01.hd.heap_1 w.params).In h₀ → Top p loose mean mg mb h₀ → cs.kind = .function → dp + 15 < recursionLimit → un + 120 < cLine → News h₀ L s.heap news → (f, kla_obj nm ql (lamPar p1 p2) (.BinOp (.Name "a" q1) .Add (.Name "b" q2) q3) lamScope [] pm c ct) ∈ news → (c, oc) ∈ news → oc.data = .fields vs0 → vs0[1]? = some (.str ql tq) →
    (l, LCg.lst ys) ∈ news → BytesAre ys (ns.map encOf) → 0 < ns.length → ns.length ≤ 12 →
    (∀ t' h' tk', Keeps s.heap h' → Q (.bytes (longOf ns).toArray t') { s with heap := h', toks := tk' }) →
    wpAny (model PySem.Challenge.rw_pu0025_01.row.prog w) (ktrTop dp un gd cn cs L a ccd cl outer) (call (.ref 145) [.ref f, .ref l]) Q E s := by
  intro hfoot B F X T hk hd hu N hf hc hdc hv hl hB h0 h1 hret
  cases ns with
  | nil => cases h0
  | cons k kr =>
    refine reduceB_spec hfoot B F X T hk hd hu (lamAdd_at (in_at N hf) (in_at N hc) hdc hv) (fnAt_at (in_at N hf)) ⟨_, in_at N hl, rfl, _, rfl⟩ hB ?_ hret
    show (longOf (k :: kr)).length ≤ 1000
    rw [longOf_length]
    omega
theorem redI_told {lb : List UInt8} {tb t0 : Tok} : PySem.Challenge.rw_pu0025_01.foot = PySem.Challenge.rw_pu0025_01.foot → Below A₀ base outer h₀ → Fr h₀ L s.heap m → (Mine01.hd.heap_1 w.params).In h₀ → Top p loose mean mg mb h₀ → cs.kind = .function → dp + 15 < recursionLimit → un + 120 < cLine → News h₀ L s.heap news → (f, kla_obj nm ql (lamPar p1 p2) (.BinOp (.BinOp (.Name "a" q1) .Mult (.Constant (.int 256) t2 q2) q3) .Add (.Name "b" q4) q5) lamScope [] pm c ct) ∈ news → (c, oc) ∈ news → oc.data = .fields vs0 → vs0[1]? = some (.str ql tq) →
    lb.length ≤ 1000 → (∀ t' h' tk', Keeps s.heap h' → Q (.int (num256 lb) t') { s with heap := h', toks := tk' }) →
    wpAny (model PySem.Challenge.rw_pu0025_01.row.prog w) (ktrTop dp un gd cn cs L a ccd cl outer) (call (.ref 145) [.ref f, .bytes lb.toArray tb, .int 0 t0]) Q E s := by
  intro hfoot B F X T hk hd hu N hf hc hdc hv h1 hret
  exact reduceI_spec hfoot B F X T hk hd hu (lamMul_at (in_at N hf) (in_at N hc) hdc hv) (fnAt_at (in_at N hf)) h1 hret
end
end Mine
end
section
open PySem PySem.W PyProof.Rows PySem.Spec PySem.Calls
set_option maxRecDepth 100000
namespace Mine
theorem in_new {h₀ h : Heap} {L l : Addr} {o : Obj} {news : List (Addr × Obj)} (N : News h₀ L h news) (hm : (l, o) ∈ news) : h₀.get? l = none := (N _ hm).2.2
/-- the medians of the writings -/
def LowIs (ns : List Int) (i : Nat) (x : Int) : Prop := x ∈ ns ∧ ∃ ms : List (List UInt8), ms.Perm (ns.map encOf) ∧ ms.Pairwise (fun a b => nk a ≤ nk b) ∧ ms.getD i [] = encOf x
theorem low_ex {ns : List Int} {i : Nat} {ms : List (List UInt8)} (hp : ms.Perm (ns.map encOf)) (hs : ms.Pairwise (fun a b => nk a ≤ nk b)) (hi : i < ns.length) : ∃ x, LowIs ns i x ∧ ms.getD i [] = encOf x := by
  have hl : i < ms.length := by rw [hp.length_eq, List.length_map]; exact hi
  have hm : ms.getD i [] ∈ ns.map encOf := by
    rw [List.getD_eq_getElem?_getD, List.getElem?_eq_getElem hl]
    exact hp.mem_iff.mp (List.getElem_mem hl)
  obtain ⟨x, hx, e⟩ := List.mem_map.mp hm
  exact ⟨x, ⟨hx, ms, hp, hs, e.symm⟩, e.symm⟩
/-- what the decoder makes of one number's writing -/
def figsE (k : Int) : List Int := figs3 ((k.fdiv 65536).fmod 256).toNat.toUInt8 ((k.fdiv 256).fmod 256).toNat.toUInt8 (k.fmod 256).toNat.toUInt8
def decOne (k : Int) : List UInt8 := (dst (figsE k)).2.2.map fun n => n.toNat.toUInt8
theorem figsE_mem {k : Int} : ∀ f ∈ figsE k, 0 ≤ f ∧ f < 64 := by
  intro f hf
  simp only [figsE, figs3, List.mem_cons, List.not_mem_nil, or_false] at hf
  omega
theorem figsE_len (k : Int) : (figsE k).length = 4 := rfl
theorem encOf_figs (k : Int) : encOf k = (figsE k).map sgB := rfl
/-- what the first call of told leaves behind: its table, the lambdas' codes, the class statement's -/
structure FullC where
  k1 : Addr
  k2 : Addr
  oc1 : Obj
  oc2 : Obj
  vc : Nat → Value
  v1 : Nat → Value
  v2 : Nat → Value
  tq : Nat
  t1 : Nat
  t2 : Nat
  cc : Nat
  tt : Nat
  ms : Nat → Nat
abbrev lamTab (k1 k2 : Addr) : Array Value := #[] ++ #[rawInt ((215 : Nat) : Int), rawInt ((67 : Nat) : Int), Value.ref k1] ++ #[rawInt ((217 : Nat) : Int), rawInt ((27 : Nat) : Int), Value.ref k2]
def FullC.objs (c : FullC) : List (Addr × Obj) := (164, tabObj (lamTab c.k1 c.k2)) :: (c.k1, c.oc1) :: (c.k2, c.oc2) :: cdObjs c.vc c.v1 c.v2 c.tq c.t1 c.t2 c.cc c.tt c.ms
/-- the code of a lambda of told -/
def LamCode (o : Obj) : Prop := ∃ vs : Array Value, o.data = .fields vs ∧ ∃ t, vs[1]? = some (.str ((Str.ofString "_law_told" ++ Str.ofString ".<locals>.") ++ Str.ofString "<lambda>") t)
theorem told_end {h₀ h : Heap} {L : Addr} {a1 a2 a4 a6 a9 k1 k2 R D : Addr} {o1 o2 o4 o6 o9 oc1 oc2 : Obj} {bs : Array UInt8} {u1 u2 u3 : Tok} {x y : Int} {n c2 : Nat} {out : List Value} {vc v1 v2 : Nat → Value} {tq t1 t2 cc tt : Nat} {ms : Nat → Nat}
    (N : News h₀ L h ((a1, o1) :: (a2, o2) :: (k2, oc2) :: (a4, o4) :: (R, W.listOf ((#[Value.ref D, Value.bytes bs u1].push (.int x u2)).push (.int y u3)) n) :: (a6, o6) :: (k1, oc1) :: (D, W.listOf out.toArray c2) :: (a9, o9) :: (164, tabObj (lamTab k1 k2)) :: cdObjs vc v1 v2 tq t1 t2 cc tt ms)) :
    h.get? R = some (W.listOf (List.toArray [.ref D, .bytes bs u1, .int x u2, .int y u3]) n) ∧ h.get? D = some (W.listOf out.toArray c2) ∧ h₀.get? R = none ∧ h₀.get? D = none ∧
      ∀ p ∈ FullC.objs ⟨k1, k2, oc1, oc2, vc, v1, v2, tq, t1, t2, cc, tt, ms⟩, h.get? p.1 = some p.2 ∧ h₀.get? p.1 = none := by
  have g : ∀ p ∈ ((a1, o1) :: (a2, o2) :: (k2, oc2) :: (a4, o4) :: (R, W.listOf ((#[Value.ref D, Value.bytes bs u1].push (.int x u2)).push (.int y u3)) n) :: (a6, o6) :: (k1, oc1) :: (D, W.listOf out.toArray c2) :: (a9, o9) :: (164, tabObj (lamTab k1 k2)) :: cdObjs vc v1 v2 tq t1 t2 cc tt ms : List (Addr × Obj)), h.get? p.1 = some p.2 ∧ h₀.get? p.1 = none :=
    fun p hp => ⟨(N p hp).1, (N p hp).2.2⟩
  unfold FullC.objs
  dsimp only
  generalize cdObjs vc v1 v2 tq t1 t2 cc tt ms = cds at g ⊢
  simp only [List.forall_mem_cons] at g
  obtain ⟨_, _, g3, _, g5, _, g7, g8, _, g10, g11⟩ := g
  refine ⟨by simpa using g5.1, g8.1, g5.2, g8.2, ?_⟩
  exact List.forall_mem_cons.mpr ⟨g10, List.forall_mem_cons.mpr ⟨g7, List.forall_mem_cons.mpr ⟨g3, g11⟩⟩⟩
def FullC.Ok (c : FullC) : Prop := LamCode c.oc1 ∧ LamCode c.oc2
/-- the second field of an object -/
def fld1 (o : Obj) : Option Value := match o.data with
  | .fields vs => vs[1]?
  | _ => none
theorem get_apart {h : Heap} {a b : Nat} {o1 o2 : Obj} (e1 : h.get? a = some o1) (e2 : h.get? b = some o2) (n : fld1 o1 ≠ fld1 o2) : a ≠ b := fun q => by
  rw [q, e2] at e1
  cases e1
  exact n rfl
theorem lamCode_fld {o : Obj} (h : LamCode o) : ∃ t, fld1 o = some (.str ((Str.ofString "_law_told" ++ Str.ofString ".<locals>.") ++ Str.ofString "<lambda>") t) := by
  obtain ⟨vs, d, t, e⟩ := h
  exact ⟨t, by unfold fld1; rw [d]; exact e⟩
theorem full_cds {c : FullC} {h : Heap} (hc : ∀ p ∈ c.objs, h.get? p.1 = some p.2) (ok : c.Ok) : ∀ p ∈ cdObjs c.vc c.v1 c.v2 c.tq c.t1 c.t2 c.cc c.tt c.ms, h.get? p.1 = some p.2 ∧ p.1 ∉ [164, c.k1, c.k2] := by
  have g0 := hc _ (.head _)
  have g1 := hc _ (.tail _ (.head _))
  have g2 := hc _ (.tail _ (.tail _ (.head _)))
  obtain ⟨u1, e1⟩ := lamCode_fld ok.1
  obtain ⟨u2, e2⟩ := lamCode_fld ok.2
  have key : ∀ p ∈ cdObjs c.vc c.v1 c.v2 c.tq c.t1 c.t2 c.cc c.tt c.ms, (∀ x u, fld1 p.2 = some (.str x u) → x ≠ ((Str.ofString "_law_told" ++ Str.ofString ".<locals>.") ++ Str.ofString "<lambda>")) ∧ fld1 p.2 ≠ some (.int 67 0) := by
    unfold cdObjs
    simp only [List.forall_mem_cons]
    refine ⟨⟨fun x u e => ?_, ?_⟩, ⟨fun x u e => ?_, ?_⟩, ⟨fun x u e => ?_, ?_⟩, ⟨fun x u e => ?_, ?_⟩, ⟨fun x u e => ?_, ?_⟩, List.forall_mem_nil _⟩
    all_goals first
      | (injection e with e; injection e with e _; rw [← e]; decide)
      | (intro e; injection e with e; injection e with e; exact absurd e (by decide))
      | (injection e with e; cases e)
      | (intro e; injection e with e; cases e)
  intro p hp
  have hp' := hc p (.tail _ (.tail _ (.tail _ hp)))
  obtain ⟨q1, q2⟩ := key p hp
  refine ⟨hp', fun z => ?_⟩
  simp only [List.mem_cons, List.not_mem_nil, or_false] at z
  rcases z with z | z | z
  · exact get_apart hp' g0 (fun e => q2 (e.trans rfl)) z
  · exact get_apart hp' g1 (fun e => q1 _ _ (e.trans e1) rfl) z
  · exact get_apart hp' g2 (fun e => q1 _ _ (e.trans e2) rfl) z
theorem hid_none {H h : Heap} {as : List Addr} {R : Addr} {o : Obj} (e : h.get? R = some o) (f : fld1 o = none) (a : ∀ a ∈ as, ∃ oa, h.get? a = some oa ∧ fld1 oa ≠ none) (z : (hideAll H as).get? R = none) : H.get? R = none := by
  have hn : R ∉ as := fun hm => by
    obtain ⟨oa, e2, n⟩ := a R hm
    rw [e] at e2
    cases e2
    exact n f
  cases q : H.get? R with
  | none => rfl
  | some o' => rw [hideAll_get _ q hn] at z; cases z
theorem told_end2 {h₀ H h : Heap} {L L' : Addr} {a1 a2 a3 a5 a7 k1 k2 R D : Addr} {o1 o2 o3 o5 o7 oc1 oc2 : Obj} {bs : Array UInt8} {u1 u2 u3 : Tok} {x y : Int} {n c2 : Nat} {out : List Value} {m : Str → Option Value}
    (N : News (hideAll H [164, k1, k2]) L h ((a1, o1) :: (a2, o2) :: (a3, o3) :: (R, W.listOf ((#[Value.ref D, Value.bytes bs u1].push (.int x u2)).push (.int y u3)) n) :: (a5, o5) :: (D, W.listOf out.toArray c2) :: (a7, o7) :: [(164, tabObj (lamTab k1 k2)), (k1, oc1), (k2, oc2)]))
    (F : Fr (hideAll H [164, k1, k2]) L h m) (N0 : News h₀ L' H [(164, tabObj (lamTab k1 k2)), (k1, oc1), (k2, oc2)]) (l1 : LamCode oc1) (l2 : LamCode oc2) :
    Keeps H h ∧ h.get? R = some (W.listOf (List.toArray [.ref D, .bytes bs u1, .int x u2, .int y u3]) n) ∧ h.get? D = some (W.listOf out.toArray c2) ∧ H.get? R = none ∧ H.get? D = none := by
  have g : ∀ p ∈ ((a1, o1) :: (a2, o2) :: (a3, o3) :: (R, W.listOf ((#[Value.ref D, Value.bytes bs u1].push (.int x u2)).push (.int y u3)) n) :: (a5, o5) :: (D, W.listOf out.toArray c2) :: (a7, o7) :: [(164, tabObj (lamTab k1 k2)), (k1, oc1), (k2, oc2)] : List (Addr × Obj)), h.get? p.1 = some p.2 ∧ (hideAll H [164, k1, k2]).get? p.1 = none :=
    fun p hp => ⟨(N p hp).1, (N p hp).2.2⟩
  simp only [List.forall_mem_cons] at g
  obtain ⟨_, _, _, g4, _, g6, _, g8, g9, g10, _⟩ := g
  obtain ⟨w1, e1⟩ := lamCode_fld l1
  obtain ⟨w2, e2⟩ := lamCode_fld l2
  have n1 := (N0 _ (.head _)).1
  have n2 := (N0 _ (.tail _ (.head _))).1
  have n3 := (N0 _ (.tail _ (.tail _ (.head _)))).1
  have hid : ∀ a ∈ [164, k1, k2], ∃ oa, h.get? a = some oa ∧ fld1 oa ≠ none := by
    intro a ha
    simp only [List.mem_cons, List.not_mem_nil, or_false] at ha
    rcases ha with rfl | rfl | rfl
    · exact ⟨_, g8.1, fun e => by cases e⟩
    · exact ⟨_, g9.1, by rw [e1]; exact fun e => by cases e⟩
    · exact ⟨_, g10.1, by rw [e2]; exact fun e => by cases e⟩
  refine ⟨fun b o e => ?_, by simpa using g4.1, g6.1, hid_none g4.1 rfl hid g4.2, hid_none g6.1 rfl hid g6.2⟩
  by_cases hb : b ∈ [164, k1, k2]
  · simp only [List.mem_cons, List.not_mem_nil, or_false] at hb
    rcases hb with rfl | rfl | rfl
    · rw [n1] at e; cases e; exact g8.1
    · rw [n2] at e; cases e; exact g9.1
    · rw [n3] at e; cases e; exact g10.1
  · exact F.keep _ _ (hideAll_get _ e hb)
section
variable {w : World} {dp un : Nat} {gd : Option (List Code)} {cn : Str} {cs : Scope} {a : Addr} {ccd : Value} {cl : List (Str × Addr)} {outer : List Env} {A₀ : Around} {base h₀ : Heap} {L : Addr} {m mg mb : Str → Option Value} {s : Shared} {Q E : Value → Shared → Prop}
  {p : Program} {loose : List Str} {mean : ExcName → Option Value}
variable {news news' : List (Addr × Obj)} {f l C : Addr} {vs : List Value} {ns : List Int}
theorem cmp_size (X : (Mine01.hd.heap_1 w.params).In s.heap) : ∃ k, s.heap.objs.size = k + 100 := by
  have h1 : (184 : Nat) < s.heap.objs.size := Heap.lt_size (X 184 _ rfl)
  exact ⟨s.heap.objs.size - 100, by omega⟩
theorem key_first : PySem.Challenge.rw_pu0025_01.foot = PySem.Challenge.rw_pu0025_01.foot → Below A₀ base outer h₀ → Fr h₀ L s.heap m → (Mine01.hd.heap_1 w.params).In h₀ → Top p loose mean mg mb h₀ → cs.kind = .function → dp + 15 < recursionLimit → un + 120 < cLine → BootAt w.params h₀ → CodeHd h₀ (135) (131) → News h₀ L s.heap news → (131, tabObj #[]) ∈ news → (∀ p ∈ news', p ∈ news ∧ p.1 ≠ (131 : Nat)) →
    (∀ C h' tk' (vc v1 v2 : Nat → Value) (tq t1 t2 cc tt : Nat) (ms : Nat → Nat), KeyAt w.params h' C f → Fr h₀ L h' m → News h₀ L h' (news' ++ cdObjs vc v1 v2 tq t1 t2 cc tt ms) →
      (∀ p ∈ news, p.1 < tt) → (∀ p ∈ news, p.1 < cc) → (∀ p ∈ news, p.1 < ms 1) → (∀ p ∈ news, p.1 < ms 2) → tt < cc → tt < ms 1 → tt < ms 2 → cc < ms 1 → cc < ms 2 → ms 1 < ms 2 → Q (.ref C) { s with heap := h', toks := tk' }) →
    wpAny (model PySem.Challenge.rw_pu0025_01.row.prog w) (ktrTop dp un gd cn cs L a ccd cl outer) (call (.ref 136) [.ref f]) Q E s := by
  intro _ B F X T _ hd hu hb hc N h23 hsub hret
  have hX := X.keeps F.keep
  obtain ⟨k, hk⟩ := cmp_size hX
  have h23' := (N _ h23).1
  refine wpAny_call (cls_made f k (by ktr_room) hk hX (hb.out.keeps F.keep) (fun a vs e => ?_) fun h' tk vc v1 v2 tq t1 t2 K keep cds => ?_)
  · simp only [PySem.W.X.chLook] at e
    split at e
    · rename_i q
      cases e
      have q := Nat.eq_of_beq_eq_true q
      subst q
      exact ⟨_, (hc.keeps F.keep).tab h23'⟩
    · cases e
  · have lt : ∀ (j : Nat), ∀ p ∈ news, p.1 < k + 100 + j := fun j p hp => by
      have := Heap.lt_size (N p hp).1
      rw [hk] at this
      exact Nat.lt_of_lt_of_le this (Nat.le_add_right _ _)
    have fr : ∀ (j : Nat), h₀.get? (k + 100 + j) = none ∧ k + 100 + j ≠ L := fun j => by
      constructor
      · cases q : h₀.get? (k + 100 + j) with
        | none => rfl
        | some o => have := Heap.lt_size (F.keep _ _ q); rw [hk] at this; exact absurd this (Nat.not_lt.mpr (Nat.le_add_right _ _))
      · have := F.ns.lt
        rw [hk] at this
        exact Nat.ne_of_gt (Nat.lt_of_lt_of_le this (Nat.le_add_right _ _))
    refine hret _ _ _ vc v1 v2 tq t1 t2 (k + 100 + 7) (k + 100 + 6) (fun j => k + 100 + mIdx j) K ?_ ?_ (lt 6) (lt 7) (lt 15) (lt 23) (by omega) (Nat.add_lt_add_left (by decide) _) (Nat.add_lt_add_left (by decide) _) (Nat.add_lt_add_left (by decide) _) (Nat.add_lt_add_left (by decide) _) (Nat.add_lt_add_left (by decide) _)
    · obtain ⟨oL, a1, a2, hL, a3⟩ := F.ns
      exact ⟨⟨oL, a1, a2, keep _ _ hL (fun e => (N _ h23).2.1 e.symm), a3⟩, fun b o e => keep _ _ (F.keep b o e) (fun q => by rw [q, (N _ h23).2.2] at e; cases e), F.above⟩
    · intro p hp
      rcases List.mem_append.mp hp with hp | hp
      · obtain ⟨a1, a2⟩ := hsub p hp
        exact ⟨keep _ _ (N p a1).1 a2, (N p a1).2⟩
      · refine ⟨cds p hp, ?_⟩
        rcases List.mem_cons.mp hp with rfl | hp
        · exact (N _ h23).2
        rcases List.mem_cons.mp hp with rfl | hp
        · exact ⟨(fr 7).2, (fr 7).1⟩
        rcases List.mem_cons.mp hp with rfl | hp
        · exact ⟨(fr 6).2, (fr 6).1⟩
        rcases List.mem_cons.mp hp with rfl | hp
        · exact ⟨(fr 15).2, (fr 15).1⟩
        rcases List.mem_cons.mp hp with rfl | hp
        · exact ⟨(fr 23).2, (fr 23).1⟩
        cases hp
theorem key_firstL : PySem.Challenge.rw_pu0025_01.foot = PySem.Challenge.rw_pu0025_01.foot → Below A₀ base outer h₀ → Fr h₀ L s.heap m → (Mine01.hd.heap_1 w.params).In h₀ → Top p loose mean mg mb h₀ → cs.kind = .function → dp + 15 < recursionLimit → un + 120 < cLine → BootAt w.params h₀ → CodeHd h₀ (135) (131) → News h₀ L s.heap news → (131, tabObj #[]) ∈ news → (∀ p ∈ news.dropLast, p ∈ news ∧ p.1 ≠ (131 : Nat)) →
    (∀ C h' tk' (vc v1 v2 : Nat → Value) (tq t1 t2 cc tt : Nat) (ms : Nat → Nat), KeyAt w.params h' C f → Fr h₀ L h' m → News h₀ L h' (news.dropLast ++ cdObjs vc v1 v2 tq t1 t2 cc tt ms) →
      (∀ p ∈ news, p.1 < tt) → (∀ p ∈ news, p.1 < cc) → (∀ p ∈ news, p.1 < ms 1) → (∀ p ∈ news, p.1 < ms 2) → tt < cc → tt < ms 1 → tt < ms 2 → cc < ms 1 → cc < ms 2 → ms 1 < ms 2 → Q (.ref C) { s with heap := h', toks := tk' }) →
    wpAny (model PySem.Challenge.rw_pu0025_01.row.prog w) (ktrTop dp un gd cn cs L a ccd cl outer) (call (.ref 136) [.ref f]) Q E s := key_first
theorem key_again : PySem.Challenge.rw_pu0025_01.foot = PySem.Challenge.rw_pu0025_01.foot → Below A₀ base outer h₀ → Fr h₀ L s.heap m → (Mine01.hd.heap_1 w.params).In h₀ → Top p loose mean mg mb h₀ → cs.kind = .function → dp + 15 < recursionLimit → un + 120 < cLine → BootAt w.params h₀ → ∀ {vc v1 v2 : Nat → Value} {tq t1 t2 cc tt : Nat} {ms : Nat → Nat}, (∀ p ∈ cdObjs vc v1 v2 tq t1 t2 cc tt ms, s.heap.get? p.1 = some p.2) →
    (∀ C h' tk', KeyAt w.params h' C f → Keeps s.heap h' → Q (.ref C) { s with heap := h', toks := tk' }) →
    wpAny (model PySem.Challenge.rw_pu0025_01.row.prog w) (ktrTop dp un gd cn cs L a ccd cl outer) (call (.ref 136) [.ref f]) Q E s := by
  intro _ B F X T _ hd hu hb vc v1 v2 tq t1 t2 cc tt ms hcd hret
  have hX := X.keeps F.keep
  obtain ⟨k, hk⟩ := cmp_size hX
  exact wpAny_call (cls_again f k (by ktr_room) hk hX (hb.out.keeps F.keep) hcd fun h' tk K keep => hret _ _ _ K keep)
theorem sortC_told : PySem.Challenge.rw_pu0025_01.foot = PySem.Challenge.rw_pu0025_01.foot → Below A₀ base outer h₀ → Fr h₀ L s.heap m → (Mine01.hd.heap_1 w.params).In h₀ → Top p loose mean mg mb h₀ → cs.kind = .function → dp + 100 < recursionLimit → un + 600 < cLine → s.heap.IsList l vs.toArray → IntsAre vs ns → ns.length < 64 → KeyAt w.params s.heap C 162 →
    (∀ D h' tk' out ms c, Keeps s.heap h' → s.heap.get? D = none → h'.get? D = some (W.listOf (List.toArray out) c) → IntsAre out ms → ms.Perm ns → ms.Pairwise (fun x y => keyP x ≤ keyP y) → Q (.ref D) { s with heap := h', toks := tk' }) →
    wpAny (model PySem.Challenge.rw_pu0025_01.row.prog w) (ktrTop dp un gd cn cs L a ccd cl outer) (call (.builtin "sorted") [.ref l] [(Str.ofString "key", .ref C)]) Q E s := by
  intro _ B F X T hk hd hu hl hI h64 K hret
  refine sorted_cmp (un := 400) (by show dp + 80 < _; omega) (by show un + 1 + 1 + 400 + 20 < _; omega) (Ctx.of_top B F X T hk).in1.in1 (X.keeps F.keep) K (cmpIs_compared (X.keeps F.keep)) hl hI h64 (fun _ _ => True.intro) fun D h' tk' out ms c keep hn hD hO hp hs => ?_
  exact hret D h' tk' out.toList ms c keep hn (by simpa using hD) hO hp hs
theorem lowB_told {ys : List Value} : PySem.Challenge.rw_pu0025_01.foot = PySem.Challenge.rw_pu0025_01.foot → Below A₀ base outer h₀ → Fr h₀ L s.heap m → (Mine01.hd.heap_1 w.params).In h₀ → Top p loose mean mg mb h₀ → cs.kind = .function → dp + 15 < recursionLimit → un + 120 < cLine → News h₀ L s.heap news → (l, LCg.lst ys) ∈ news → BytesAre ys (ns.map encOf) → 0 < ns.length → ns.length ≤ 12 →
    (∀ x t' h' tk', LowIs ns ((ns.length - 1) / 2) x → Keeps s.heap h' → Q (.bytes (encOf x).toArray t') { s with heap := h', toks := tk' }) →
    wpAny (model PySem.Challenge.rw_pu0025_01.row.prog w) (ktrTop dp un gd cn cs L a ccd cl outer) (call (.ref 41) [.ref l]) Q E s := by
  intro hfoot B F X T hk hd hu N hl hB h0 h1 hret
  have e : (ns.map encOf).length = ns.length := List.length_map ..
  refine lowB_spec hfoot B F X T hk hd hu ⟨_, (N _ hl).1, rfl, _, rfl⟩ hB (by omega) (by omega) fun ms t' h' tk' hp hs K => ?_
  rw [e]
  obtain ⟨x, hx, ex⟩ := low_ex (i := (ns.length - 1) / 2) hp hs (by omega)
  rw [ex]
  exact hret x t' h' tk' hx K
theorem highB_told {ys : List Value} : PySem.Challenge.rw_pu0025_01.foot = PySem.Challenge.rw_pu0025_01.foot → Below A₀ base outer h₀ → Fr h₀ L s.heap m → (Mine01.hd.heap_1 w.params).In h₀ → Top p loose mean mg mb h₀ → cs.kind = .function → dp + 15 < recursionLimit → un + 120 < cLine → News h₀ L s.heap news → (l, LCg.lst ys) ∈ news → BytesAre ys (ns.map encOf) → 0 < ns.length → ns.length ≤ 12 →
    (∀ x t' h' tk', LowIs ns (ns.length / 2) x → Keeps s.heap h' → Q (.bytes (encOf x).toArray t') { s with heap := h', toks := tk' }) →
    wpAny (model PySem.Challenge.rw_pu0025_01.row.prog w) (ktrTop dp un gd cn cs L a ccd cl outer) (call (.ref 48) [.ref l]) Q E s := by
  intro hfoot B F X T hk hd hu N hl hB h0 h1 hret
  have e : (ns.map encOf).length = ns.length := List.length_map ..
  refine highB_spec hfoot B F X T hk hd hu ⟨_, (N _ hl).1, rfl, _, rfl⟩ hB (by omega) (by omega) fun ms t' h' tk' hp hs K => ?_
  rw [e]
  obtain ⟨x, hx, ex⟩ := low_ex (i := ns.length / 2) hp hs (by omega)
  rw [ex]
  exact hret x t' h' tk' hx K
theorem dec_told {tb : Tok} {x : Int} : PySem.Challenge.rw_pu0025_01.foot = PySem.Challenge.rw_pu0025_01.foot → Below A₀ base outer h₀ → Fr h₀ L s.heap m → (Mine01.hd.heap_1 w.params).In h₀ → Top p loose mean mg mb h₀ → cs.kind = .function → dp + 15 < recursionLimit → un + 120 < cLine →
    (∀ t' h' tk', Keeps s.heap h' → Q (.bytes (decOne x).toArray t') { s with heap := h', toks := tk' }) →
    wpAny (model PySem.Challenge.rw_pu0025_01.row.prog w) (ktrTop dp un gd cn cs L a ccd cl outer) (call (.ref 129) [.bytes (encOf x).toArray tb]) Q E s := by
  intro hfoot B F X T hk hd hu hret
  refine dec_spec hfoot B F X T hk hd hu figsE_mem (by rw [figsE_len]) (by rw [figsE_len]; decide) ?_ hret
  rw [encOf_figs, bInts_sg]
theorem decOne_length (x : Int) : (decOne x).length ≤ 1000 := by
  unfold decOne
  rw [List.length_map]
  have : ∀ (fs : List Int) (c : Int × Int × List Int), (fs.foldl dstep c).2.2.length ≤ c.2.2.length + fs.length := by
    intro fs
    induction fs with
    | nil => intro c; exact Nat.le_refl _
    | cons f r ih =>
      intro c
      have h := ih (dstep c f)
      have : (dstep c f).2.2.length ≤ c.2.2.length + 1 := by
        unfold dstep
        repeat' split
        all_goals simp only [List.length_append, List.length_singleton]; omega
      rw [List.foldl_cons, List.length_cons]
      omega
  have := this (figsE x) (0, 0, [])
  have e : (figsE x).length = 4 := rfl
  unfold dst
  simp only [List.length_nil] at this
  omega
end
end Mine
end
section
open PySem PySem.W PyProof.Rows PySem.Spec PySem.Calls
set_option maxRecDepth 100000
set_option maxHeartbeats 4000000
namespace Mine
section
variable {w : World} {dp un : Nat} {gd : Option (List Code)} {cn : Str} {cs : Scope} {a : Addr} {ccd : Value} {cl : List (Str × Addr)} {outer : List Env} {A₀ : Around} {base h₀ : Heap} {L : Addr} {m mg mb : Str → Option Value} {s : Shared} {Q E : Value → Shared → Prop}
  {p : Program} {loose : List Str} {mean : ExcName → Option Value}
theorem told_first {l : Addr} {vs : List Value} {ns : List Int} : PySem.Challenge.rw_pu0025_01.foot = PySem.Challenge.rw_pu0025_01.foot → Below A₀ base outer h₀ → Fr h₀ L s.heap m → (Mine01.hd.heap_1 w.params).In h₀ → Top p loose mean mg mb h₀ → cs.kind = .function → BootAt w.params h₀ → News h₀ L s.heap [(164, tabObj #[]), (131, tabObj #[])] → CodeHd h₀ 166 164 → CodeHd h₀ 135 131 → dp + 150 < recursionLimit → un + 800 < cLine →
    s.heap.IsList l vs.toArray → IntsAre vs ns → 0 < ns.length → ns.length ≤ 12 → 
    (∀ (R D : Addr) h' tk' (t1 t2 t3 : Tok) (out : List Value) ms x1 x2 c1 c2 (c : FullC), Keeps (hideAll s.heap [164, 131]) h' → h'.get? R = some (W.listOf (List.toArray [.ref D, .bytes (longOf ns).toArray t1, .int (num256 (decOne x1)) t2, .int (num256 (decOne x2)) t3]) c1) → h'.get? D = some (W.listOf (List.toArray out) c2) →
      (hideAll s.heap [164, 131]).get? R = none → (hideAll s.heap [164, 131]).get? D = none → IntsAre out ms → ms.Perm ns → ms.Pairwise (fun x y => keyP x ≤ keyP y) → LowIs ns ((ns.length - 1) / 2) x1 → LowIs ns (ns.length / 2) x2 →
      c.Ok → (∀ p ∈ c.objs, h'.get? p.1 = some p.2 ∧ (hideAll s.heap [164, 131]).get? p.1 = none) → Q (.ref R) { s with heap := h', toks := tk' }) →
    wpAny (model PySem.Challenge.rw_pu0025_01.row.prog w) (ktrTop dp un gd cn cs L a ccd cl outer) (call (.ref 167) [.ref l]) Q E s := by
  w_top off
  k_with_none
  k_with "exec Assign cons ListComp" => (k_here; k_dflt (refine LCg.Assign_ListComp_U (F₀ := by k_asm) (by rfl) (by with_unfolding_all rfl) (by with_unfolding_all rfl) (by decide) (by rfl) (by decide) (by rfl) (by rfl) (by rfl) ?_))
  k_with "CompSrc" => (k_here; k_dflt (refine LCg.CompSrc.base (by rfl) (by k_asm) (by k_asm) hl' (by rw [List.size_toArray, sizeLine_eq]; omega) ?_; intro g9; (refine' kb_ints encOf hI (fun k9 t9 hk9 I9 oI9 C9 oC9 D9 m9 ys9 h9 tk9 E9 hC9 hx9 F9 N9 off9 ne9 => ?_) ?_)); (all_goals (try (simp only [LCg.Off3, and_true] at off9))); (all_goals (try k_fold)))
  k_with "CompEnd" => ((rename News _ _ _ _ => nE'); (k_dflt (refine' LCg.CompEnd.intro (by assumption) nE' _ ?s9 ?o9 ?c9 ⟨rfl, _, rfl⟩)); (case s9 => k_dflt lcg_sub); (case o9 => k_dflt lcg_off); (case c9 => k_dflt lcg_src))
  k_with "call type:bytes" => (k_here; (with_reducible show wpAny _ _ (call (Value.type _) [Value.ref _]) _ _ _); k_dflt (refine' bytes_three ?N ?m rfl (fmod256 _) (fmod256 _) (fmod256 _) ?_; (case N => k_asm); (case m => k_mem)); intro h8 t8 tk8 K8; (have F8 := keepsFr (by k_asm) K8); (have N8 := keepsNews (by k_asm) K8); clear K8; (try dsimp only))
  k_with "call ref" => (k_here; (with_reducible show wpAny _ _ (call (Value.ref 121) [Value.bytes _ _]) _ _ _); (k_dflt (refine' enc_spec rfl ?k1 ?k2 ?k3 ?k4 ?kK ?kd ?ku ?_; (case k1 => k_asm); (case k2 => k_asm); (case k3 => k_asm); (case k4 => k_asm); (case kK => first | exact rfl | assumption); (case kd => ktr_room); (case ku => ktr_units))); intro t9 h9 tk9 K9; (have F9 := keepsFr (by k_asm) K9); (have N9 := keepsNews (by k_asm) K9); clear K9; (try dsimp only); (try k_fold))
  k_with "call ref" => (k_here; (with_reducible show wpAny _ _ (call (Value.ref 136) [Value.ref _] _) _ _ _); (k_dflt (refine' key_firstL rfl ?k1 ?k2 ?k3 ?k4 ?kK ?kd ?ku hb' hc2' ?kN ?k23 ?ks ?_; (case k1 => k_asm); (case k2 => k_asm); (case k3 => k_asm); (case k4 => k_asm); (case kK => first | exact rfl | assumption); (case kd => ktr_room); (case ku => ktr_units); (case kN => k_asm); (case k23 => k_mem); (case ks => (dsimp only [List.dropLast]; (repeat (first | exact List.forall_mem_nil _ | refine List.forall_mem_cons.mpr ⟨⟨by k_mem, by k_ne⟩, ?_⟩)))))); intro C9 h9 tk9 vc9 v19 v29 tq9 t19 t29 cc9 tt9 ms9 K9 F9 N9 l1 l2 l3 l4 n1 n2 n3 n4 n5 n6; (try dsimp only [cdObjs, List.dropLast, List.cons_append, List.nil_append] at N9); (try k_lt l1); (try k_lt l2); (try k_lt l3); (try k_lt l4))
  k_with "call builtin:sorted" => (k_here; (with_reducible show wpAny _ _ (call (Value.builtin "sorted") [Value.ref _] _) _ _ _); (k_dflt (refine' sortC_told rfl ?k1 ?k2 ?k3 ?k4 ?kK ?kd ?ku ?kl hI (by omega) (by assumption) ?_; (case k1 => k_asm); (case k2 => k_asm); (case k3 => k_asm); (case k4 => k_asm); (case kK => first | exact rfl | assumption); (case kd => ktr_room); (case ku => ktr_units); (case kl => first | assumption | is_list))); intro D9 h9 tk9 out9 ms9 c9 K9 n9 e9 Iord Pord Sord; (obtain ⟨F9, N9, o9⟩ := newsAdd (by k_asm) (by k_asm) K9 n9 e9); clear K9 n9 e9; (try simp only [Off1, and_true] at o9); (try dsimp only); (try k_fold))
  k_with "call ref" => (k_here; (with_reducible show wpAny _ _ (call (Value.ref 145) [Value.ref _, Value.ref _] _) _ _ _); (k_dflt (refine' red_told rfl ?k1 ?k2 ?k3 ?k4 ?kK ?kd ?ku ?kN ?kf ?kc ?d1 ?d2 ?kl (by assumption) h0 h1 ?_; (case k1 => k_asm); (case k2 => k_asm); (case k3 => k_asm); (case k4 => k_asm); (case kK => first | exact rfl | assumption); (case kd => ktr_room); (case ku => ktr_units); (case kN => k_asm); (case kf => k_mem); (case kc => k_mem); (case d1 => assumption); (case d2 => assumption); (case kl => k_mem))); intro t9 h9 tk9 K9; (have F9 := keepsFr (by k_asm) K9); (have N9 := keepsNews (by k_asm) K9); clear K9; (try dsimp only); (try k_fold))
  k_with "call ref" => (k_here; (with_reducible show wpAny _ _ (call (Value.ref 41) [Value.ref _] _) _ _ _); (k_dflt (refine' lowB_told rfl ?k1 ?k2 ?k3 ?k4 ?kK ?kd ?ku ?kN ?kl (by assumption) h0 h1 ?_; (case k1 => k_asm); (case k2 => k_asm); (case k3 => k_asm); (case k4 => k_asm); (case kK => first | exact rfl | assumption); (case kd => ktr_room); (case ku => ktr_units); (case kN => k_asm); (case kl => k_mem))); intro xlo t9 h9 tk9 Plo K9; (have F9 := keepsFr (by k_asm) K9); (have N9 := keepsNews (by k_asm) K9); clear K9; (try dsimp only); (try k_fold))
  k_with "call ref" => (k_here; (with_reducible show wpAny _ _ (call (Value.ref 48) [Value.ref _] _) _ _ _); (k_dflt (refine' highB_told rfl ?k1 ?k2 ?k3 ?k4 ?kK ?kd ?ku ?kN ?kl (by assumption) h0 h1 ?_; (case k1 => k_asm); (case k2 => k_asm); (case k3 => k_asm); (case k4 => k_asm); (case kK => first | exact rfl | assumption); (case kd => ktr_room); (case ku => ktr_units); (case kN => k_asm); (case kl => k_mem))); intro xhi t9 h9 tk9 Phi K9; (have F9 := keepsFr (by k_asm) K9); (have N9 := keepsNews (by k_asm) K9); clear K9; (try dsimp only); (try k_fold))
  k_with "call ref" => (k_here; (with_reducible show wpAny _ _ (call (Value.ref 129) [Value.bytes _ _] _) _ _ _); (k_dflt (refine' dec_told rfl ?k1 ?k2 ?k3 ?k4 ?kK ?kd ?ku ?_; (case k1 => k_asm); (case k2 => k_asm); (case k3 => k_asm); (case k4 => k_asm); (case kK => first | exact rfl | assumption); (case kd => ktr_room); (case ku => ktr_units))); intro t9 h9 tk9 K9; (have F9 := keepsFr (by k_asm) K9); (have N9 := keepsNews (by k_asm) K9); clear K9; (try dsimp only); (try k_fold))
  k_with "call ref" => (k_here; (with_reducible show wpAny _ _ (call (Value.ref 145) [Value.ref _, Value.bytes _ _, Value.int _ _] _) _ _ _); (k_dflt (refine' redI_told rfl ?k1 ?k2 ?k3 ?k4 ?kK ?kd ?ku ?kN ?kf ?kc ?d1 ?d2 (decOne_length _) ?_; (case k1 => k_asm); (case k2 => k_asm); (case k3 => k_asm); (case k4 => k_asm); (case kK => first | exact rfl | assumption); (case kd => ktr_room); (case ku => ktr_units); (case kN => k_asm); (case kf => k_mem); (case kc => k_mem); (case d1 => assumption); (case d2 => assumption))); intro t9 h9 tk9 K9; (have F9 := keepsFr (by k_asm) K9); (have N9 := keepsNews (by k_asm) K9); clear K9; (try dsimp only); (try k_fold))
  k_fill
  intro _ B F X T hk hb N hc1 hc2 hd hu hl hI h0 h1 hret
  k_dflt (refine' callN (K := Mine01.hd.heap_1 w.params) (news := [(164, tabObj #[]), (131, tabObj #[])]) (by assumption) (by assumption) (by assumption) (by assumption) (by assumption) rfl rfl (by assumption) ?k6 ?k7 ?k8 ?k9 ?kB ?c5 ?c2 ?c3 ?c4 ?_; (case k6 => k_is); (case k7 => k_is); (case k8 => ktr_room); (case k9 => first | exact BindsTo.of_eq rfl | exact binds_K (by k_in) rfl (by k_is) rfl rfl rfl); (case c5 => decide); (case kB => exact locs rfl); (case c2 => exact rfl); (case c3 => exact rfl); (case c4 => exact rfl))
  intro L' h' F' N' B' X' T' S'
  simp only [List.map_cons, List.map_nil] at F' N' B' X' T' S'
  have hc1' := hc1.keeps S'
  have hc2' := hc2.keeps S'
  have hb' : BootAt w.params (hideAll s.heap [164, 131]) := ⟨hb.out.keeps S'⟩
  have hl' : (hideAll s.heap [164, 131]).IsList l vs.toArray := by
    obtain ⟨o, e, q, r⟩ := hl
    refine ⟨o, hideAll_get _ e fun z => ?_, q, r⟩
    obtain ⟨p, hp, e2⟩ := List.mem_map.mp (show l ∈ ([(164, tabObj #[]), (131, tabObj #[])] : List (Addr × Obj)).map (·.1) from z)
    have := (N p hp).1
    rw [e2, e] at this
    rcases List.mem_cons.mp hp with rfl | hp
    · cases this; cases q
    · rw [List.mem_singleton.mp hp] at this; cases this; cases q
  have hlen := hI.length
  clear B F X T N hc1 hc2 hb S'
  k_steps
  rename Fr _ _ _ _ => fE'
  rename News _ _ _ _ => nE'
  obtain ⟨q1, q2, q3, q4, q5⟩ := told_end nE'
  exact hret _ _ _ _ _ _ _ _ _ _ _ _ _ _ fE'.keep q1 q2 q3 q4 Iord Pord Sord Plo Phi ⟨⟨_, by assumption, _, by assumption⟩, ⟨_, by assumption, _, by assumption⟩⟩ q5
end
end Mine
end
section
open PySem PySem.W PyProof.Rows PySem.Spec PySem.Calls
set_option maxRecDepth 100000
set_option maxHeartbeats 4000000
namespace Mine
section
variable {w : World} {dp un : Nat} {gd : Option (List Code)} {cn : Str} {cs : Scope} {a : Addr} {ccd : Value} {cl : List (Str × Addr)} {outer : List Env} {A₀ : Around} {base h₀ : Heap} {L : Addr} {m mg mb : Str → Option Value} {s : Shared} {Q E : Value → Shared → Prop}
  {p : Program} {loose : List Str} {mean : ExcName → Option Value}
theorem told_again {l : Addr} {vs : List Value} {ns : List Int} {c : FullC} : PySem.Challenge.rw_pu0025_01.foot = PySem.Challenge.rw_pu0025_01.foot → Below A₀ base outer h₀ → Fr h₀ L s.heap m → (Mine01.hd.heap_1 w.params).In h₀ → Top p loose mean mg mb h₀ → cs.kind = .function → BootAt w.params h₀ → News h₀ L s.heap [(164, tabObj (lamTab c.k1 c.k2)), (c.k1, c.oc1), (c.k2, c.oc2)] → (∀ p ∈ c.objs, s.heap.get? p.1 = some p.2) → c.Ok → CodeHd h₀ 166 164 → dp + 150 < recursionLimit → un + 800 < cLine →
    s.heap.IsList l vs.toArray → IntsAre vs ns → 0 < ns.length → ns.length ≤ 12 →
    (∀ (R D : Addr) h' tk' (t1 t2 t3 : Tok) (out : List Value) ms x1 x2 c1 c2, Keeps s.heap h' → h'.get? R = some (W.listOf (List.toArray [.ref D, .bytes (longOf ns).toArray t1, .int (num256 (decOne x1)) t2, .int (num256 (decOne x2)) t3]) c1) → h'.get? D = some (W.listOf (List.toArray out) c2) →
      s.heap.get? R = none → s.heap.get? D = none → IntsAre out ms → ms.Perm ns → ms.Pairwise (fun x y => keyP x ≤ keyP y) → LowIs ns ((ns.length - 1) / 2) x1 → LowIs ns (ns.length / 2) x2 → Q (.ref R) { s with heap := h', toks := tk' }) →
    wpAny (model PySem.Challenge.rw_pu0025_01.row.prog w) (ktrTop dp un gd cn cs L a ccd cl outer) (call (.ref 167) [.ref l]) Q E s := by
  w_top off
  k_with_none
  k_with "exec Assign cons ListComp" => (k_here; k_dflt (refine LCg.Assign_ListComp_U (F₀ := by k_asm) (by rfl) (by with_unfolding_all rfl) (by with_unfolding_all rfl) (by decide) (by rfl) (by decide) (by rfl) (by rfl) (by rfl) ?_))
  k_with "CompSrc" => (k_here; k_dflt (refine LCg.CompSrc.base (by rfl) (by k_asm) (by k_asm) hl' (by rw [List.size_toArray, sizeLine_eq]; omega) ?_; intro g9; (refine' kb_ints encOf hI (fun k9 t9 hk9 I9 oI9 C9 oC9 D9 m9 ys9 h9 tk9 E9 hC9 hx9 F9 N9 off9 ne9 => ?_) ?_)); (all_goals (try (simp only [LCg.Off3, and_true] at off9))); (all_goals (try k_fold)))
  k_with "CompEnd" => ((rename News _ _ _ _ => nE'); (k_dflt (refine' LCg.CompEnd.intro (by assumption) nE' _ ?s9 ?o9 ?c9 ⟨rfl, _, rfl⟩)); (case s9 => k_dflt lcg_sub); (case o9 => k_dflt lcg_off); (case c9 => k_dflt lcg_src))
  k_with "call type:bytes" => (k_here; (with_reducible show wpAny _ _ (call (Value.type _) [Value.ref _]) _ _ _); k_dflt (refine' bytes_three ?N ?m rfl (fmod256 _) (fmod256 _) (fmod256 _) ?_; (case N => k_asm); (case m => k_mem)); intro h8 t8 tk8 K8; (have F8 := keepsFr (by k_asm) K8); (have N8 := keepsNews (by k_asm) K8); clear K8; (try dsimp only))
  k_with "call ref" => (k_here; (with_reducible show wpAny _ _ (call (Value.ref 121) [Value.bytes _ _]) _ _ _); (k_dflt (refine' enc_spec rfl ?k1 ?k2 ?k3 ?k4 ?kK ?kd ?ku ?_; (case k1 => k_asm); (case k2 => k_asm); (case k3 => k_asm); (case k4 => k_asm); (case kK => first | exact rfl | assumption); (case kd => ktr_room); (case ku => ktr_units))); intro t9 h9 tk9 K9; (have F9 := keepsFr (by k_asm) K9); (have N9 := keepsNews (by k_asm) K9); clear K9; (try dsimp only); (try k_fold))
  k_with "call ref" => (k_here; (with_reducible show wpAny _ _ (call (Value.ref 136) [Value.ref _] _) _ _ _); (k_dflt (refine' key_again rfl ?k1 ?k2 ?k3 ?k4 ?kK ?kd ?ku hb' ?kcd ?_; (case k1 => k_asm); (case k2 => k_asm); (case k3 => k_asm); (case k4 => k_asm); (case kK => first | exact rfl | assumption); (case kd => ktr_room); (case ku => ktr_units); (case kcd => exact fun p hp => (by assumption : Fr (hideAll s.heap [164, k1, k2]) _ _ _).keep _ _ (hcd' p hp)))); intro C9 h9 tk9 KA9 K9; (have F9 := keepsFr (by k_asm) K9); (have N9 := keepsNews (by k_asm) K9); clear K9; (try dsimp only); (try k_fold))
  k_with "call builtin:sorted" => (k_here; (with_reducible show wpAny _ _ (call (Value.builtin "sorted") [Value.ref _] _) _ _ _); (k_dflt (refine' sortC_told rfl ?k1 ?k2 ?k3 ?k4 ?kK ?kd ?ku ?kl hI (by omega) (by assumption) ?_; (case k1 => k_asm); (case k2 => k_asm); (case k3 => k_asm); (case k4 => k_asm); (case kK => first | exact rfl | assumption); (case kd => ktr_room); (case ku => ktr_units); (case kl => first | assumption | is_list))); intro D9 h9 tk9 out9 ms9 c9 K9 n9 e9 Iord Pord Sord; (obtain ⟨F9, N9, o9⟩ := newsAdd (by k_asm) (by k_asm) K9 n9 e9); clear K9 n9 e9; (try simp only [Off1, and_true] at o9); (try dsimp only); (try k_fold))
  k_with "call ref" => (k_here; (with_reducible show wpAny _ _ (call (Value.ref 145) [Value.ref _, Value.ref _] _) _ _ _); (k_dflt (refine' red_told rfl ?k1 ?k2 ?k3 ?k4 ?kK ?kd ?ku ?kN ?kf ?kc ?d1 ?d2 ?kl (by assumption) h0 h1 ?_; (case k1 => k_asm); (case k2 => k_asm); (case k3 => k_asm); (case k4 => k_asm); (case kK => first | exact rfl | assumption); (case kd => ktr_room); (case ku => ktr_units); (case kN => k_asm); (case kf => k_mem); (case kc => k_mem); (case d1 => assumption); (case d2 => assumption); (case kl => k_mem))); intro t9 h9 tk9 K9; (have F9 := keepsFr (by k_asm) K9); (have N9 := keepsNews (by k_asm) K9); clear K9; (try dsimp only); (try k_fold))
  k_with "call ref" => (k_here; (with_reducible show wpAny _ _ (call (Value.ref 41) [Value.ref _] _) _ _ _); (k_dflt (refine' lowB_told rfl ?k1 ?k2 ?k3 ?k4 ?kK ?kd ?ku ?kN ?kl (by assumption) h0 h1 ?_; (case k1 => k_asm); (case k2 => k_asm); (case k3 => k_asm); (case k4 => k_asm); (case kK => first | exact rfl | assumption); (case kd => ktr_room); (case ku => ktr_units); (case kN => k_asm); (case kl => k_mem))); intro xlo t9 h9 tk9 Plo K9; (have F9 := keepsFr (by k_asm) K9); (have N9 := keepsNews (by k_asm) K9); clear K9; (try dsimp only); (try k_fold))
  k_with "call ref" => (k_here; (with_reducible show wpAny _ _ (call (Value.ref 48) [Value.ref _] _) _ _ _); (k_dflt (refine' highB_told rfl ?k1 ?k2 ?k3 ?k4 ?kK ?kd ?ku ?kN ?kl (by assumption) h0 h1 ?_; (case k1 => k_asm); (case k2 => k_asm); (case k3 => k_asm); (case k4 => k_asm); (case kK => first | exact rfl | assumption); (case kd => ktr_room); (case ku => ktr_units); (case kN => k_asm); (case kl => k_mem))); intro xhi t9 h9 tk9 Phi K9; (have F9 := keepsFr (by k_asm) K9); (have N9 := keepsNews (by k_asm) K9); clear K9; (try dsimp only); (try k_fold))
  k_with "call ref" => (k_here; (with_reducible show wpAny _ _ (call (Value.ref 129) [Value.bytes _ _] _) _ _ _); (k_dflt (refine' dec_told rfl ?k1 ?k2 ?k3 ?k4 ?kK ?kd ?ku ?_; (case k1 => k_asm); (case k2 => k_asm); (case k3 => k_asm); (case k4 => k_asm); (case kK => first | exact rfl | assumption); (case kd => ktr_room); (case ku => ktr_units))); intro t9 h9 tk9 K9; (have F9 := keepsFr (by k_asm) K9); (have N9 := keepsNews (by k_asm) K9); clear K9; (try dsimp only); (try k_fold))
  k_with "call ref" => (k_here; (with_reducible show wpAny _ _ (call (Value.ref 145) [Value.ref _, Value.bytes _ _, Value.int _ _] _) _ _ _); (k_dflt (refine' redI_told rfl ?k1 ?k2 ?k3 ?k4 ?kK ?kd ?ku ?kN ?kf ?kc ?d1 ?d2 (decOne_length _) ?_; (case k1 => k_asm); (case k2 => k_asm); (case k3 => k_asm); (case k4 => k_asm); (case kK => first | exact rfl | assumption); (case kd => ktr_room); (case ku => ktr_units); (case kN => k_asm); (case kf => k_mem); (case kc => k_mem); (case d1 => assumption); (case d2 => assumption))); intro t9 h9 tk9 K9; (have F9 := keepsFr (by k_asm) K9); (have N9 := keepsNews (by k_asm) K9); clear K9; (try dsimp only); (try k_fold))
  k_fill
  intro _ B F X T hk hb N hcs hok hc1 hd hu hl hI h0 h1 hret
  obtain ⟨k1, k2, oc1, oc2, vc, v1, v2, tq, t1, t2, cc, tt, ms⟩ := c
  obtain ⟨⟨ws1, d1, u1, e1⟩, ⟨ws2, d2, u2, e2⟩⟩ := hok
  dsimp only at N hcs d1 d2 ⊢
  have hcd := full_cds hcs ⟨⟨ws1, d1, u1, e1⟩, ⟨ws2, d2, u2, e2⟩⟩
  dsimp only at hcd
  clear hcs
  k_dflt (refine' callN (K := Mine01.hd.heap_1 w.params) (news := [(164, tabObj (lamTab k1 k2)), (k1, oc1), (k2, oc2)]) (by assumption) (by assumption) (by assumption) (by assumption) (by assumption) rfl rfl (by assumption) ?k6 ?k7 ?k8 ?k9 ?kB ?c5 ?c2 ?c3 ?c4 ?_; (case k6 => k_is); (case k7 => k_is); (case k8 => ktr_room); (case k9 => first | exact BindsTo.of_eq rfl | exact binds_K (by k_in) rfl (by k_is) rfl rfl rfl); (case c5 => decide); (case kB => exact locs rfl); (case c2 => exact rfl); (case c3 => exact rfl); (case c4 => exact rfl))
  intro L' h' F' N' B' X' T' S'
  simp only [List.map_cons, List.map_nil] at F' N' B' X' T' S'
  have hc1' := hc1.keeps S'
  have hb' : BootAt w.params (hideAll s.heap [164, k1, k2]) := ⟨hb.out.keeps S'⟩
  have hcd' : ∀ p ∈ cdObjs vc v1 v2 tq t1 t2 cc tt ms, (hideAll s.heap [164, k1, k2]).get? p.1 = some p.2 := fun p hp => hideAll_get _ (hcd p hp).1 (hcd p hp).2
  have hl' : (hideAll s.heap [164, k1, k2]).IsList l vs.toArray := by
    obtain ⟨o, e, q, r⟩ := hl
    refine ⟨o, hideAll_get _ e fun z => ?_, q, r⟩
    obtain ⟨n, hn⟩ := r
    have g1 := (N _ (.head _)).1
    have g2 := (N _ (.tail _ (.head _))).1
    have g3 := (N _ (.tail _ (.tail _ (.head _)))).1
    simp only [List.mem_cons, List.not_mem_nil, or_false] at z
    rcases z with z | z | z
    · rw [← z, e] at g1; cases g1; cases hn
    · rw [← z, e] at g2; cases g2; rw [hn] at d1; cases d1
    · rw [← z, e] at g3; cases g3; rw [hn] at d2; cases d2
  have hlen := hI.length
  have hN0 := N
  clear B F X T N hc1 hb S' hcd
  k_steps
  rename Fr _ _ _ _ => fE'
  rename News _ _ _ _ => nE'
  obtain ⟨q0, q1, q2, q3, q4⟩ := told_end2 nE' fE' hN0 ⟨_, d1, _, e1⟩ ⟨_, d2, _, e2⟩
  exact hret _ _ _ _ _ _ _ _ _ _ _ _ _ q0 q1 q2 q3 q4 Iord Pord Sord Plo Phi
end
end Mine
end
section
open PySem PySem.W PyProof.Rows PySem.Spec PySem.Calls
set_option maxRecDepth 100000
set_option maxHeartbeats 4000000
namespace Mine
theorem u8_of (n : Nat) : (n.toUInt8).toNat = n % 256 := UInt8.toNat_ofNat'
theorem byte0 {k : Int} (h0 : 0 ≤ k) (h1 : k < 16777216) : ((((k.fdiv 65536).fmod 256).toNat.toUInt8).toNat : Int) = k / 65536 := by
  rw [u8_of, Int.fdiv_eq_ediv_of_nonneg _ (by decide), Int.fmod_eq_emod_of_nonneg _ (by decide)]; omega
theorem byte1 {k : Int} (h0 : 0 ≤ k) : ((((k.fdiv 256).fmod 256).toNat.toUInt8).toNat : Int) = k / 256 % 256 := by
  rw [u8_of, Int.fdiv_eq_ediv_of_nonneg _ (by decide), Int.fmod_eq_emod_of_nonneg _ (by decide)]; omega
theorem byte2 {k : Int} (h0 : 0 ≤ k) : (((k.fmod 256).toNat.toUInt8).toNat : Int) = k % 256 := by
  rw [u8_of, Int.fmod_eq_emod_of_nonneg _ (by decide)]; omega
theorem fig_ed (x : Int) (k : Nat) : fig x k = x / 64 ^ k % 64 := by
  unfold fig
  rw [Int.fdiv_eq_ediv_of_nonneg _ (Int.le_of_lt (Int.pow_pos (by decide))), Int.fmod_eq_emod_of_nonneg _ (by decide)]
theorem figs_ed (x : Int) : fig x 3 = x / 262144 % 64 ∧ fig x 2 = x / 4096 % 64 ∧ fig x 1 = x / 64 % 64 ∧ fig x 0 = x % 64 := by
  refine ⟨fig_ed x 3, fig_ed x 2, fig_ed x 1, ?_⟩
  rw [fig_ed x 0, Int.pow_zero, Int.ediv_one]
theorem figsE_is {k : Int} (h0 : 0 ≤ k) (h1 : k < 16777216) : figsE k = figs k := by
  unfold figsE figs3 figs
  rw [byte0 h0 h1, byte1 h0, byte2 h0]
  obtain ⟨e3, e2, e1, e0⟩ := figs_ed k
  rw [e3, e2, e1, e0]
  congr 1
  · omega
  · congr 1
    · omega
    · congr 1
      · omega
      · congr 1; omega
theorem long_signs : ∀ {ns : List Int}, (∀ x ∈ ns, 0 ≤ x ∧ x < 16777216) → longOf ns = signsOf ns
  | [], _ => rfl
  | k :: r, h => by
    have hk := h k (.head _)
    have ih := long_signs fun x hx => h x (.tail _ hx)
    unfold longOf signsOf at ih ⊢
    rw [List.map_cons, List.flatten_cons, List.flatMap_cons, List.map_append, ih, encOf_figs, figsE_is hk.1 hk.2]
theorem d_row (b0 b1 b2 : UInt8) (out : List Int) : (figs3 b0 b1 b2).foldl dstep (0, 0, out) = (0, 0, out ++ [(b0.toNat : Int), (b1.toNat : Int), (b2.toNat : Int)]) := by
  have h0 := b0.toNat_lt
  have h1 := b1.toNat_lt
  have h2 := b2.toNat_lt
  have e0 : ((b0.toNat : Int) / 4 % 64) * 4 + ((b0.toNat : Int) * 256 + b1.toNat) / 16 % 64 / 16 = b0.toNat := by omega
  have e1 : (((b0.toNat : Int) * 256 + b1.toNat) / 16 % 64 % 16) * 16 + ((b1.toNat : Int) * 256 + b2.toNat) / 64 % 64 / 4 = b1.toNat := by omega
  have e2 : (((b1.toNat : Int) * 256 + b2.toNat) / 64 % 64 % 4) * 64 + (b2.toNat : Int) % 64 = b2.toNat := by omega
  simp only [figs3, List.foldl_cons, List.foldl_nil, dstep, if_pos, if_neg, Int.reduceEq, if_true, if_false, e0, e1, e2, List.append_assoc, List.cons_append, List.nil_append]
theorem u8_back (c : UInt8) : (c.toNat : Int).toNat.toUInt8 = c := by rw [Int.toNat_natCast]; exact UInt8.ofNat_toNat
theorem num_one {x : Int} (h0 : 0 ≤ x) (h1 : x < 16777216) : num256 (decOne x) = x := by
  unfold decOne dst figsE
  rw [d_row]
  simp only [List.nil_append, List.map_cons, List.map_nil, u8_back, num256, List.foldl_cons, List.foldl_nil]
  rw [byte0 h0 h1, byte1 h0, byte2 h0]
  omega
theorem sg_pl : ∀ f g : Fin 64, ((sgB ((f : Nat) : Int)).toNat < (sgB ((g : Nat) : Int)).toNat ↔ pl ((f : Nat) : Int) < pl ((g : Nat) : Int)) ∧ ((sgB ((f : Nat) : Int)).toNat = (sgB ((g : Nat) : Int)).toNat ↔ pl ((f : Nat) : Int) = pl ((g : Nat) : Int)) ∧ (pl ((f : Nat) : Int) = pl ((g : Nat) : Int) → f = g) := by decide +kernel
theorem sg_pl' {f g : Int} (hf : 0 ≤ f ∧ f < 64) (hg : 0 ≤ g ∧ g < 64) : ((sgB f).toNat < (sgB g).toNat ↔ pl f < pl g) ∧ ((sgB f).toNat = (sgB g).toNat ↔ pl f = pl g) ∧ (pl f = pl g → f = g) := by
  have h := sg_pl ⟨f.toNat, by omega⟩ ⟨g.toNat, by omega⟩
  have e1 : ((f.toNat : Nat) : Int) = f := by omega
  have e2 : ((g.toNat : Nat) : Int) = g := by omega
  dsimp only at h
  rw [e1, e2] at h
  refine ⟨h.1, h.2.1, fun q => ?_⟩
  have := congrArg Fin.val (h.2.2 q)
  dsimp only at this
  omega
theorem nk_lx {x y : Int} (hx : 0 ≤ x ∧ x < 16777216) (hy : 0 ≤ y ∧ y < 16777216) : nk (encOf x) < nk (encOf y) ↔ lxlt (places x) (places y) = true := by
  rw [encOf_figs, encOf_figs, figsE_is hx.1 hx.2, figsE_is hy.1 hy.2]
  have b := fun k => sg_pl' (fig_bounds x k) (fig_bounds y k)
  simp only [nk, figs, places, List.map_cons, List.map_nil, List.cons_lt_cons_iff, lxlt, (b 3).1, (b 2).1, (b 1).1, (b 0).1, (b 3).2.1, (b 2).2.1, (b 1).2.1, (b 0).2.1]
  by_cases e3 : pl (fig x 3) = pl (fig y 3)
  · by_cases e2 : pl (fig x 2) = pl (fig y 2)
    · by_cases e1 : pl (fig x 1) = pl (fig y 1)
      · by_cases e0 : pl (fig x 0) = pl (fig y 0)
        · simp [e3, e2, e1, e0]
        · simp [e3, e2, e1, e0]
      · simp [e3, e2, e1]
    · simp [e3, e2]
  · simp [e3]
theorem enc_mono {x y : Int} (hx : 0 ≤ x ∧ x < 16777216) (hy : 0 ≤ y ∧ y < 16777216) (h : keyP x ≤ keyP y) : nk (encOf x) ≤ nk (encOf y) := by
  refine List.not_lt.mp fun q => ?_
  rw [nk_lx hy hx, lx_places] at q
  have := of_decide_eq_true q
  omega
theorem keyP_inj {x y : Int} (hx : 0 ≤ x ∧ x < 16777216) (hy : 0 ≤ y ∧ y < 16777216) (h : keyP x = keyP y) : x = y := by
  have b := fun k => sg_pl' (fig_bounds x k) (fig_bounds y k)
  have px := fun k => pl_bounds (fig_bounds x k)
  have py := fun k => pl_bounds (fig_bounds y k)
  have p0 := px 0; have p1 := px 1; have p2 := px 2; have p3 := px 3
  have q0 := py 0; have q1 := py 1; have q2 := py 2; have q3 := py 3
  unfold keyP at h
  have e3 := (b 3).2.2 (by omega)
  have e2 := (b 2).2.2 (by omega)
  have e1 := (b 1).2.2 (by omega)
  have e0 := (b 0).2.2 (by omega)
  obtain ⟨x3, x2, x1, x0⟩ := figs_ed x
  obtain ⟨y3, y2, y1, y0⟩ := figs_ed y
  omega
theorem nk_inj {a b : List UInt8} (h : nk a = nk b) : a = b := by
  unfold nk at h
  exact (List.map_inj_right (fun _ _ e => UInt8.toNat_inj.mp e)).mp h
theorem enc_inj {x y : Int} (hx : 0 ≤ x ∧ x < 16777216) (hy : 0 ≤ y ∧ y < 16777216) (h : encOf x = encOf y) : x = y := by
  refine keyP_inj hx hy ?_
  have a := nk_lx hx hy
  have b := nk_lx hy hx
  rw [h, lx_places] at a b
  have i := List.lt_irrefl (nk (encOf y))
  have a1 := mt a.mpr i
  have b1 := mt b.mpr i
  simp only [decide_eq_true_eq] at a1 b1
  omega
theorem same_sort {ns ms1 ms2 : List Int} (hx : ∀ x ∈ ns, 0 ≤ x ∧ x < 16777216) (p1 : ms1.Perm ns) (s1 : ms1.Pairwise fun x y => keyP x ≤ keyP y) (p2 : ms2.Perm ns) (s2 : ms2.Pairwise fun x y => keyP x ≤ keyP y) : ms1 = ms2 :=
  List.Perm.eq_of_pairwise (le := fun x y => keyP x ≤ keyP y) (fun a b ha hb h1 h2 => keyP_inj (hx a (p1.mem_iff.mp ha)) (hx b (p2.mem_iff.mp hb)) (Int.le_antisymm h1 h2)) s1 s2 (p1.trans p2.symm)
theorem low_at {ns ms : List Int} {i : Nat} {x : Int} (hx : ∀ x ∈ ns, 0 ≤ x ∧ x < 16777216) (p : ms.Perm ns) (s : ms.Pairwise fun x y => keyP x ≤ keyP y) (hi : i < ns.length) (l : LowIs ns i x) : num256 (decOne x) = ms.getD i 0 := by
  obtain ⟨hm, bs, pb, sb, eb⟩ := l
  rw [num_one (hx x hm).1 (hx x hm).2]
  have hs : (ms.map encOf).Pairwise fun a b => nk a ≤ nk b := by
    rw [List.pairwise_map]
    refine List.Pairwise.imp_of_mem (fun {a b} ha hb h => ?_) s
    exact enc_mono (hx a (p.mem_iff.mp ha)) (hx b (p.mem_iff.mp hb)) h
  have e : bs = ms.map encOf := List.Perm.eq_of_pairwise (le := fun a b => nk a ≤ nk b) (fun a b _ _ h1 h2 => nk_inj (List.le_antisymm h1 h2)) sb hs (pb.trans (p.map encOf).symm)
  have hl : i < ms.length := by rw [p.length_eq]; exact hi
  rw [e, List.getD_eq_getElem?_getD, List.getElem?_map, List.getElem?_eq_getElem hl] at eb
  rw [List.getD_eq_getElem?_getD, List.getElem?_eq_getElem hl]
  exact enc_inj (hx x hm) (hx _ (p.mem_iff.mp (List.getElem_mem hl))) eb.symm
end Mine
end
section
open PySem PySem.W PyProof.Rows PySem.Spec PySem.Calls
open PySem.SeqAt PySem.MeetsSeq PySem.MeetsSeq2 PySem.MeetsSeq3
set_option maxRecDepth 100000
set_option maxHeartbeats 4000000
namespace Mine
theorem EqAt.octs {A : Around} {s : Shared} (b : Array UInt8) (t u : Tok) : EqAt A s (.bytes b t) (.bytes b u) true := fun prog w E Q h => by
  unfold eqBool
  refine wpAny_holding ?_
  refine wpAny_ite_split (fun hab => ?_) (fun _ => ?_)
  · exact wpAny_bind (wpAny_rule (wpAny_pure h))
  · refine wpAny_bind (richCompare_gives (op := .Eq) (T := "bytes") rfl rfl FB.slot_bytes_eq FB.entry_bytes_eq (FB.args_bytes_eq_2 _ _) (gives_bytes_eq b b t u) (fun x => nomatch x) (wpAny_truthy_bool ?_))
    simpa using h
theorem eqAt_ints {A : Around} {s : Shared} {D1 D2 : Addr} {v1 v2 : List Value} {ms : List Int} {c1 c2 : Nat} (h1 : s.heap.get? D1 = some (W.listOf v1.toArray c1)) (h2 : s.heap.get? D2 = some (W.listOf v2.toArray c2)) (i1 : IntsAre v1 ms) (i2 : IntsAre v2 ms) (hu : A.units + 4 < cLine) : EqAt A s (.ref D1) (.ref D2) true := by
  have r1 := reads_newData (h := s.heap) ⟨_, h1, rfl, _, rfl⟩ (ke_carried i1)
  have r2 := reads_newData (h := s.heap) ⟨_, h2, rfl, _, rfl⟩ (ke_carried i2)
  have := eqAt_reads (.list (ms.map PyData.int)) (.list (ms.map PyData.int)) A s _ _ _ _ r1 r2 (by simp [PyData.canLay0, ke_canLayAll0]) (by simp [PyData.canLay0, ke_canLayAll0]) (by
    have e : (PyData.list (ms.map PyData.int)).depth ≤ 2 := by simp [PyData.depth, ke_depthAll]
    omega)
  have e : PyData.eqv (.list (ms.map PyData.int)) (.list (ms.map PyData.int)) = true := by simp [PyData.eqv, ked_eqvAll]
  rw [e] at this
  exact this
section
variable {prog : Program} {w : World} {A : Around} {E Q : Value → Shared → Prop} {s : Shared}
theorem law_ne {R1 D1 R2 D2 : Addr} {x y : Int} {bs : Array UInt8} {t1 t2 t3 u1 u2 u3 : Tok} {v1 v2 : List Value} {ms : List Int} {c1 c2 c3 c4 : Nat}
    (h1 : s.heap.get? R1 = some (W.listOf (List.toArray [.ref D1, .bytes bs t1, .int x t2, .int y t3]) c1)) (h2 : s.heap.get? D1 = some (W.listOf v1.toArray c2)) (i1 : IntsAre v1 ms)
    (h3 : s.heap.get? R2 = some (W.listOf (List.toArray [.ref D2, .bytes bs u1, .int x u2, .int y u3]) c3)) (h4 : s.heap.get? D2 = some (W.listOf v2.toArray c4)) (i2 : IntsAre v2 ms)
    (hu : A.units + 64 < cLine) (h : Q (.bool false) s) : wpAny (model prog w) A (compareOp .NotEq (.ref R1) (.ref R2)) Q E s := by
  show wpAny _ _ (richCompare .NotEq _ _) _ _ _
  have m := list_neAt R1 R2 (List.toArray [.ref D1, .bytes bs t1, .int x t2, .int y t3]) (List.toArray [.ref D2, .bytes bs u1, .int x u2, .int y u3]) c1 c3 none none #[] #[] rfl (fun _ => true)
  have e : ((List.range 4).all fun _ => true) = true := by decide
  have h' : Q (.bool (!((List.range (List.toArray [Value.ref D1, .bytes bs t1, .int x t2, .int y t3]).size).all fun _ => true))) s := by
    show Q (.bool (!((List.range 4).all fun _ => true))) s
    rw [e]; exact h
  refine richCompare_meets_room (op := .NotEq) (T := "list") ⟨_, h1, rfl⟩ ⟨_, h3, rfl⟩ F.slot_list_ne F.entry_list_ne (F.args_list_ne_2 _ _) m ⟨h1, h3, fun j a1 a2 => ?_, And.intro (fun e => by cases e) h'⟩ (by omega)
  have a1' : j < 4 := a1
  match j, a1' with
  | 0, _ => exact eqAt_ints h2 h4 i1 i2 (by show A.units + 1 + 4 < _; omega)
  | 1, _ => exact EqAt.octs _ _ _
  | 2, _ => have := EqAt.int_int (A := A.in1) (s := s) x t2 x u2; rw [beq_self_eq_true] at this; exact this
  | 3, _ => have := EqAt.int_int (A := A.in1) (s := s) y t3 y u3; rw [beq_self_eq_true] at this; exact this
end
section
variable {h₀ h h' : Heap} {L R D : Addr} {m : Str → Option Value} {news : List (Addr × Obj)} {oR oD : Obj}
theorem newsAdd2 (F : Fr h₀ L h m) (N : News h₀ L h news) (K : Keeps h h') (nR : h.get? R = none) (eR : h'.get? R = some oR) (nD : h.get? D = none) (eD : h'.get? D = some oD) : Fr h₀ L h' m ∧ News h₀ L h' ((R, oR) :: (D, oD) :: news) := by
  have aR := newsAdd F N K nR eR
  have aD := newsAdd F N K nD eD
  refine ⟨aR.1, fun p hp => ?_⟩
  rcases List.mem_cons.mp hp with rfl | hp
  · exact aR.2.1 _ (.head _)
  · exact aD.2.1 _ hp
theorem told_back1 {others : List (Addr × Obj)} {c : FullC} (F : Fr h₀ L h m) (N : News h₀ L h news) (hT : ∀ p ∈ [((164 : Addr), tabObj #[]), ((131 : Addr), tabObj #[])], p ∈ news) (hs : ∀ p ∈ others, p ∈ news ∧ p.2 ≠ tabObj #[]) (K : Keeps (hideAll h [164, 131]) h')
    (nR : (hideAll h [164, 131]).get? R = none) (eR : h'.get? R = some oR) (nD : (hideAll h [164, 131]).get? D = none) (eD : h'.get? D = some oD) (hc : ∀ p ∈ c.objs, h'.get? p.1 = some p.2 ∧ (hideAll h [164, 131]).get? p.1 = none) :
    Fr h₀ L h' m ∧ News h₀ L h' ((R, oR) :: (D, oD) :: others ++ c.objs) := by
  have N0 : News h₀ L h [((164 : Addr), tabObj #[]), ((131 : Addr), tabObj #[])] := fun p hp => N p (hT p hp)
  have F' : Fr h₀ L h' m := fr_back F N0 K
  have hid : ∀ b o, h.get? b = some o → o ≠ tabObj #[] → b ∉ [164, 131] := fun b o e ne hb => by
    simp only [List.mem_cons, List.not_mem_nil, or_false] at hb
    rcases hb with rfl | rfl
    · rw [(N0 _ (.head _)).1] at e; exact ne (Option.some.inj e).symm
    · rw [(N0 _ (.tail _ (.head _))).1] at e; exact ne (Option.some.inj e).symm
  have st : ∀ b o, h₀.get? b = some o → (hideAll h [164, 131]).get? b = some o := fun b o e => hideAll_get _ (F.keep b o e) fun hb => by
    simp only [List.mem_cons, List.not_mem_nil, or_false] at hb
    rcases hb with rfl | rfl
    · rw [(N0 _ (.head _)).2.2] at e; cases e
    · rw [(N0 _ (.tail _ (.head _))).2.2] at e; cases e
  have hL : ∃ oL, (hideAll h [164, 131]).get? L = some oL := by
    obtain ⟨oL, es, ep, hL, r⟩ := F.ns
    refine ⟨oL, hideAll_get _ hL fun hb => ?_⟩
    simp only [List.mem_cons, List.not_mem_nil, or_false] at hb
    rcases hb with q | q
    · exact (N0 _ (.head _)).2.1 q.symm
    · exact (N0 _ (.tail _ (.head _))).2.1 q.symm
  obtain ⟨oL, hL⟩ := hL
  have new : ∀ b, (hideAll h [164, 131]).get? b = none → b ≠ L ∧ h₀.get? b = none := fun b e => by
    refine ⟨(fun q => by rw [q, hL] at e; cases e), ?_⟩
    cases q : h₀.get? b with
    | none => rfl
    | some o => rw [st b o q] at e; cases e
  refine ⟨F', fun p hp => ?_⟩
  rcases List.mem_append.mp hp with hp | hp
  · rcases List.mem_cons.mp hp with rfl | hp
    · exact ⟨eR, new _ nR⟩
    · rcases List.mem_cons.mp hp with rfl | hp
      · exact ⟨eD, new _ nD⟩
      · obtain ⟨a, b⟩ := hs p hp
        exact ⟨K _ _ (hideAll_get _ (N p a).1 (hid _ _ (N p a).1 b)), (N p a).2⟩
  · exact ⟨(hc p hp).1, new _ (hc p hp).2⟩
end
/-- the law's loop -/
abbrev riObj (x left : Int) : Obj := { cls := .type "range_iterator", dict := none, data := .fields #[rawInt x, rawInt left, rawInt 1], slots := #[] }
def TEnd (h₀ : Heap) (L : Addr) (m₀ : Str → Option Value) (x : Str) (p q : Addr × Obj) (s₁ : Shared) (f : Flow) (s₂ : Shared) : Prop :=
  f = .next ∧ ∃ h' tk v c, s₂ = { s₁ with heap := h', toks := tk } ∧ Fr h₀ L h' (fun y => if y = x then some v else m₀ y) ∧ FullC.Ok c ∧ News h₀ L h' (p :: q :: c.objs)
theorem TEnd.intro {h₀ h' : Heap} {L : Addr} {m₀ : Str → Option Value} {x : Str} {p q : Addr × Obj} {s₁ : Shared} {tk : Nat} {v : Value} {news : List (Addr × Obj)} (c : FullC) (F : Fr h₀ L h' (fun y => if y = x then some v else m₀ y)) (N : News h₀ L h' news) (ok : c.Ok) (hs : ∀ r ∈ p :: q :: c.objs, r ∈ news) :
    TEnd h₀ L m₀ x p q s₁ .next { s₁ with heap := h', toks := tk } := ⟨rfl, h', tk, v, c, rfl, F, ok, fun r hr => N r (hs r hr)⟩
theorem full_ri {c : FullC} (ok : c.Ok) : ∀ p ∈ c.objs, ∀ a b, p.2 ≠ riObj a b := by
  obtain ⟨u1, e1⟩ := lamCode_fld ok.1
  obtain ⟨u2, e2⟩ := lamCode_fld ok.2
  intro p hp a b q
  rcases List.mem_cons.mp hp with rfl | hp
  · cases congrArg Obj.cls q
  rcases List.mem_cons.mp hp with rfl | hp
  · have := congrArg fld1 q
    dsimp only at this
    rw [e1] at this
    cases this
  rcases List.mem_cons.mp hp with rfl | hp
  · have := congrArg fld1 q
    dsimp only at this
    rw [e2] at this
    cases this
  unfold cdObjs at hp
  simp only [List.mem_cons, List.not_mem_nil, or_false] at hp
  rcases hp with rfl | rfl | rfl | rfl | rfl
  all_goals (have z := congrArg Obj.cls q; first | (cases z; done) | (injection z with z; exact absurd z (by decide)))
section
variable {prog : Program} {w : World} {A : Around} {E : Value → Shared → Prop} {s : Shared} {env : Env} {h₀ : Heap} {body : List Stmt} {Q : Flow → Shared → Prop} {x : Str} {m₀ : Str → Option Value}
theorem law_loop {r D : Addr} {b₀ : Int} {t₀ u₀ v₀ : Tok} {n : Nat} {dv : List Value} {c0 : Nat} (hh : A.handled = none) (hr : IsRange s.heap r 1 b₀ 1 t₀ u₀ v₀) (hsmall : Builtin.Range.small 1 b₀ 1 = true) (hn : Builtin.Range.rangeSize 1 b₀ 1 = (n : Int)) (h0 : 0 < n)
    (F : Fr h₀ env.locals s.heap m₀) (N : News h₀ env.locals s.heap [(164, tabObj #[]), (131, tabObj #[]), (D, W.listOf dv.toArray c0)])
    (turn1 : ∀ t h tk I a b, Fr h₀ env.locals h (fun y => if y = x then some (.int 1 t) else m₀ y) → News h₀ env.locals h [(I, riObj a b), (164, tabObj #[]), (131, tabObj #[]), (D, W.listOf dv.toArray c0)] →
      wpAny (model prog w) A (execs body env) (TEnd h₀ env.locals m₀ x (I, riObj a b) (D, W.listOf dv.toArray c0) { s with heap := h, toks := tk }) E { s with heap := h, toks := tk })
    (turn2 : ∀ (i : Nat) t h tk I a b (c : FullC), 0 < i → i < n → c.Ok → Fr h₀ env.locals h (fun y => if y = x then some (.int (1 + (i : Int)) t) else m₀ y) → News h₀ env.locals h ((I, riObj a b) :: (D, W.listOf dv.toArray c0) :: c.objs) →
      wpAny (model prog w) A (execs body env) (TEnd h₀ env.locals m₀ x (I, riObj a b) (D, W.listOf dv.toArray c0) { s with heap := h, toks := tk }) E { s with heap := h, toks := tk })
    (done : ∀ v h tk ps qs, Fr h₀ env.locals h (fun y => if y = x then some v else m₀ y) → News h₀ env.locals h [(164, tabObj ps), (131, tabObj qs), (D, W.listOf dv.toArray c0)] → Q .next { s with heap := h, toks := tk }) :
    wpAny (model prog w) A (pyIter (.ref r)) (fun it s₂ => LoopAtV prog w A h₀ env x body Q E it s₂) E s := by
  refine wpAny_pyIter_range hr hsmall ?_
  have z0 : s.heap.get? s.heap.objs.size = none := Heap.get?_none_of_le (Nat.le_refl _)
  let J : Nat → (Str → Option Value) → List (Addr × Obj) → Prop := fun i m news => (i = 0 ∧ m = m₀ ∧ news = [(164, tabObj #[]), (131, tabObj #[]), (D, W.listOf dv.toArray c0)]) ∨ (0 < i ∧ (∃ v, m = fun y => if y = x then some v else m₀ y) ∧ ∃ c : FullC, c.Ok ∧ news = (D, W.listOf dv.toArray c0) :: c.objs)
  have Wk := Walks.range (prog := prog) (w := w) hh s.heap.objs.size 1 1 n
  refine ⟨s.heap.objs.size, _, _, n, _, _, m₀, _, J, rfl, Wk, ?_, ?_, ?_, (by show IsRangeIter _ _ _ _ _; rw [hn]; simpa using Heap.get?_push_size _ rfl), F.push _, (fun p hp => ⟨Heap.get?_push_of_some _ (N p hp).1, (N p hp).2⟩), .inl ⟨rfl, rfl, rfl⟩, ?_, ?_⟩
  · intro hm
    exact absurd F.ns.lt ((List.mem_singleton.mp hm) ▸ Nat.lt_irrefl _)
  · intro b hb
    rw [List.mem_singleton.mp hb]
    exact next_is_new F
  · intro p hp hI
    exact absurd (Heap.lt_size (N p hp).1) ((List.mem_singleton.mp hI) ▸ Nat.lt_irrefl _)
  · rintro i v m₁ nx s₁ own ⟨h, tk, rfl⟩ hi ⟨t, rfl⟩ hJ _ hof hog hin hst F₁ N₁
    have hst : h.get? s.heap.objs.size = some (riObj (1 + ((i + 1 : Nat) : Int) * 1) ((n : Int) - ((i + 1 : Nat) : Int))) := hst
    have z1 : h₀.get? s.heap.objs.size = none := next_is_new F
    have mI := hin _ (.head _) z1 _ hst
    have ow : ∀ p ∈ own, p = (s.heap.objs.size, riObj (1 + ((i + 1 : Nat) : Int) * 1) ((n : Int) - ((i + 1 : Nat) : Int))) := fun p hp => by
      have e1 : p.1 = s.heap.objs.size := List.mem_singleton.mp (hof p hp)
      have e2 := hog p hp
      rw [e1] at e2
      exact Prod.ext e1 (Option.some.inj (e2.symm.trans hst))
    have fin : ∀ f s₂, TEnd h₀ env.locals m₀ x (s.heap.objs.size, riObj (1 + ((i + 1 : Nat) : Int) * 1) ((n : Int) - ((i + 1 : Nat) : Int))) (D, W.listOf dv.toArray c0) { s with heap := h, toks := tk } f s₂ → LoopStepV h₀ env.locals [s.heap.objs.size] own (J (i + 1)) { s with heap := h, toks := tk } (fun v s' => Q (.ret v) s') (fun s' => Q .next s') f s₂ := by
      rintro f s₂ ⟨rfl, h', tk', v', c, rfl, F', ok, N'⟩
      refine LoopStepV.next (LoopStepU.intro F' (news₂ := (D, W.listOf dv.toArray c0) :: c.objs) (fun p hp => ?_) (fun p hp hq => ?_) (.inr ⟨Nat.succ_pos _, ⟨_, rfl⟩, c, ok, rfl⟩))
      · rcases List.mem_append.mp hp with hp | hp
        · rw [ow p hp]; exact N' _ (.head _)
        · exact N' p (.tail _ hp)
      · have e1 : p.1 = s.heap.objs.size := List.mem_singleton.mp hq
        have e2 := (N' p (.tail _ hp)).1
        have e3 := (N' _ (.head _)).1
        rw [e1, e3] at e2
        have e4 := Option.some.inj e2
        rcases List.mem_cons.mp hp with rfl | hp
        · have := congrArg Obj.cls e4
          injection this with this
          exact absurd this (by decide)
        · exact full_ri ok p hp _ _ e4.symm
    rcases hJ with ⟨rfl, rfl, rfl⟩ | ⟨hi0, ⟨v0, rfl⟩, c, ok, rfl⟩
    · have F₂ : Fr h₀ env.locals h (fun y => if y = x then some (.int 1 t) else m₁ y) := by simpa using F₁
      refine wpAny_mono (turn1 t h tk s.heap.objs.size _ _ F₂ (fun p hp => ?_)) (fun f s₂ q => fin f s₂ q) fun _ _ e => e
      rcases List.mem_cons.mp hp with rfl | hp
      · exact N₁ _ (List.mem_append_left _ mI)
      · exact N₁ p (List.mem_append_right _ hp)
    · have F₂ : Fr h₀ env.locals h (fun y => if y = x then some (.int (1 + (i : Int)) t) else m₀ y) := by
        have e : (fun y => if y = x then some (Value.int (1 + (i : Int) * 1) t) else if y = x then some v0 else m₀ y) = fun y => if y = x then some (.int (1 + (i : Int)) t) else m₀ y := by
          funext y
          by_cases hy : y = x
          · rw [if_pos hy, if_pos hy, Int.mul_one]
          · rw [if_neg hy, if_neg hy, if_neg hy]
        rw [← e]; exact F₁
      refine wpAny_mono (turn2 i t h tk s.heap.objs.size _ _ c hi0 hi ok F₂ (fun p hp => ?_)) (fun f s₂ q => fin f s₂ q) fun _ _ e => e
      rcases List.mem_cons.mp hp with rfl | hp
      · exact N₁ _ (List.mem_append_left _ mI)
      · exact N₁ p (List.mem_append_right _ hp)
  · rintro h tk m' nx F' N' _ hJ
    rcases hJ with ⟨e, _⟩ | ⟨_, ⟨v, rfl⟩, c, _, rfl⟩
    · omega
    · exact done v h tk _ _ F' fun p hp => N' p (by revert p hp; exact List.forall_mem_cons.mpr ⟨.tail _ (.head _), List.forall_mem_cons.mpr ⟨.tail _ (.tail _ (.tail _ (.tail _ (.head _)))), List.forall_mem_cons.mpr ⟨.head _, List.forall_mem_nil _⟩⟩⟩)
end
end Mine
end
section
open PySem PySem.W PyProof.Rows PySem.Spec PySem.Calls
set_option maxRecDepth 100000
set_option maxHeartbeats 4000000
namespace Mine
/-- the numbers drawn -/
def drawnOf (ns : List Int) : List Int := [62, 0, 26, 52, 4095, 63] ++ (ns.take 6).map fun a => a % 16777216
theorem drawn_mem (ns : List Int) : ∀ x ∈ drawnOf ns, 0 ≤ x ∧ x < 16777216 := by
  intro x hx
  rcases List.mem_append.mp hx with h | h
  · simp only [List.mem_cons, List.not_mem_nil, or_false] at h
    lia
  · obtain ⟨a, _, rfl⟩ := List.mem_map.mp h
    exact ⟨by lia, by lia⟩
theorem drawn_len (ns : List Int) : 0 < (drawnOf ns).length ∧ (drawnOf ns).length ≤ 12 := by
  unfold drawnOf
  simp only [List.length_append, List.length_map, List.length_take, List.length_cons, List.length_nil]
  lia
theorem ints_mod : ∀ {ns : List Int} {ys : List Value}, CarriedAll ys (List.map (fun a => PyData.int (a.fmod (2 ^ Int.toNat 24))) (List.filter (fun _ => true) ns)) → IntsAre ys (ns.map fun a => a % 16777216) := by
  intro ns ys h
  refine IntsAre.ofCarried ?_
  rw [List.map_map]
  have e : List.filter (fun _ : Int => true) ns = ns := by simp
  rw [e] at h
  have e2 : (fun a : Int => PyData.int (a.fmod (2 ^ Int.toNat 24))) = (PyData.int ∘ fun a => a % 16777216) := by
    funext a
    show PyData.int (a.fmod 16777216) = PyData.int (a % 16777216)
    rw [Int.fmod_eq_emod_of_nonneg _ (by decide)]
  rw [e2] at h
  exact h
theorem ints_drawn {ns : List Int} {ys : List Value} {t1 t2 t3 t4 t5 t6 : Tok} (h : IntsAre ys ((ns.take 6).map fun a => a % 16777216)) :
    IntsAre ([Value.int 62 t1, .int 0 t2, .int 26 t3, .int 52 t4, .int 4095 t5, .int 63 t6] ++ ys) (drawnOf ns) :=
  IntsAre.append (.cons _ _ (.cons _ _ (.cons _ _ (.cons _ _ (.cons _ _ (.cons _ _ .nil)))))) h
theorem add_drawn {prog : Program} {w : World} {A : Around} {E Q : Value → Shared → Prop} {s : Shared} {h₀ : Heap} {L l D : Addr} {m : PySem.Str → Option Value} {news : List (Addr × Obj)} {ns : List Int} {ys : List Value} {t1 t2 t3 t4 t5 t6 : Tok} {n : Nat}
    (F : Fr h₀ L s.heap m) (N : News h₀ L s.heap news) (hl : (l, W.listOf #[.int 62 t1, .int 0 t2, .int 26 t3, .int 52 t4, .int 4095 t5, .int 63 t6] n) ∈ news) (hb : s.heap.IsList D ys.toArray)
    (hc : CarriedAll ys (List.map (fun a => PyData.int (a.fmod (2 ^ Int.toNat 24))) (List.filter (fun _ => true) (ns.take 6))))
    (h : ∀ D v h', Fr h₀ L h' m → News h₀ L h' ((D, W.listOf (List.toArray v) 0) :: news) → IntsAre v (drawnOf ns) → Q (.ref D) { s with heap := h' }) :
    wpAny (model prog w) A (binaryOp .Add (.ref l) (.ref D)) Q E s := by
  have hj := ints_mod hc
  have hz := hj.length
  rw [List.length_map, List.length_take] at hz
  refine add_lists (vs := [.int 62 t1, .int 0 t2, .int 26 t3, .int 52 t4, .int 4095 t5, .int 63 t6]) (ws := ys) F N ⟨_, (N _ hl).1, rfl, _, rfl⟩ hb (fun h' F' N' => h _ _ h' F' N' (ints_drawn hj)) ?_
  rw [sizeLine_eq]
  simp only [List.length_cons, List.length_nil]
  lia
section
variable {h : Heap}
theorem boot_ghost {w : World} (T : TabsAt [(135, 131), (166, 164)] h) (B : BootAt w.params h) : BootAt w.params (ghostOf h [(135, 131), (166, 164)]) := by
  refine ⟨fun a o e => ghost_ne (B.out a o e) fun hb => ?_⟩
  have hb : a = 131 ∨ a = 164 := by simpa using hb
  rcases hb with rfl | rfl
  · exact absurd e (by simp [Mine01.boots, List.lookup])
  · exact absurd e (by simp [Mine01.boots, List.lookup])
end
theorem law_cmp {prog : Program} {w : World} {A : Around} {E Q : Value → Shared → Prop} {s : Shared} {R1 D1 R2 D2 : Addr} {x1 x2 : Int} {t1 t2 t3 u1 u2 u3 : Tok} {v1 v2 : List Value} {ns ms1 ms2 : List Int} {c1 c2 c3 c4 : Nat} (hx : ∀ x ∈ ns, 0 ≤ x ∧ x < 16777216) (h0 : 0 < ns.length)
    (h1 : s.heap.get? R1 = some (W.listOf (List.toArray [.ref D1, .bytes (longOf ns).toArray t1, .int (num256 (decOne x1)) t2, .int (num256 (decOne x2)) t3]) c1)) (h2 : s.heap.get? D1 = some (W.listOf v1.toArray c2)) (i1 : IntsAre v1 ms1) (p1 : ms1.Perm ns) (s1 : ms1.Pairwise fun x y => keyP x ≤ keyP y)
    (l1 : LowIs ns ((ns.length - 1) / 2) x1) (l2 : LowIs ns (ns.length / 2) x2)
    (h3 : s.heap.get? R2 = some (W.listOf (List.toArray [.ref D2, .bytes (signsOf ns).toArray u1, .int (ms2.getD ((ns.length - 1) / 2) 0) u2, .int (ms2.getD (ns.length / 2) 0) u3]) c3)) (h4 : s.heap.get? D2 = some (W.listOf v2.toArray c4)) (i2 : IntsAre v2 ms2) (p2 : ms2.Perm ns) (s2 : ms2.Pairwise fun x y => keyP x ≤ keyP y)
    (hu : A.units + 64 < cLine) (h : Q (.bool false) s) : wpAny (model prog w) A (compareOp .NotEq (.ref R1) (.ref R2)) Q E s := by
  have e := same_sort hx p1 s1 p2 s2
  subst e
  rw [long_signs hx, low_at hx p2 s2 (by omega) l1, low_at hx p2 s2 (by omega) l2] at h1
  exact law_ne h1 h2 i1 h3 h4 i2 hu h
theorem take_mem {ns : List Int} {k : Nat} (h : ∀ x ∈ ns, 0 ≤ x ∧ x < 16777216) : ∀ x ∈ ns.take k, 0 ≤ x ∧ x < 16777216 := fun x hx => h x (List.mem_of_mem_take hx)
theorem take_pos {ns : List Int} {k : Nat} (h : 0 < ns.length) (hk : 0 < k) : 0 < (ns.take k).length := by rw [List.length_take]; omega
theorem take_le {ns : List Int} {k : Nat} (h : ns.length ≤ 12) : (ns.take k).length ≤ 12 := by rw [List.length_take]; omega
theorem draw_size {vs : List Value} {ns : List Int} (h : IntsAre vs (drawnOf ns)) : vs.toArray.size ≤ sizeLine := by
  rw [List.size_toArray, h.length, sizeLine_eq]
  have := (drawn_len ns).2
  omega
theorem draw_small (ns : List Int) : Builtin.Range.small 1 (((drawnOf ns).length : Int) + 1) 1 = true := by
  have := (drawn_len ns).2
  exact small_one (by omega) (by omega) (by omega) (by omega)
theorem law_post (args : List WData) : PySem.Challenge.rw_pu0025_01.row.claim.post args (.bool true) args = true := by
  refine postW_of (X := true) rfl ?_ rfl
  first
  | exact w_eq_bool (w_res rfl) w_lit
  | (refine (w_eq_bool (w_res rfl) w_lit).trans ?_; rfl)
end Mine
end
section
open PySem PySem.W PyProof.Rows PySem.Spec PySem.Calls
set_option maxRecDepth 100000
set_option maxHeartbeats 4000000
namespace Mine
theorem range_one (n : Nat) : Builtin.Range.rangeSize 1 ((n : Int) + 1) 1 = (n : Int) := by
  unfold Builtin.Range.rangeSize
  simp
  omega
theorem len_small (ns : List Int) : ((drawnOf ns).length : Int) < 2 ^ 63 := by
  have := (drawn_len ns).2
  omega
/-- the loop's own start, under a name that no library line takes -/
def RunM (prog : Program) (w : World) (A : Around) (h₀ : Heap) (env : Env) (x : Str) (body : List Stmt) (Q : Flow → Shared → Prop) (E : Value → Shared → Prop) (v : Value) (s : Shared) : Prop :=
  wpAny (model prog w) A (pyIter v) (fun it s₂ => LoopAtV prog w A h₀ env x body Q E it s₂) E s
theorem For_M {prog : Program} {w : World} {A : Around} {E : Value → Shared → Prop} {s : Shared} {env : Env} {h₀ : Heap} {x : Str} {body : List Stmt} {Q : Flow → Shared → Prop} {m : Str → Option Value} {px pos : Pos} {iter : Expr} (F : Fr h₀ env.locals s.heap m) (hx : env.kindOf x = some .local)
    (hp : (env.scope.kind == .class || (env.scope.kind == .module && env.locals != env.globals)) = false)
    (h : wpAny (model prog w) A (eval iter env) (RunM prog w A h₀ env x body Q E) E s)
    (hs : ∀ x, foldedSetIterable iter env x = pure x := by intro _; rfl)
    (hE : PassesOwn (model prog w) A env E := by passes_own) :
    wpAny (model prog w) A (exec (.For (.Name x px) iter body [] pos) env) Q E s := For_invVF F hx hp h hs hE
/-- a goal at which the walk is to stop -/
def Stop (P : Prop) : Prop := P
theorem Stop.to {P : Prop} (h : Stop P) : P := h
theorem fin : PySem.Challenge.rw_pu0025_01.Holds := by
  w_top off
  k_with_none
  k_with "binaryOp Add ref ref" => (k_here; (with_reducible show wpAny _ _ (binaryOp Operator.Add (Value.ref _) (Value.ref _)) _ _ _); (rename CarriedAll _ _ => hC9); k_dflt (refine' add_drawn ?dF9 ?dN9 ?dl9 ?db9 hC9 ?_; (case dF9 => k_asm); (case dN9 => k_asm); (case dl9 => k_mem); (case db9 => first | assumption | is_list)); intro Dd9 vD9 h' F' N' hD9; (try ((rename NewPlain _ _ _ _ => npX); clear npX)); clear hC9; (try dsimp only); (try k_fold))
  k_with "call builtin:len" => (k_here; (with_reducible show wpAny _ _ (call (Value.builtin "len") [Value.ref _]) _ _ _); k_dflt (refine' kst_len ?kN ?km hD9.length ?kf ?_; (case kN => k_asm); (case km => k_mem); (case kf => exact len_small _)))
  k_with "exec For Name Call cons nil" => (k_here; (rename Fr _ _ _ _ => lF'); (with_unfolding_all refine' For_M lF' ?k1 ?k2 ?_; (case k1 => exact rfl); (case k2 => exact rfl); k_whole))
  k_with "subscriptTail Name Slice ref ref" => (k_here; (with_reducible show wpAny _ _ (subscriptTail _ (PySem.Expr.Slice none (some (PySem.Expr.Name _ _)) none _) (Value.ref _) (Value.ref _)) _ _ _); (rename IntsAre _ (drawnOf _) => hD9); k_dflt (refine' kmk_slice_ints ?lwF ?lwN ?lwl ?lwp ?lwq hD9 (kmk_upto hD9 ?lwg) (List.length_take ..) ?_ ?lws ?lwt (draw_size hD9); (case lwF => k_asm); (case lwN => k_asm); (case lwl => kmk_list); (case lwp => kmk_part); (case lwq => kmk_part); (case lwg => first | decide | omega); (case lws => with_unfolding_all rfl); (case lwt => kmk_pure)); intro Ds9 ws9 hs9 Fs9 Ns9 l1 Is9 hC' hL'; clear hC' hL' l1; (try k_fold))
  k_with "call ref" => (k_here; (with_reducible show wpAny _ _ (call (Value.ref 167) [Value.ref _] _) _ _ _); (refine Stop.to ?_))
  k_with "call ref" => (k_here; (with_reducible show wpAny _ _ (call (Value.ref 172) [Value.ref _] _) _ _ _); (refine Stop.to ?_))
  refine Mine01.hd ?_
  k_fill
  intro w s₀ s₁ mg mb G Y fa o pm cd doc dV kV ho hd hcd hD hmg hg args vals as hpre hlay hrd hwl hlo
  have Y1 := Y.1
  have YB : BootAt w.params s₁.heap := ⟨Y.2⟩
  have KX := km_in_of Y1
  km_tabs Y1
  have X := (Ground.X G).1
  have V := (Ground.X G).2
  refine Ground.open G ?_
  intro T B D TE TW
  try (refine guard_noD D (by decide +kernel) ?_; clear D)
  km_lay T hmg ho hd cd
  clear hmg
  wrow_args hpre hlay hrd hwl hlo
  first | refine callC_kw (enter_call ?_) | refine enter_call ?_
  w_top on
  kn_posts
  w_call any ho hd hcd hD T F
  clear hd
  kn_ghosts F T
  k_drop
  have hb' := boot_ghost hT9 YB
  have hc1 : CodeHd (ghostOf s₁.heap [(135, 131), (166, 164)]) 166 164 := by assumption
  have hc2 : CodeHd (ghostOf s₁.heap [(135, 131), (166, 164)]) 135 131 := by assumption
  (try clear hcd); (try clear hD); (try clear G); (try clear Y Y1 YB); (try clear KX); (try clear hT8); (try clear X V); (try clear TE); (try clear TW); (try clear B); (try clear hT9); (try clear ho)
  all_goals try k_fold
  k_steps
  rename Fr _ _ _ _ => lF'
  rename News _ _ _ _ => lN'
  rename IsRange _ _ _ _ _ _ _ _ => lR'
  delta RunM
  with_unfolding_all refine' law_loop rfl lR' (draw_small _) (range_one _) (drawn_len _).1 lF' ?lwN ?lw1 ?lw2 ?lw3
  case lwN => exact fun p hp => lN' p (by revert p hp; exact List.forall_mem_cons.mpr ⟨by k_mem, List.forall_mem_cons.mpr ⟨by k_mem, List.forall_mem_cons.mpr ⟨by k_mem, List.forall_mem_nil _⟩⟩⟩)
  case lw1 =>
    clear lF' lN' lR'
    intro t9 h9 tk9 I9 a9 b9 F9 N9
    all_goals try k_fold
    k_steps
    delta Stop
    rename IntsAre _ (List.take _ (drawnOf _)) => Is9
    rename News _ _ _ _ => Ns9
    refine' told_first rfl ?lwk1 ?lwk2 ?lwk3 ?lwk4 ?lwkK hb' ?lwkN hc1 hc2 ?lwkd ?lwku ?lwkl Is9 ?lwp ?lwz ?_
    case lwk1 => k_asm
    case lwk2 => k_asm
    case lwk3 => k_asm
    case lwk4 => k_asm
    case lwkK => first | exact rfl | assumption
    case lwkN => exact fun p hp => Ns9 p (by revert p hp; exact List.forall_mem_cons.mpr ⟨.tail _ (.tail _ (.head _)), List.forall_mem_cons.mpr ⟨.tail _ (.tail _ (.tail _ (.head _))), List.forall_mem_nil _⟩⟩)
    case lwkd => ktr_room
    case lwku => ktr_units
    case lwkl => is_list
    case lwp => exact take_pos (drawn_len _).1 (by decide)
    case lwz => exact take_le (drawn_len _).2
    intro R9 D9 h9 tk9 t1 t2 t3 out9 ms9 x19 x29 c19 c29 cf9 K9 e1 e2 f1 f2 It9 Pt9 St9 Lo9 Hi9 okc cs9
    rename Fr _ _ _ _ => lF'
    have z9 := told_back1 (others := [_, (_, riObj _ _), (_, W.listOf (List.toArray _) 0)]) lF' Ns9 (List.forall_mem_cons.mpr ⟨.tail _ (.tail _ (.head _)), List.forall_mem_cons.mpr ⟨.tail _ (.tail _ (.tail _ (.head _))), List.forall_mem_nil _⟩⟩) (List.forall_mem_cons.mpr ⟨⟨.head _, fun q => by cases congrArg Obj.cls q⟩, List.forall_mem_cons.mpr ⟨⟨.tail _ (.head _), fun q => by cases congrArg Obj.cls q⟩, List.forall_mem_cons.mpr ⟨⟨.tail _ (.tail _ (.tail _ (.tail _ (.head _)))), fun q => by cases congrArg Obj.cls q⟩, List.forall_mem_nil _⟩⟩⟩) K9 f1 e1 f2 e2 cs9
    obtain ⟨F9, N9⟩ := z9
    clear lF' Ns9 K9 e1 e2 f1 f2 cs9
    simp only [List.cons_append, List.nil_append] at N9
    (try k_fold)
    k_steps
    delta Stop
    rename IntsAre _ (List.take _ (drawnOf _)) => Is8
    rename News _ _ _ _ => lN'
    rename Fr _ _ _ _ => lF'
    refine' due_spec rfl ?lwk1 ?lwk2 ?lwk3 ?lwk4 ?lwkK ?lwkd ?lwku ?lwkl Is8 ?lwp ?lwz ?_
    case lwk1 => k_asm
    case lwk2 => k_asm
    case lwk3 => k_asm
    case lwk4 => k_asm
    case lwkK => first | exact rfl | assumption
    case lwkd => ktr_room
    case lwku => ktr_units
    case lwkl => is_list
    case lwp => exact take_pos (drawn_len _).1 (by decide)
    case lwz => exact take_le (drawn_len _).2
    intro R8 D8 h8 tk8 u1 u2 u3 out8 ms8 c18 c28 K8 e1 e2 f1 f2 Id8 Pd8 Sd8
    obtain ⟨F8, N8⟩ := newsAdd2 lF' lN' K8 f1 e1 f2 e2
    clear lF' lN' K8 e1 e2 f1 f2
    (try dsimp only)
    rename News _ _ _ _ => N7
    refine' law_cmp (take_mem (drawn_mem _)) ?lwz (N7 _ (.tail _ (.tail _ (.tail _ (.head _))))).1 (N7 _ (.tail _ (.tail _ (.tail _ (.tail _ (.head _)))))).1 It9 Pt9 St9 Lo9 Hi9 (N7 _ (.head _)).1 (N7 _ (.tail _ (.head _))).1 Id8 Pd8 Sd8 ?lwu ?_
    case lwz => exact take_pos (drawn_len _).1 (by decide)
    case lwu => ktr_units
    (try dsimp only)
    (try k_fold)
    k_steps
    rename News _ _ _ _ => N7
    rename Fr _ _ _ _ => F7
    refine TEnd.intro cf9 F7 N7 okc (List.forall_mem_cons.mpr ⟨.tail _ (.tail _ (.tail _ (.tail _ (.tail _ (.tail _ (.head _)))))), List.forall_mem_cons.mpr ⟨.tail _ (.tail _ (.tail _ (.tail _ (.tail _ (.tail _ (.tail _ (.head _))))))), fun p hp => ?_⟩⟩)
    exact .tail _ (.tail _ (.tail _ (.tail _ (.tail _ (.tail _ (.tail _ (.tail _ hp)))))))
  case lw2 =>
    clear lF' lN' lR'
    intro i9 t9 h9 tk9 I9 a9 b9 cf9 i0 i1 okc F9 N9
    all_goals try k_fold
    k_steps
    delta Stop
    rename IntsAre _ (List.take _ (drawnOf _)) => Is9
    rename News _ _ _ _ => Ns9
    refine' told_again rfl ?lwk1 ?lwk2 ?lwk3 ?lwk4 ?lwkK hb' ?lwkN ?lwko okc hc1 ?lwkd ?lwku ?lwkl Is9 ?lwp ?lwz ?_
    case lwk1 => k_asm
    case lwk2 => k_asm
    case lwk3 => k_asm
    case lwk4 => k_asm
    case lwkK => first | exact rfl | assumption
    case lwkN => exact fun p hp => Ns9 p (by revert p hp; exact List.forall_mem_cons.mpr ⟨.tail _ (.tail _ (.tail _ (.head _))), List.forall_mem_cons.mpr ⟨.tail _ (.tail _ (.tail _ (.tail _ (.head _)))), List.forall_mem_cons.mpr ⟨.tail _ (.tail _ (.tail _ (.tail _ (.tail _ (.head _))))), List.forall_mem_nil _⟩⟩⟩)
    case lwko => exact fun p hp => (Ns9 p (.tail _ (.tail _ (.tail _ hp)))).1
    case lwkd => ktr_room
    case lwku => ktr_units
    case lwkl => is_list
    case lwp => exact take_pos (drawn_len _).1 (by omega)
    case lwz => exact take_le (drawn_len _).2
    intro R9 D9 h9 tk9 t1 t2 t3 out9 ms9 x19 x29 c19 c29 K9 e1 e2 f1 f2 It9 Pt9 St9 Lo9 Hi9
    rename Fr _ _ _ _ => lF'
    obtain ⟨F9, N9⟩ := newsAdd2 lF' Ns9 K9 f1 e1 f2 e2
    clear lF' Ns9 K9 e1 e2 f1 f2
    (try k_fold)
    k_steps
    delta Stop
    rename IntsAre _ (List.take _ (drawnOf _)) => Is8
    rename News _ _ _ _ => lN'
    rename Fr _ _ _ _ => lF'
    refine' due_spec rfl ?lwk1 ?lwk2 ?lwk3 ?lwk4 ?lwkK ?lwkd ?lwku ?lwkl Is8 ?lwp ?lwz ?_
    case lwk1 => k_asm
    case lwk2 => k_asm
    case lwk3 => k_asm
    case lwk4 => k_asm
    case lwkK => first | exact rfl | assumption
    case lwkd => ktr_room
    case lwku => ktr_units
    case lwkl => is_list
    case lwp => exact take_pos (drawn_len _).1 (by omega)
    case lwz => exact take_le (drawn_len _).2
    intro R8 D8 h8 tk8 u1 u2 u3 out8 ms8 c18 c28 K8 e1 e2 f1 f2 Id8 Pd8 Sd8
    obtain ⟨F8, N8⟩ := newsAdd2 lF' lN' K8 f1 e1 f2 e2
    clear lF' lN' K8 e1 e2 f1 f2
    (try dsimp only)
    rename News _ _ _ _ => N7
    refine' law_cmp (take_mem (drawn_mem _)) ?lwz (N7 _ (.tail _ (.tail _ (.tail _ (.head _))))).1 (N7 _ (.tail _ (.tail _ (.tail _ (.tail _ (.head _)))))).1 It9 Pt9 St9 Lo9 Hi9 (N7 _ (.head _)).1 (N7 _ (.tail _ (.head _))).1 Id8 Pd8 Sd8 ?lwu ?_
    case lwz => exact take_pos (drawn_len _).1 (by omega)
    case lwu => ktr_units
    (try dsimp only)
    (try k_fold)
    k_steps
    rename News _ _ _ _ => N7
    rename Fr _ _ _ _ => F7
    refine TEnd.intro cf9 F7 N7 okc (List.forall_mem_cons.mpr ⟨.tail _ (.tail _ (.tail _ (.tail _ (.tail _ (.tail _ (.head _)))))), List.forall_mem_cons.mpr ⟨.tail _ (.tail _ (.tail _ (.tail _ (.tail _ (.tail _ (.tail _ (.head _))))))), fun p hp => ?_⟩⟩)
    exact .tail _ (.tail _ (.tail _ (.tail _ (.tail _ (.tail _ (.tail _ (.tail _ hp)))))))
  case lw3 =>
    clear lF' lN' lR'
    intro v9 h9 tk9 ps9 qs9 F9 N9
    all_goals try k_fold
    k_steps
end Mine
end
theorem PySem.Challenge.cw_pu0025_01_holds : PySem.Challenge.rw_pu0025_01.Holds :=
  Mine.fin
