import PyProof.Rows.All
import Wide.All
import OpenK.AllK
import Wide.FinOn
import PySem.Builtin.Math.Norm
import PyProof.AttrMissHeap
import Flt.RightMore
import Flt.Zero
import KE.KCompFold
import KE.KLcTest
import KE.KDictList
import KE.KFmtOwn
import KE.KMulAny
import KE.KTryDeep
import Lean
import PySem.Challenge.RW_kq0023_01
set_option Elab.async false
set_option linter.all false
local macro_rules | `(tactic| walk_at $s:str) => do
  let t := Lean.Syntax.mkStrLit ("my " ++ s.getString)
  `(tactic| k_extra $t)
section
open PySem PySem.W PyProof.Rows
set_option maxRecDepth 100000
set_option maxHeartbeats 8000000
namespace Mine
theorem zz_H2a : True := by
  w_top off
  k_with_none
  trivial
def vwBody : List Stmt := [0, 1, 3, 4, 5, 8, 9].filterMap fun i => PySem.Challenge.pw_kq0023_01.main.body[i]?
def vw : Program := { PySem.Challenge.pw_kq0023_01 with main := { PySem.Challenge.pw_kq0023_01.main with body := vwBody } }
end Mine
set_option hygiene false in
local macro_rules | `(tactic| o_head (kHook $K $as $e)) => `(tactic|
  (refine holds_open (q := Mine.vw) (loose := [Str.ofString "_tuplegetter", Str.ofString "LinearRegression", Str.ofString "linear_regression"]) (Xt := fun s => xlAt Mine.vw [] s && recOk (RowW.records (OpenRow.toRowW (OpenLaw.row PySem.Challenge.rw_kq0023_01))) s) (XP := XL Mine.vw []) (Yf := Hook.obs (kHook (fun Q => ((179 : Addr), ({ cls := Value.none, data := Data.fields #[] } : Obj)) :: $K Q) (179 :: $as) (fun _ => by kernel_rfl))) (Ya := Hook.val (kHook (fun Q => ((179 : Addr), ({ cls := Value.none, data := Data.fields #[] } : Obj)) :: $K Q) (179 :: $as) (fun _ => by kernel_rfl))) (YP := Hook.says (kHook (fun Q => ((179 : Addr), ({ cls := Value.none, data := Data.fields #[] } : Obj)) :: $K Q) (179 :: $as) (fun _ => by kernel_rfl))) (N := 3222) ?hl (Hook.of (kHook (fun Q => ((179 : Addr), ({ cls := Value.none, data := Data.fields #[] } : Obj)) :: $K Q) (179 :: $as) (fun _ => by kernel_rfl))) (Hook.keeps (kHook (fun Q => ((179 : Addr), ({ cls := Value.none, data := Data.fields #[] } : Obj)) :: $K Q) (179 :: $as) (fun _ => by kernel_rfl))) (fun s e => xl_of s (Bool.and_eq_true_iff.mp e).1) XL.keeps (by rfl) (by rfl) (by rfl) (fun s e => recFacts_of (Bool.and_eq_true_iff.mp e).2) (by rfl) (by first | assumption | decide +kernel) (by decide +kernel) ⟨rfl, rfl, rfl, rfl, rfl, by decide +kernel⟩ ?hw ?hc
   case hl => exact fun w => by kernel_rfl))
open_top Mine.hd for PySem.Challenge.rw_kq0023_01
end

section
open PySem PySem.W PySem.Calls PyProof.Rows PySem.Spec
set_option maxRecDepth 100000
set_option maxHeartbeats 1000000
namespace Mine
def tabObj (ps : Array Value) : Obj := { cls := .none, data := .fields ps }
def allOf : Nat → Bool := fun _ => true
theorem passing_all (n : Nat) : passing allOf n 0 = List.range n := by
  unfold passing allOf
  simp
/-- a generator over a list, not yet started: what a builtin that draws on it needs -/
structure GenIs (prog : Program) (w : World) (A : Around) (a C I ay : Addr) (ks : List Addr) (g n : Nat) (F : Nat → Value → Prop) (s : Shared) : Prop where
  walks : WalksS prog w A.in4 a (a :: C :: I :: ay :: cStatics :: ks) (C :: [I]) (GenOnlyQ g) (passing allOf n 0).length (fun j y => ∃ i, (passing allOf n 0)[j]? = some i ∧ F i y) (GenAt prog w A.in4 a g C (I :: ay :: cStatics :: ks) [I] allOf n F)
  at0 : GenAt prog w A.in4 a g C (I :: ay :: cStatics :: ks) [I] allOf n F 0 s
section
variable {prog : Program} {w : World} {A : Around} {E : Value → Shared → Prop} {s : Shared} {env : Env} {elt iter : Expr} {x : Str} {px pos : Pos} {scope : Scope} {cl : List (Str × Addr)} {xs : List Value} {ay c P bm : Addr} {ps : Array Value} {ob : Obj} {mg : Str → Option Value} {ks : List Addr} {F : Nat → Value → Prop} {Q : Value → Shared → Prop}
end
end Mine
end

section
open PySem PySem.W PySem.Calls PyProof.Rows PySem.Spec
set_option maxRecDepth 100000
set_option maxHeartbeats 1000000
namespace Mine
section
variable {p : Program} {loose : List Str} {mean : ExcName → Option Value} {mg mb : Str → Option Value} {h : Heap} {P : Addr} {ps : Array Value}
/-- the heap without the code table P -/
abbrev hidP (h : Heap) (P : Addr) : Heap := hideAll h [P]
theorem hid_get {b : Addr} {o : Obj} (e : h.get? b = some o) (hb : b ≠ P) : (hidP h P).get? b = some o := hideAll_get [P] e (by simpa using hb)
theorem hid_none : (hidP h P).get? P = none := hideAll_none [P] (by simp)
theorem hid_back {b : Addr} {o : Obj} (e : (hidP h P).get? b = some o) : h.get? b = some o ∧ b ≠ P := by
  have hb : b ≠ P := fun eb => by rw [eb, hid_none] at e; cases e
  refine ⟨?_, hb⟩
  have e' : (h.update P fun o => { o with data := .freed }).get? b = some o := e
  rw [Heap.get?_update_other _ _ (Ne.symm hb)] at e'
  exact e'
theorem hid_but (hP : h.get? P = some (tabObj ps)) {b : Addr} {o : Obj} (e : h.get? b = some o) (ho : o ≠ tabObj ps) : (hidP h P).get? b = some o :=
  hid_get e fun eb => ho (by rw [eb, hP] at e; exact (Option.some.inj e).symm)
theorem ns_hid (hP : h.get? P = some (tabObj ps)) {a : Addr} {m : Str → Option Value} (hn : h.Ns a m) : (hidP h P).Ns a m := by
  obtain ⟨o, es, ep, e, hd, r⟩ := hn
  exact ⟨o, es, ep, hid_but hP e (fun z => by rw [z] at hd; cases hd), hd, r⟩
theorem rec_hid (hP : h.get? P = some (tabObj #[])) {cd : Value} {q : Str} (x : h.CodeRec cd q) : (hidP h P).CodeRec cd q := by
  obtain ⟨c, o, vs, t, e, g, hd, hv⟩ := x
  refine ⟨c, o, vs, t, e, hid_but hP g (fun z => ?_), hd, hv⟩
  rw [z] at hd
  have : vs = #[] := by cases hd; rfl
  rw [this] at hv
  cases hv
theorem tail_hid (hP : h.get? P = some (tabObj ps)) {bmB tl : List Value} (T : OwnTailQ h bmB tl) : OwnTailQ (hidP h P) bmB tl := by
  induction T with
  | base => exact .base
  | own hA hN hq _ ih => exact .own (hid_but hP hA (fun z => by cases z)) (ns_hid hP hN) hq ih
theorem own_hid (hP : h.get? P = some (tabObj ps)) {x : Str} {C : Addr} {bmB : List Value} {newId : String} (O : OwnClsQ x C bmB newId mg h) : OwnClsQ x C bmB newId mg (hidP h P) := by
  obtain ⟨bm, N, nm, q, bs, hdct, sn, sub, ab, col, dd, k0, k1, k2, k3, k5, mN, hC, hN, hq, T⟩ := O.obj
  exact ⟨O.bound, bm, N, nm, q, bs, hdct, sn, sub, ab, col, dd, k0, k1, k2, k3, k5, mN, hid_but hP hC (fun z => by cases z), ns_hid hP hN, hq, tail_hid hP T⟩
theorem seer_hid (hP : h.get? P = some (tabObj ps)) (x : h.NoSeer) : (hidP h P).NoSeer where
  statics := let ⟨mc, h1, r⟩ := x.statics; ⟨mc, ns_hid hP h1, r⟩
  mods := let ⟨mm, h1, r⟩ := x.mods; ⟨mm, ns_hid hP h1, r⟩
  imp := let ⟨mb, h1, r⟩ := x.imp; ⟨mb, ns_hid hP h1, r⟩
  main := let ⟨mg, bm, ob, h1, h2, h3, h4, r⟩ := x.main; ⟨mg, bm, ob, ns_hid hP h1, h2, hid_but hP h3 (fun z => by rw [z] at h4; cases h4), h4, r⟩
theorem top_hid (hP : h.get? P = some (tabObj #[])) (T : Top p loose mean mg mb h)
    (htab : ∀ d ∈ recsOf p, ∀ a o fd c P', mg d.name = some (.ref a) → h.get? a = some o → o.data = .func fd → fd.code = .ref c → h.IsCode c P' #[] → P' ≠ P) : Top p loose mean mg mb (hidP h P) where
  g := ns_hid hP T.g
  b := ns_hid hP T.b
  nolimit := let ⟨mc, h1, h2⟩ := T.nolimit; ⟨mc, ns_hid hP h1, h2⟩
  nodigits := let ⟨mc, h1, h2⟩ := T.nodigits; ⟨mc, ns_hid hP h1, h2⟩
  fn := fun d hd => let ⟨a, o, pm, code, doc, h1, h2, h3, h4⟩ := T.fn d hd; ⟨a, o, pm, code, doc, h1, hid_but hP h2 (fun z => by rw [z] at h3; cases h3), h3, rec_hid hP h4⟩
  own := fun o ho => let ⟨C, O, hm⟩ := T.own o ho; ⟨C, own_hid hP O, hm⟩
  const := T.const
  free := T.free
  builtins := T.builtins
  tab := fun d hd => by
    obtain ⟨a, o, fd, c, P', h1, h2, h3, h4, h5, h6⟩ := T.tab d hd
    have hne := htab d hd a o fd c P' h1 h2 h3 h4 h5
    have hcne : c ≠ P := fun e => by
      obtain ⟨⟨o', vs, e1, e2, e3, e4⟩, _⟩ := h6
      rw [e, hP] at e1
      have : o' = tabObj #[] := (Option.some.inj e1).symm
      rw [this] at e2; cases e2
    refine ⟨a, o, fd, c, P', h1, hid_but hP h2 (fun z => by rw [z] at h3; cases h3), h3, h4, ?_, ?_⟩
    · obtain ⟨o', vs, file, tf, flags, tg, inF, text, tt, op, x1, r1, r2, r3, r4, r5, r6, x2, r⟩ := h5
      exact ⟨o', vs, file, tf, flags, tg, inF, text, tt, op, hid_get x1 hcne, r1, r2, r3, r4, r5, r6, hid_get x2 hne, r⟩
    · obtain ⟨⟨o', vs, x1, r⟩, t⟩ := h6
      exact ⟨⟨o', vs, hid_get x1 hcne, r⟩, hid_get t hne⟩
  bmain := let ⟨bm, ob, h1, h2, h3, h4, r⟩ := T.bmain; ⟨bm, ob, h1, h2, hid_but hP h3 (fun z => by rw [z] at h4; cases h4), h4, r⟩
  seer := fun hi => seer_hid hP (T.seer hi)
theorem fr_hid {L : Addr} {h' : Heap} {m : Str → Option Value} (F : Fr h L h' m) : Fr (hidP h P) L h' m :=
  ⟨F.ns, fun b o e => F.keep b o (hid_back e).1, by rw [hideAll_size]; exact F.above⟩
theorem in_hid {K : Frag} (X : K.In h) (hK : K.lookup P = none) : K.In (hidP h P) := fun a o e => hid_get (X a o e) fun eb => by rw [eb, hK] at e; cases e
theorem news_hid {L : Addr} {h' : Heap} {m : Str → Option Value} {news : List (Addr × Obj)} (hP : h.get? P = some (tabObj ps)) (F : Fr h L h' m) (N : News h L h' news) : News (hidP h P) L h' ((P, tabObj ps) :: news) := fun q hq => by
  rcases List.mem_cons.mp hq with rfl | hq
  · exact ⟨F.keep _ _ hP, fun e => by
      have := F.above
      have hlt := Heap.lt_size hP
      have e : P = L := e
      rw [e] at hlt
      exact Nat.lt_irrefl _ (Nat.lt_of_lt_of_le hlt this), hid_none⟩
  · refine ⟨(N q hq).1, (N q hq).2.1, ?_⟩
    cases e : (hidP h P).get? q.1 with
    | none => rfl
    | some o => have := (hid_back e).1; rw [(N q hq).2.2] at this; cases this
end
end Mine
end

section
open PySem PySem.W PySem.Calls PyProof.Rows PySem.Spec
set_option maxRecDepth 100000
namespace Mine
theorem oldK_end {h₁ h' : Heap} {P c L : Addr} {ps : Array Value} {m : Str → Option Value} (hP : h₁.get? P = some (tabObj #[])) (hT : h₁.TableAt c P #[]) (F : Fr (hidP h₁ P) L h' m) (hP' : h'.get? P = some (tabObj ps)) : OldK h₁ h' := by
  constructor
  · intro b o e
    by_cases hb : b = P
    · subst hb
      rw [hP] at e
      cases e
      exact .inr (.inl ⟨hT.isCodeTable, rfl, #[], ps, rfl, by rw [hP']; simp [tabObj]⟩)
    · exact .inl (F.keep b o (hid_get e hb))
  · intro b o e
    by_cases hb : b = P
    · subst hb; exact ⟨_, hP'⟩
    · exact ⟨o, F.keep b o (hid_get e hb)⟩
theorem goodWG_true {c : ClaimW} {cl : Str → Option Addr} {mean : ExcName → Option Value} {args : List WData} {s₁ s' : Shared} (hK : OldK s₁.heap s'.heap) (hos : s'.os = s₁.os) (hg : AllBare s'.gens) (hn : ∀ cls, c.raises args cls = false) (hp : c.post args (.bool true) args = true) :
    GoodWG c cl mean args s₁ (.ok (.ret (.bool true))) s' :=
  ⟨.inl ⟨_, _, _, rfl, hn, .bool true, hp, unshared_nil⟩, hK, hos, hg⟩
end Mine
end

section
namespace Mine
open PySem PySem.Float64

/-- `x` is finite and its value, times 2^1074, is `v`. -/
def Ex (x : UInt64) (v : Int) : Prop := ∃ a m e, decode x = .fin a m e ∧ val x = v
/-- `v` (times 2^-1074) is a double. -/
def Fits (v : Int) : Prop := ∃ t, t < infMag ∧ V t = v.natAbs

theorem Ex.fin {x v} (h : Ex x v) : isFinite x = true := by
  obtain ⟨a, m, e, hd, _⟩ := h; unfold isFinite; rw [hd]
theorem Ex.notNaN {x v} (h : Ex x v) : isNaN x = false := by
  obtain ⟨a, m, e, hd, _⟩ := h; unfold isNaN; rw [hd]
theorem Ex.notInf {x v} (h : Ex x v) : isInf x = false := by
  obtain ⟨a, m, e, hd, _⟩ := h; unfold isInf; rw [hd]
theorem Ex.val {x v} (h : Ex x v) : val x = v := by obtain ⟨a, m, e, hd, hv⟩ := h; exact hv
theorem Ex.to {x v w} (h : Ex x v) (e : v = w) : Ex x w := e ▸ h

theorem Ex.pack (neg : Bool) {t : Nat} (h : t < infMag) : Ex (pack neg t) (sgn neg (V t)) := by
  obtain ⟨m, e, hd, _⟩ := decode_pack neg h
  exact ⟨neg, m, e, hd, val_pack neg h⟩
theorem Ex.zero (neg : Bool) : Ex (zero neg) 0 := by
  have := Ex.pack neg (t := 0) (by decide)
  rw [V_zero] at this
  exact this.to (by cases neg <;> rfl)

theorem fits_nat : ∀ (k n : Nat), n ≤ 2 ^ 53 → k ≤ 1990 → ∃ t, t < infMag ∧ V t = n * 2 ^ k := by
  intro k
  induction k with
  | zero =>
    intro n hn _
    refine ⟨n, by have : infMag = 2047 * 2 ^ 52 := rfl; omega, ?_⟩
    have := V_at (k := 0) (q := n) hn (.inr rfl)
    simpa using this
  | succ k ih =>
    intro n hn hk
    by_cases h : 2 ^ 52 ≤ n
    · refine ⟨(k + 1) * 2 ^ 52 + n, ?_, V_at hn (.inl h)⟩
      have : infMag = 2047 * 2 ^ 52 := rfl
      omega
    · obtain ⟨t, ht, hv⟩ := ih (2 * n) (by omega) (by omega)
      refine ⟨t, ht, hv.trans ?_⟩
      rw [Nat.pow_succ]; ac_rfl
theorem Fits.of (n : Int) (k : Nat) (hn : n.natAbs ≤ 2 ^ 53) (hk : k ≤ 1990) : Fits (n * 2 ^ k) := by
  obtain ⟨t, ht, hv⟩ := fits_nat k n.natAbs hn hk
  refine ⟨t, ht, hv.trans ?_⟩
  rw [Int.natAbs_mul, Int.natAbs_pow]; rfl
theorem Fits.zero : Fits 0 := ⟨0, by decide, V_zero⟩
theorem Fits.neg {v} (h : Fits v) : Fits (-v) := by obtain ⟨t, a, b⟩ := h; exact ⟨t, a, b.trans (Int.natAbs_neg v).symm⟩

theorem decode_lt {x : UInt64} {a m e} (h : decode x = .fin a m e) : x.toNat % 2 ^ 63 < infMag := by
  have hi : infMag = 2047 * 2 ^ 52 := rfl
  unfold decode at h
  simp only at h
  split at h
  · split at h <;> cases h
  · rename_i h1
    have h1' : x.toNat / 2 ^ 52 % 2048 ≠ 2047 := by simpa using h1
    omega
theorem Ex.fits {x v} (h : Ex x v) : Fits v := by
  obtain ⟨a, m, e, hd, hv⟩ := h
  have hlt := decode_lt hd
  have hx : x = PySem.Float64.pack (decide (x.toNat / 2 ^ 63 = 1)) (x.toNat % 2 ^ 63) := by
    apply UInt64.toNat_inj.mp
    rw [pack_toNat _ (Nat.mod_lt _ (Nat.two_pow_pos _))]
    have := x.toNat_lt
    by_cases q : x.toNat / 2 ^ 63 = 1
    · simp only [q, decide_true, if_true]; omega
    · simp only [q, decide_false]
      have : x.toNat / 2 ^ 63 = 0 := by omega
      simp; omega
  refine ⟨_, hlt, ?_⟩
  have := (Ex.pack (decide (x.toNat / 2 ^ 63 = 1)) hlt)
  rw [← hx] at this
  rw [← hv, this.val]
  exact (sgn_natAbs _ _).symm

theorem V_last : V (infMag - 1) = (2 ^ 53 - 1) * 2 ^ 2045 := by
  have e : infMag - 1 = 2045 * 2 ^ 52 + (2 ^ 53 - 1) := by unfold infMag; omega
  rw [e]
  exact V_at (k := 2045) (q := 2 ^ 53 - 1) (by omega) (.inl (by omega))

theorem right_exact {r neg W D t} (hr : Right r neg W D) (hD : 0 < D) (ht : t < infMag) (hW : W = D * V t) : Ex r (sgn neg (V t)) := by
  obtain ⟨t', rfl, hle, hov, hn⟩ := hr
  have hlt : t' < infMag := by
    rcases Nat.lt_or_ge t' infMag with h | h
    · exact h
    · exfalso
      have h1 := hov.mp (by omega)
      have h2 : V t ≤ (2 ^ 53 - 1) * 2 ^ 2045 := by rw [← V_last]; exact V_mono (by omega)
      have h3 : D * V t ≤ D * ((2 ^ 53 - 1) * 2 ^ 2045) := Nat.mul_le_mul_left D h2
      have hZ : (0 : Nat) < 2 ^ 2045 := Nat.two_pow_pos _
      generalize (2 : Nat) ^ 2045 = Z at *
      have e2 : (2 ^ 54 - 1) * Z = 2 * ((2 ^ 53 - 1) * Z) + Z := by omega
      have e3 : D * ((2 ^ 54 - 1) * Z) = 2 * (D * ((2 ^ 53 - 1) * Z)) + D * Z := by rw [e2, Nat.mul_add, Nat.mul_left_comm]
      have hDZ : 0 < D * Z := Nat.mul_pos hD hZ
      rw [e3] at h1
      omega
  have h4 := (hn hlt t).1
  have h5 : dist W (D * V t) = 0 := by rw [hW]; unfold dist; omega
  rw [h5] at h4
  have h6 : D * V t' = D * V t := by rw [← hW]; unfold dist at h4; omega
  have h7 : V t' = V t := Nat.eq_of_mul_eq_mul_left hD h6
  exact (Ex.pack neg hlt).to (by rw [h7])

theorem sgn_of (v : Int) : sgn (decide (v < 0)) v.natAbs = v := by
  unfold sgn
  by_cases h : v < 0
  · simp only [h, decide_true, if_true]; omega
  · simp only [h, decide_false]; simp; omega

theorem Ex.add {x y u v} (hx : Ex x u) (hy : Ex y v) (hf : Fits (u + v)) : Ex (add x y) (u + v) := by
  obtain ⟨a, m, e, hdx, rfl⟩ := hx
  obtain ⟨b, k, f, hdy, rfl⟩ := hy
  have h := add_right hdx hdy
  by_cases h0 : PySem.Float64.val x + PySem.Float64.val y = 0
  · rw [h.1 h0, h0]; exact Ex.zero _
  · obtain ⟨t, ht, hv⟩ := hf
    have := right_exact (h.2 h0) (by decide) ht (by rw [hv]; omega)
    exact this.to (by rw [hv, sgn_of])
theorem Ex.neg {y v} (hy : Ex y v) : Ex (neg y) (-v) := by
  obtain ⟨b, k, f, hdy, rfl⟩ := hy
  exact ⟨_, _, _, neg_decode hdy, neg_val hdy⟩
theorem Ex.sub {x y u v} (hx : Ex x u) (hy : Ex y v) (hf : Fits (u - v)) : Ex (sub x y) (u - v) := by
  have h := (hx.add hy.neg (by rw [← Int.sub_eq_add_neg]; exact hf)).to (Int.sub_eq_add_neg).symm
  unfold Float64.sub
  exact h

theorem sgn_xor (a b : Bool) (m k : Nat) : sgn (a != b) (m * k) = sgn a m * sgn b k := by
  unfold sgn; cases a <;> cases b <;> simp [Int.neg_mul, Int.mul_neg, Int.natCast_mul]

theorem Ex.mul {x y u v w} (hx : Ex x u) (hy : Ex y v) (hw : u * v = w * 2 ^ 1074) (hf : Fits w) : Ex (mul x y) w := by
  obtain ⟨a, m, e, hdx, hu⟩ := hx
  obtain ⟨b, k, f, hdy, hv⟩ := hy
  obtain ⟨t, ht, hvt⟩ := hf
  have h := mul_right hdx hdy
  rw [hu, hv] at h
  have hK : (0 : Nat) < 2 ^ 1074 := Nat.two_pow_pos _
  have e1 : u.natAbs * v.natAbs = 2 ^ 1074 * V t := by
    rw [hvt, ← Int.natAbs_mul, hw, Int.natAbs_mul, Int.natAbs_pow, Nat.mul_comm]; rfl
  have := right_exact h hK ht e1
  refine this.to ?_
  have hs : sgn (a != b) (u.natAbs * v.natAbs) = u * v := by
    rw [← hu, ← hv, sgn_xor, val_eq hdx, val_eq hdy, sgn_natAbs, sgn_natAbs]
  rw [hw, e1, Nat.mul_comm, sgn_mul] at hs
  have h2 : ((2 ^ 1074 : Nat) : Int) = (2 : Int) ^ 1074 := by simp
  rw [h2] at hs
  exact Int.eq_of_mul_eq_mul_right (Int.ne_of_gt (Int.pow_pos (by decide))) hs
theorem Ex.ofInt {i : Int} (hf : Fits (i * 2 ^ 1074)) : Ex (ofInt i) (i * 2 ^ 1074) := by
  obtain ⟨t, ht, hv⟩ := hf
  have e1 : (i * 2 ^ 1074).natAbs = i.natAbs * 2 ^ 1074 := by rw [Int.natAbs_mul, Int.natAbs_pow]; rfl
  have := right_exact (ofInt_right i) (by decide) ht (by rw [hv, e1]; omega)
  refine this.to ?_
  rw [hv, e1, sgn_mul, sgn_of]
  congr 1
theorem Ex.div {x y u v w} (hx : Ex x u) (hy : Ex y v) (hv0 : v ≠ 0) (hw : u * 2 ^ 1074 = w * v) (hf : Fits w) : Ex (div x y) w := by
  obtain ⟨a, m, e, hdx, hu⟩ := hx
  obtain ⟨b, k, f, hdy, hv⟩ := hy
  obtain ⟨t, ht, hvt⟩ := hf
  have hk : k ≠ 0 := by
    rintro rfl
    rw [val_eq hdy] at hv
    apply hv0; rw [← hv]; unfold sgn; split <;> simp
  have h := div_right hdx hdy hk
  rw [hu, hv] at h
  have hvpos : 0 < v.natAbs := by omega
  have e1 : u.natAbs * 2 ^ 1074 = v.natAbs * V t := by
    have := congrArg Int.natAbs hw
    rw [Int.natAbs_mul, Int.natAbs_mul, Int.natAbs_pow] at this
    rw [hvt, Nat.mul_comm v.natAbs]; exact this
  have := right_exact h hvpos ht e1
  refine this.to ?_
  have s1 : sgn a (u.natAbs) = u := by rw [← hu, val_eq hdx, sgn_natAbs]
  have s2 : sgn b (v.natAbs) = v := by rw [← hv, val_eq hdy, sgn_natAbs]
  -- sgn (a != b) (V t) = w
  have s3 : sgn (a != b) (V t) * v = w * v := by
    rw [← hw, ← s1, ← s2]
    have h2 : ((2 ^ 1074 : Nat) : Int) = (2 : Int) ^ 1074 := by generalize (1074 : Nat) = k; simp
    rw [← h2, ← sgn_mul, e1, Nat.mul_comm v.natAbs]
    generalize v.natAbs = V'
    generalize V t = T
    unfold sgn; cases a <;> cases b <;> simp [Int.neg_mul, Int.mul_neg, Int.natCast_mul]
  exact Int.eq_of_mul_eq_mul_right hv0 s3
end Mine
end

section
namespace Mine
open PySem PySem.Float64

/-! quotients -/
/-- `r` is the double nearest to `n / d`. -/
def Quo (r : UInt64) (n d : Int) : Prop := d ≠ 0 ∧ (n = 0 → Ex r 0) ∧ (n ≠ 0 → Right r (decide (n < 0) != decide (d < 0)) (n.natAbs * 2 ^ 1074) d.natAbs)

theorem Ex.notZero {x v} (h : Ex x v) : isZero x = decide (v = 0) := by
  obtain ⟨a, m, e, hd, hv⟩ := h
  rw [val_eq hd] at hv
  unfold isZero
  rw [hd]
  have hp : 0 < 2 ^ (e + 1074).toNat := Nat.two_pow_pos _
  cases m with
  | zero => simp at hv; symm; simp; rw [← hv]; unfold sgn; split <;> simp
  | succ m =>
    have : v ≠ 0 := by
      rw [← hv]
      have : 0 < (m + 1) * 2 ^ (e + 1074).toNat := Nat.mul_pos (Nat.succ_pos _) hp
      unfold sgn; split <;> omega
    simp [this]

theorem sgn_neg_iff {a : Bool} {k : Nat} (hk : 0 < k) : decide (sgn a k < 0) = a := by
  unfold sgn; cases a <;> simp <;> omega

theorem Ex.quo {x y u v} (hx : Ex x u) (hy : Ex y v) (hv : v ≠ 0) : Quo (PySem.Float64.div x y) u v := by
  obtain ⟨a, m, e, hdx, hu⟩ := hx
  obtain ⟨b, k, f, hdy, hv'⟩ := hy
  have hv2 := hv'
  rw [val_eq hdy] at hv2
  have hk : k ≠ 0 := by rintro rfl; apply hv; rw [← hv2]; unfold sgn; split <;> simp
  have h := div_right hdx hdy hk
  rw [hu, hv'] at h
  have hu2 := hu
  rw [val_eq hdx] at hu2
  have hb : decide (v < 0) = b := by rw [← hv2]; exact sgn_neg_iff (Nat.mul_pos (by omega) (Nat.two_pow_pos _))
  refine ⟨hv, fun h0 => ?_, fun h0 => ?_⟩
  · rw [h0] at h
    have := right_exact h (by omega) (t := 0) (by decide) (by rw [V_zero]; simp)
    refine this.to ?_
    rw [V_zero]; unfold sgn; split <;> rfl
  · have hm : m ≠ 0 := by rintro rfl; apply h0; rw [← hu2]; unfold sgn; split <;> simp
    have ha : decide (u < 0) = a := by rw [← hu2]; exact sgn_neg_iff (Nat.mul_pos (by omega) (Nat.two_pow_pos _))
    rw [ha, hb]; exact h

theorem quo_ofFrac {a b : Int} (hb : b ≠ 0) : Quo (ofFrac (decide (a < 0) != decide (b < 0)) a.natAbs b.natAbs) a b := by
  have h : Right (ofFrac (decide (a < 0) != decide (b < 0)) a.natAbs b.natAbs) (decide (a < 0) != decide (b < 0)) (a.natAbs * 2 ^ 1074) b.natAbs :=
    ofFrac_right (by omega) (by generalize (2:Nat) ^ 1074 = K; ac_rfl) (by omega)
  refine ⟨hb, fun h0 => ?_, fun _ => h⟩
  have h2 := h
  rw [show a.natAbs * 2 ^ 1074 = 0 by rw [h0]; simp] at h2
  have := right_exact h2 (by omega) (t := 0) (by decide) (by rw [V_zero]; simp)
  refine this.to ?_
  rw [V_zero]; unfold sgn; split <;> rfl

end Mine
end

section
namespace Mine
open PySem PySem.Float64 PySem.Builtin.Math

theorem Ex.cmp {x y u v} (hx : Ex x u) (hy : Ex y v) : Float64.cmp x y = some (compare u v) := by
  obtain ⟨a, m, e, hdx, rfl⟩ := hx
  obtain ⟨b, k, f, hdy, rfl⟩ := hy
  exact cmp_right hdx hdy
theorem Ex.cmpEq {x y u v} (hx : Ex x u) (hy : Ex y v) : (Float64.cmp x y == some .eq) = decide (u = v) := by
  rw [hx.cmp hy]
  by_cases h : u = v
  · subst h; simp
  · have : compare u v ≠ .eq := fun c => h (Int.compare_eq_eq.mp c)
    simp [h]
    try exact this
theorem Ex.cmpLt {x y u v} (hx : Ex x u) (hy : Ex y v) : (Float64.cmp x y == some .lt) = decide (u < v) := by
  rw [hx.cmp hy]
  by_cases h : u < v
  · simp [Int.compare_eq_lt.mpr h, h]
  · have : compare u v ≠ .lt := fun c => h (Int.compare_eq_lt.mp c)
    simp [h]
    try exact this
theorem Ex.lt {x y u v} (hx : Ex x u) (hy : Ex y v) : Float64.lt x y = decide (u < v) := hx.cmpLt hy
theorem Ex.cmpInt {x u} (hx : Ex x u) (i : Int) : Float64.cmpInt x i = some (compare u (i * 2 ^ 1074)) := by
  obtain ⟨a, m, e, hdx, rfl⟩ := hx
  exact cmpInt_right hdx i

theorem Ex.abs {x u} (hx : Ex x u) : Ex (Float64.abs x) (u.natAbs : Int) := by
  have hn := hx.notNaN
  obtain ⟨a, m, e, hdx, hu⟩ := hx
  have hlt := decode_lt hdx
  have h : Float64.abs x = PySem.Float64.pack false (x.toNat % 2 ^ 63) := by unfold Float64.abs; rw [if_neg (by simp [hn])]
  rw [h]
  have h2 := Ex.pack false hlt
  refine h2.to ?_
  have h3 : ∃ b, Ex x (sgn b (V (x.toNat % 2 ^ 63))) := by
    refine ⟨decide (x.toNat / 2 ^ 63 = 1), ?_⟩
    have hx' : x = PySem.Float64.pack (decide (x.toNat / 2 ^ 63 = 1)) (x.toNat % 2 ^ 63) := by
      apply UInt64.toNat_inj.mp
      rw [pack_toNat _ (Nat.mod_lt _ (Nat.two_pow_pos _))]
      have := x.toNat_lt
      by_cases q : x.toNat / 2 ^ 63 = 1
      · simp only [q, decide_true, if_true]; omega
      · simp only [q, decide_false]
        have : x.toNat / 2 ^ 63 = 0 := by omega
        simp; omega
    have := Ex.pack (decide (x.toNat / 2 ^ 63 = 1)) hlt
    rw [← hx'] at this
    exact this
  obtain ⟨b, hb⟩ := h3
  have : u = sgn b (V (x.toNat % 2 ^ 63)) := by rw [← hu]; exact hb.val
  rw [this, sgn_natAbs]; rfl

/-! triple length -/
theorem Ex.fmaZero {x y z u v w} (hx : Ex x u) (hy : Ex y v) (hz : Ex z w) (hw : u * v + w * 2 ^ 1074 = 0) : Ex (fma x y z) 0 := by
  obtain ⟨a, m, e, hdx, hu⟩ := hx
  obtain ⟨b, k, f, hdy, hv⟩ := hy
  obtain ⟨c, n, g, hdz, hz⟩ := hz
  have he := decode_ge hdx
  have hf := decode_ge hdy
  have hg := decode_ge hdz
  have hfma : ∃ ng r, fma x y z = (if (sgn (a != b) (m * k * 2 ^ (e + f - min (e + f) g).toNat) + sgn c (n * 2 ^ (g - min (e + f) g).toNat) == 0) then Float64.zero ng else r) := by
    unfold fma
    rw [hdx, hdy, hdz]
    exact ⟨_, _, rfl⟩
  obtain ⟨ng, r, hfma⟩ := hfma
  rw [hfma]
  have hs : sgn (a != b) (m * k * 2 ^ (e + f - min (e + f) g).toNat) + sgn c (n * 2 ^ (g - min (e + f) g).toNat) = 0 := by
    have hp : (sgn (a != b) (m * k * 2 ^ (e + f - min (e + f) g).toNat) + sgn c (n * 2 ^ (g - min (e + f) g).toNat)) * ((2 ^ (min (e + f) g + 2148).toNat : Nat) : Int) = u * v + w * 2 ^ 1074 := by
      rw [Int.add_mul, ← sgn_mul, ← sgn_mul, Nat.mul_assoc (m * k), Nat.mul_assoc n, ← Nat.pow_add, ← Nat.pow_add]
      have e1 : (e + f - min (e + f) g).toNat + (min (e + f) g + 2148).toNat = (e + 1074).toNat + (f + 1074).toNat := by omega
      have e2 : (g - min (e + f) g).toNat + (min (e + f) g + 2148).toNat = (g + 1074).toNat + 1074 := by omega
      rw [e1, e2, Nat.pow_add, Nat.pow_add, ← hu, ← hv, ← hz, val_eq hdx, val_eq hdy, val_eq hdz, ← sgn_xor]
      congr 1
      · congr 1; ac_rfl
      · rw [← Nat.mul_assoc, sgn_mul]
        congr 1
    rw [hw] at hp
    rcases Int.mul_eq_zero.mp hp with h | h
    · exact h
    · exfalso
      have : 0 < 2 ^ (min (e + f) g + 2148).toNat := Nat.two_pow_pos _
      omega
  rw [hs]
  exact Ex.zero _

theorem dlSum_ex {a b u v} (ha : Ex a u) (hb : Ex b v) (hf : Fits (u + v)) : Ex (dlSum a b).1 (u + v) ∧ Ex (dlSum a b).2 0 := by
  have h1 : Ex (Float64.add a b) (u + v) := ha.add hb hf
  have h2 : Ex (Float64.sub (Float64.add a b) a) v := (h1.sub ha (by rw [show u + v - u = v by omega]; exact hb.fits)).to (by omega)
  have h3 : Ex (Float64.sub (Float64.add a b) (Float64.sub (Float64.add a b) a)) u := (h1.sub h2 (by rw [show u + v - v = u by omega]; exact ha.fits)).to (by omega)
  have h4 := ha.sub h3 (by rw [Int.sub_self]; exact Fits.zero)
  have h5 := hb.sub h2 (by rw [Int.sub_self]; exact Fits.zero)
  refine ⟨h1, ?_⟩
  have := h4.add h5 (by simp only [Int.sub_self]; exact Fits.zero)
  exact this.to (by simp)

def TL (t : UInt64 × UInt64 × UInt64) (v : Int) : Prop := Ex t.1 v ∧ Ex t.2.1 0 ∧ Ex t.2.2 0
theorem TL.fma {x y u v w S t} (h : TL t S) (hx : Ex x u) (hy : Ex y v) (hw : u * v = w * 2 ^ 1074) (hfw : Fits w) (hfs : Fits (S + w)) : TL (tlFma x y t) (S + w) := by
  obtain ⟨h1, h2, h3⟩ := h
  have z : Ex (Float64.mul x y) w := hx.mul hy hw hfw
  have z2 : Ex (Float64.fma x y (Float64.neg (Float64.mul x y))) 0 := hx.fmaZero hy z.neg (by rw [hw, Int.neg_mul]; omega)
  obtain ⟨s1, s2⟩ := dlSum_ex h1 z hfs
  have F0 : Fits (0 + 0) := by simpa using Fits.zero
  obtain ⟨r1, r2⟩ := dlSum_ex h2 z2 F0
  obtain ⟨q1, q2⟩ := dlSum_ex (r1.to (by simp : (0:Int)+0 = 0)) s2 F0
  refine ⟨s1, q1.to (by simp), ?_⟩
  have := (h3.add r2 F0)
  exact ((this.to (by simp : (0:Int)+0=0)).add q2 F0).to (by simp)
theorem TL.float {t S} (h : TL t S) : Ex (tlToFloat t) S := by
  obtain ⟨h1, h2, h3⟩ := h
  obtain ⟨s1, s2⟩ := dlSum_ex h2 h1 (by simpa using h1.fits)
  have F0 : Fits (0 + 0) := by simpa using Fits.zero
  have := (h3.add s2 F0).to (by simp : (0:Int)+0 = 0)
  exact (this.add s1 (by simpa using h1.fits)).to (by simp)

/-! fsum -/
/-- the partials after an exact sum -/
def FS (ps : List UInt64) (v : Int) : Prop := (ps = [] ∧ v = 0) ∨ ∃ p, ps = [p] ∧ Ex p v ∧ v ≠ 0
theorem fsum_step {ps S x u} (h : FS ps S) (hx : Ex x u) (hf : Fits (S + u)) :
    isFinite (fsumAdd ps x).2 = true ∧ FS (if isZero (fsumAdd ps x).2 then (fsumAdd ps x).1 else (fsumAdd ps x).1 ++ [(fsumAdd ps x).2]) (S + u) := by
  rcases h with ⟨rfl, rfl⟩ | ⟨p, rfl, hp, hS⟩
  · refine ⟨hx.fin, ?_⟩
    show FS (if isZero x then [] else [] ++ [x]) (0 + u)
    rw [hx.notZero, Int.zero_add]
    by_cases h0 : u = 0
    · simp only [h0, decide_true, if_true]; exact .inl ⟨rfl, rfl⟩
    · simp only [h0, decide_false]; exact .inr ⟨x, rfl, hx, h0⟩
  · -- the pair, greater first
    have key : ∀ a b c d, Ex a c → Ex b d → c + d = S + u → Ex (Float64.add a b) (S + u) ∧ isZero (Float64.sub b (Float64.sub (Float64.add a b) a)) = true := by
      intro a b c d ha hb e
      have h1 : Ex (Float64.add a b) (c + d) := ha.add hb (by rw [e]; exact hf)
      have h2 : Ex (Float64.sub (Float64.add a b) a) d := (h1.sub ha (by rw [show c + d - c = d by omega]; exact hb.fits)).to (by omega)
      have h3 := hb.sub h2 (by rw [Int.sub_self]; exact Fits.zero)
      exact ⟨h1.to e, by rw [h3.notZero]; simp⟩
    have hres : ∃ r, fsumAdd [p] x = ([], r) ∧ Ex r (S + u) := by
      by_cases hl : Float64.lt (Float64.abs x) (Float64.abs p) = true
      · obtain ⟨k1, k2⟩ := key p x S u hp hx rfl
        refine ⟨_, ?_, k1⟩
        simp only [fsumAdd, hl, if_true, k2]
      · have hl' : Float64.lt (Float64.abs x) (Float64.abs p) = false := by simpa using hl
        obtain ⟨k1, k2⟩ := key x p u S hx hp (by omega)
        refine ⟨_, ?_, k1⟩
        simp only [fsumAdd, hl', Bool.false_eq_true, if_false, k2, if_true]
    obtain ⟨r, hr, hE⟩ := hres
    rw [hr]
    refine ⟨hE.fin, ?_⟩
    simp only
    rw [hE.notZero]
    by_cases h0 : S + u = 0
    · simp only [h0, decide_true, if_true]; exact .inl ⟨rfl, rfl⟩
    · simp only [h0, decide_false]; exact .inr ⟨r, rfl, hE, h0⟩
theorem fsum_end {ps S} (h : FS ps S) : Ex (fsumEnd ps) S := by
  rcases h with ⟨rfl, rfl⟩ | ⟨p, rfl, hp, hS⟩
  · exact Ex.zero false
  · exact hp
end Mine
end

section
namespace Mine
open PySem PySem.W PySem.Calls PyProof.Rows PySem.Flt
open Sem (wp)
set_option maxRecDepth 100000

/-- a number, its value times 2^1074 -/
inductive NumV : Value → Int → Prop
  | int {i : Int} (t : Tok) {v : Int} (e : v = i * 2 ^ 1074) (h : Fits v) : NumV (.int i t) v
  | float {x : UInt64} (t : Tok) {v : Int} (h : Ex x v) : NumV (.float x t) v

theorem not_over {n : Int} (h : Fits (n * 2 ^ 1074)) : ¬ Over n := fun o => by
  have := inf_of_over o
  rw [(Ex.ofInt h).notInf] at this
  cases this

namespace F
theorem kind_fsum : builtinKind "math.fsum" = none := by decide +kernel
theorem plain_fsum : plainId "math.fsum" = true := by decide +kernel
theorem entry_fsum : entryFor table "math.fsum" = some Builtin.«math.fsum» := entryFor_of_fast (by kernel_rfl)
theorem args_fsum (a : Value) : argsOk "math.fsum" ⟨[a], []⟩ := by unfold argsOk; kernel_rfl
theorem plain_fsum_loop : plainId "math.fsum.loop" = true := by decide +kernel
theorem entry_fsum_loop : entryFor table "math.fsum.loop" = some Builtin.«math.fsum.loop» := entryFor_of_fast (by kernel_rfl)
end F

section
variable {prog : Program} {w : World} {A : Around} {E : Value → Shared → Prop} {s : Shared}

theorem realArg_num {v : Value} {u : Int} {Q : UInt64 → Shared → Prop} (hA : A.handled = none) (hv : NumV v u) (h : ∀ x tk, Ex x u → s.toks ≤ tk → Q x { s with toks := tk }) :
    wpAny (model prog w) A (Builtin.Math.realArg v) Q E s := by
  cases hv with
  | int t e hf => subst e; exact realArg_int hA (fun o => absurd o (not_over hf)) fun _ => h _ _ (Ex.ofInt hf) (Nat.le_succ _)
  | float t hx =>
    show wpAny _ A (pure _ >>= _) _ _ s
    exact wpAny_bind (wpAny_pure (wpAny_pure (h _ s.toks hx (Nat.le_refl _))))

def unb1 (v : Value) : UInt64 := match v with | .int i _ => i.toNat.toUInt64 | _ => 0
theorem bits_back (l : List UInt64) : (((some (l.map fun x => rawInt (x.toNat : Int)).toArray).getD #[]).toList).map unb1 = l := by
  show (l.map fun x => rawInt (x.toNat : Int)).map unb1 = l
  induction l with
  | nil => rfl
  | cons a r ih =>
    simp only [List.map_cons]
    rw [ih]
    congr 1
    show ((a.toNat : Int)).toNat.toUInt64 = a
    rw [Int.toNat_natCast]
    exact UInt64.ofNat_toNat

def tupObj (l : List Value) : Obj := { cls := .type "tuple", data := .seq l.toArray }
def bitsObj (ps : List UInt64) : Obj := tupObj (ps.map fun x => rawInt (x.toNat : Int))

theorem newTuple_ {M : Model} {A : Around} {E : Value → Shared → Prop} {s : Shared} {vs : List Value} {Q : Value → Shared → Prop} (hsz : vs.length ≤ sizeLine) (h : Q (.ref s.heap.objs.size) { s with heap := s.heap.push (tupObj vs) }) :
    wpAny M A (newTuple vs) Q E s := wpAny_newObj_type h (by show vs.toArray.size ≤ _; rw [List.size_toArray]; exact hsz)

variable {I : Addr} {fp wr : List Addr} {G : Array GenState → Array GenState → Prop} {n : Nat} {P : Nat → Value → Prop} {St : Nat → Shared → Prop} {R : Result → Shared → Prop}

theorem codeAny_fsum_loop (hA : A.handled = none) (W : WalksS prog w A.in1 I fp wr G n P St) (val : Nat → Int) (hval : ∀ i v, P i v → NumV v (val i)) (hfit : ∀ j, j ≤ n → Fits (preSum val j)) :
    ∀ (k i : Nat) (s : Shared) (T T2 : Addr) (ps : List UInt64), n - i = k → i ≤ n → St i s → T ∉ fp → T2 ∉ fp → (∀ b ∈ fp, b < T2) →
    s.heap.get? T = some (bitsObj ps) → s.heap.get? T2 = some (bitsObj [Float64.zero false, Float64.zero false]) → FS ps (preSum val i) →
    (∀ s' r t', Moved wr G s s' → Ex r (preSum val n) → R (.ok (.ret (.float r t'))) s') →
    codeAny (model prog w) A (.builtin "math.fsum.loop" ⟨[.ref I, .ref T, .ref T2], []⟩) R s := by
  intro k
  induction k with
  | zero =>
    intro i s T T2 ps hk hi hst hTf hT2f hfp hT hT2 hps hR
    have hin : i = n := by omega
    subst hin
    refine codeAny_builtin F.entry_fsum_loop ?_
    rw [Around.under_plainId F.plain_fsum_loop _]
    unfold Builtin.«math.fsum.loop»
    show wpAny _ A.in1 ((seqItems? (.ref T) >>= fun o => pure ((o.getD #[]).toList.map unb1)) >>= _) _ _ s
    refine wpAny_bind (wpAny_bind (wpAny_seqItems hT rfl (wpAny_pure ?_)))
    show wpAny _ A.in1 ((seqItems? (.ref T2) >>= fun o => pure ((o.getD #[]).toList.map unb1)) >>= _) _ _ s
    refine wpAny_bind (wpAny_bind (wpAny_seqItems hT2 rfl (wpAny_pure ?_)))
    rw [bits_back ps, bits_back]
    refine wpAny_bind (W.done s _ _ hst fun s' hm => ?_)
    simp only []
    rw [show Float64.isZero (Float64.zero false) = true by rw [(Ex.zero false).notZero]; rfl]
    simp only [Bool.not_true, Bool.false_eq_true, if_false]
    exact wpAny_bind (wpAny_mkFloat (wpAny_pure (hR _ _ _ (hm.then_heap (h' := s'.heap) (Nat.le_succ _) fun _ _ _ e => e) (fsum_end hps))))
  | succ k ih =>
    intro i s T T2 ps hk hi hst hTf hT2f hfp hT hT2 hps hR
    have hlt : i < n := by omega
    refine codeAny_builtin F.entry_fsum_loop ?_
    rw [Around.under_plainId F.plain_fsum_loop _]
    unfold Builtin.«math.fsum.loop»
    show wpAny _ A.in1 ((seqItems? (.ref T) >>= fun o => pure ((o.getD #[]).toList.map unb1)) >>= _) _ _ s
    refine wpAny_bind (wpAny_bind (wpAny_seqItems hT rfl (wpAny_pure ?_)))
    show wpAny _ A.in1 ((seqItems? (.ref T2) >>= fun o => pure ((o.getD #[]).toList.map unb1)) >>= _) _ _ s
    refine wpAny_bind (wpAny_bind (wpAny_seqItems hT2 rfl (wpAny_pure ?_)))
    rw [bits_back ps, bits_back]
    refine wpAny_bind (W.item i s _ _ hlt hst fun v s' hP hst' hm => ?_)
    simp only []
    have hv := hval i v hP
    refine wpAny_bind (wpAny_holding (realArg_num hA hv fun x tk hx htk => ?_))
    obtain ⟨hfin, hFS⟩ := fsum_step hps hx (hfit (i + 1) hlt)
    generalize Float64.fsumAdd ps x = q at hfin hFS ⊢
    obtain ⟨low, top⟩ := q
    simp only [] at hfin hFS ⊢
    rw [hfin]
    simp only [if_true]
    generalize (if Float64.isZero top = true then low else low ++ [top]) = ps' at hFS ⊢
    have hkeepT : ∀ b, b ∉ fp → ∀ o, s.heap.get? b = some o → s'.heap.get? b = some o := fun b hb o e => hm.heap b o (fun h => hb (W.sub _ h)) e
    have hT2' := hkeepT T2 hT2f _ hT2
    have hsz : ∀ b ∈ fp, b < s'.heap.objs.size := fun b hb => Nat.lt_trans (hfp b hb) (Heap.lt_size hT2')
    have hps' : ps'.length ≤ 1 := by
      rcases hFS with ⟨rfl, _⟩ | ⟨p, rfl, _⟩
      · exact Nat.zero_le _
      · exact Nat.le_refl _
    refine wpAny_bind (newTuple_ (vs := ps'.map fun x => rawInt (x.toNat : Int)) (by rw [List.length_map, PySem.sizeLine_eq]; omega) ?_)
    refine wpAny_pure ⟨plainId_quiet F.plain_fsum_loop _, ih (i + 1) _ _ _ ps' (by omega) hlt (W.frame _ s' _ _ hst' htk fun b hb o e => Heap.get?_push_of_some _ e) (fun h => Nat.lt_irrefl _ (hsz _ h)) hT2f hfp (Heap.get?_push_size _ rfl) (Heap.get?_push_of_some _ (hkeepT T2 hT2f _ hT2)) hFS fun s'' r t' hm' hr => hR s'' r t' ?_ hr⟩
    · exact Moved.trans W.gtrans (hm.then_heap htk fun b o _ e => Heap.get?_push_of_some _ e) hm'

theorem call_fsum {x : Value} {Q : Value → Shared → Prop} (hA : A.handled = none)
    (h : wpAny (model prog w) A.in1 (pyIter x) (fun it s₂ => ∃ I fp wr G n P St val, it = .ref I ∧ WalksS prog w A.in1 I fp wr G n P St ∧ St 0 s₂ ∧ (∀ b ∈ fp, b < s₂.heap.objs.size) ∧
      (∀ i v, P i v → NumV v (val i)) ∧ (∀ j, j ≤ n → Fits (preSum val j)) ∧
      ∀ s' r t', Moved wr G s₂ s' → Ex r (preSum val n) → Q (.float r t') s') E s) :
    wpAny (model prog w) A (call (.builtin "math.fsum") [x]) Q E s := by
  refine call_function_tree F.kind_fsum F.plain_fsum F.entry_fsum (F.args_fsum _) ?_
  unfold Builtin.«math.fsum»
  refine wpAny_bind (m := Builtin.Math.mathOne "fsum" _) (wpAny_pure ?_)
  refine wpAny_bind (wpAny_mono h (fun it s₂ h₂ => ?_) fun _ _ e => e)
  obtain ⟨I, fp, wr, G, n, P, St, val, rfl, W, hst, hfp, hval, hfit, hQ⟩ := h₂
  refine wpAny_bind (newTuple_ (vs := ([] : List UInt64).map fun x => rawInt (x.toNat : Int)) (by rw [PySem.sizeLine_eq]; simp) ?_)
  refine wpAny_bind (newTuple_ (vs := [Float64.zero false, Float64.zero false].map fun x => rawInt (x.toNat : Int)) (by rw [PySem.sizeLine_eq]; simp) ?_)
  have hs2 : ∀ b ∈ fp, b < s₂.heap.objs.size := hfp
  refine wpAny_pure ⟨plainId_quiet F.plain_fsum_loop _, codeAny_fsum_loop hA W val hval hfit n 0 _ _ _ [] rfl (Nat.zero_le _)
    (W.frame 0 s₂ _ s₂.toks hst (Nat.le_refl _) fun b _ o e => Heap.get?_push_of_some _ (Heap.get?_push_of_some _ e)) (fun hm => Nat.lt_irrefl _ (hfp _ hm)) (fun hm => ?_) (fun b hb => ?_)
    (Heap.get?_push_of_some _ (Heap.get?_push_size _ rfl)) (Heap.get?_push_size _ rfl) (.inl ⟨rfl, rfl⟩) fun s' r t' hm hr => hQ s' r t' ?_ hr⟩
  · have := hfp _ hm
    rw [Heap.size_push] at this
    exact absurd this (Nat.not_lt.mpr (Nat.le_succ _))
  · have := hfp _ hb
    show b < (s₂.heap.push _).objs.size
    rw [Heap.size_push]; exact Nat.lt_succ_of_lt this
  · exact ⟨fun b o hb e => hm.heap b o hb (Heap.get?_push_of_some _ (Heap.get?_push_of_some _ e)), hm.gens, hm.drawn, hm.os, hm.toks⟩
end
end Mine
end

section
namespace Mine
open PySem PySem.W PySem.Calls PyProof.Rows PySem.Flt
open Sem (wp)
set_option maxRecDepth 100000

namespace F
theorem kind_sumprod : builtinKind "math.sumprod" = none := by decide +kernel
theorem plain_sumprod : plainId "math.sumprod" = true := by decide +kernel
theorem entry_sumprod : entryFor table "math.sumprod" = some Builtin.«math.sumprod» := entryFor_of_fast (by kernel_rfl)
theorem args_sumprod (a b : Value) : argsOk "math.sumprod" ⟨[a, b], []⟩ := by unfold argsOk; kernel_rfl
theorem plain_sumprod_loop : plainId "math.sumprod.loop" = true := by decide +kernel
theorem entry_sumprod_loop : entryFor table "math.sumprod.loop" = some Builtin.«math.sumprod.loop» := entryFor_of_fast (by kernel_rfl)
end F

def isF (v : Value) : Bool := match v with | .float .. => true | _ => false

section
variable {prog : Program} {w : World} {A : Around} {E : Value → Shared → Prop} {s : Shared}
variable {I1 I2 : Addr} {fp1 wr1 fp2 wr2 : List Addr} {G1 G2 Gd : Array GenState → Array GenState → Prop} {n : Nat} {P1 P2 : Nat → Value → Prop} {St1 St2 : Nat → Shared → Prop} {R : Result → Shared → Prop}

structure Two (prog : Program) (w : World) (A : Around) (I1 I2 : Addr) (fp1 wr1 fp2 wr2 : List Addr) (G1 G2 Gd : Array GenState → Array GenState → Prop) (n : Nat) (P1 P2 : Nat → Value → Prop) (St1 St2 : Nat → Shared → Prop) : Prop where
  W1 : WalksS prog w A I1 fp1 wr1 G1 n P1 St1
  W2 : WalksS prog w A I2 fp2 wr2 G2 n P2 St2
  fr1 : ∀ i s s', St1 i s → Moved wr2 G2 s s' → St1 i s'
  fr2 : ∀ i s s', St2 i s → Moved wr1 G1 s s' → St2 i s'
  g1 : ∀ a b, G1 a b → Gd a b
  g2 : ∀ a b, G2 a b → Gd a b
  grefl : ∀ a, Gd a a
  gtrans : ∀ a b c, Gd a b → Gd b c → Gd a c

theorem Two.m1 {s s' : Shared} (W : Two prog w A I1 I2 fp1 wr1 fp2 wr2 G1 G2 Gd n P1 P2 St1 St2) (m : Moved wr1 G1 s s') : Moved (wr1 ++ wr2) Gd s s' :=
  ⟨fun b o hb e => m.heap b o (fun h => hb (List.mem_append_left _ h)) e, W.g1 _ _ m.gens, m.drawn, m.os, m.toks⟩
theorem Two.m2 {s s' : Shared} (W : Two prog w A I1 I2 fp1 wr1 fp2 wr2 G1 G2 Gd n P1 P2 St1 St2) (m : Moved wr2 G2 s s') : Moved (wr1 ++ wr2) Gd s s' :=
  ⟨fun b o hb e => m.heap b o (fun h => hb (List.mem_append_right _ h)) e, W.g2 _ _ m.gens, m.drawn, m.os, m.toks⟩

def asF (v : Value) : Option UInt64 := match v with
  | .float x _ => some x
  | .int i _ => if Float64.isInf (Float64.ofInt i) then none else some (Float64.ofInt i)
  | .bool b => some (Float64.ofInt (if b then 1 else 0))
  | _ => none
theorem asF_num {v : Value} {u : Int} (hv : NumV v u) : ∃ x, Ex x u ∧ asF v = some x := by
  cases hv with
  | int t e hf =>
    subst e
    refine ⟨_, Ex.ofInt hf, ?_⟩
    show (if _ then _ else _) = _
    rw [if_neg (by rw [(Ex.ofInt hf).notInf]; exact Bool.false_ne_true)]
  | float t hx => exact ⟨_, hx, rfl⟩
theorem nat_back (x : UInt64) : ((x.toNat : Int)).toNat.toUInt64 = x := by rw [Int.toNat_natCast]; exact UInt64.ofNat_toNat

theorem codeAny_sumprod_flt (W : Two prog w A.in1 I1 I2 fp1 wr1 fp2 wr2 G1 G2 Gd n P1 P2 St1 St2) (v1 v2 pr : Nat → Int)
    (hval : ∀ i a b, P1 i a → P2 i b → NumV a (v1 i) ∧ NumV b (v2 i) ∧ (isF a || isF b) = true) (hpr : ∀ i, i < n → v1 i * v2 i = pr i * 2 ^ 1074 ∧ Fits (pr i)) (hfit : ∀ j, j ≤ n → Fits (preSum pr j)) (hn : 0 < n) :
    ∀ (k i : Nat) (s : Shared) (T T0 : Addr) (t0 t1 : Tok) (hi lo ti : UInt64) (ob : Obj) (used : Bool), n - i = k → i ≤ n → used = decide (0 < i) → St1 i s → St2 i s → T ∉ fp1 → T ∉ fp2 → T0 ∉ fp1 → T0 ∉ fp2 → (∀ b ∈ fp1, b < T0) → (∀ b ∈ fp2, b < T0) →
    s.heap.get? T = some (bitsObj [hi, lo, ti]) → s.heap.get? T0 = some ob → TL (hi, lo, ti) (preSum pr i) →
    (∀ s' r t', Moved (wr1 ++ wr2) Gd s s' → Ex r (preSum pr n) → R (.ok (.ret (.float r t'))) s') →
    codeAny (model prog w) A (.builtin "math.sumprod.loop" ⟨[.ref I1, .ref I2, .int 0 t0, .bool (!used), .int 0 t1, .bool false, .bool true, .ref T, .bool used], []⟩) R s := by
  intro k
  induction k with
  | zero =>
    intro i s T T0 t0 t1 hi lo ti ob used hk hin hu hst1 hst2 hT1 hT2 hT01 hT02 hb1 hb2 hT hT0 htl hR
    have hin : i = n := by omega
    subst hin
    have hu' : used = true := by rw [hu]; simp [hn]
    subst hu'
    refine codeAny_builtin F.entry_sumprod_loop ?_
    rw [Around.under_plainId F.plain_sumprod_loop _]
    unfold Builtin.«math.sumprod.loop»
    refine wpAny_bind (wpAny_seqItems hT rfl ?_)
    show wpAny _ A.in1 (pyNext (.ref I1) >>= _) _ _ s
    refine wpAny_bind (W.W1.done s _ _ hst1 fun s1 hm1 => ?_)
    refine wpAny_bind (wpAny_holding (W.W2.done s1 _ _ (W.fr2 _ _ _ hst2 hm1) fun s2 hm2 => ?_))
    show wpAny _ A.in1 (rule "math.sumprod.leaves-floats" >>= _) _ _ s2
    refine wpAny_bind (wpAny_rule ?_)
    show wpAny _ A.in1 (mkFloat (Builtin.Math.tlToFloat (((hi.toNat : Int)).toNat.toUInt64, ((lo.toNat : Int)).toNat.toUInt64, ((ti.toNat : Int)).toNat.toUInt64)) >>= _) _ _ s2
    rw [nat_back, nat_back, nat_back]
    refine wpAny_bind (wpAny_mkFloat ?_)
    refine wpAny_bind (wpAny_holding (add_if_fits (by decide) ?_))
    refine wpAny_pure (hR _ _ _ (((W.m1 hm1).trans W.gtrans (W.m2 hm2)).then_heap (h' := s2.heap) (show s2.toks ≤ s2.toks + 1 + 1 by omega) fun _ _ _ e => e) ?_)
    have z0 : Fits ((0:Int) * 2 ^ 1074) := by rw [Int.zero_mul]; exact Fits.zero
    have z : Ex (Float64.ofInt 0) 0 := (Ex.ofInt z0).to (by rw [Int.zero_mul])
    exact (z.add htl.float (by rw [Int.zero_add]; exact htl.float.fits)).to (by rw [Int.zero_add])
  | succ k ih =>
    intro i s T T0 t0 t1 hi lo ti ob used hk hin hu hst1 hst2 hT1 hT2 hT01 hT02 hb1 hb2 hT hT0 htl hR
    have hlt : i < n := by omega
    refine codeAny_builtin F.entry_sumprod_loop ?_
    rw [Around.under_plainId F.plain_sumprod_loop _]
    unfold Builtin.«math.sumprod.loop»
    refine wpAny_bind (wpAny_seqItems hT rfl ?_)
    show wpAny _ A.in1 (pyNext (.ref I1) >>= _) _ _ s
    refine wpAny_bind (W.W1.item i s _ _ hlt hst1 fun va s1 hPa hst1' hm1 => ?_)
    refine wpAny_bind (wpAny_holding (W.W2.item i s1 _ _ hlt (W.fr2 _ _ _ hst2 hm1) fun vb s2 hPb hst2' hm2 => ?_))
    have hst1'' := W.fr1 _ _ _ hst1' hm2
    obtain ⟨na, nb, hf⟩ := hval i va vb hPa hPb
    obtain ⟨xa, hxa, ea⟩ := asF_num na
    obtain ⟨xb, hxb, eb⟩ := asF_num nb
    obtain ⟨hp1, hp2⟩ := hpr i hlt
    have htl' : TL (Builtin.Math.tlFma xa xb (hi, lo, ti)) (preSum pr (i + 1)) := htl.fma hxa hxb hp1 hp2 (hfit (i + 1) hlt)
    have k0 : ∀ b, b ∉ fp1 → b ∉ fp2 → ∀ o, s.heap.get? b = some o → s2.heap.get? b = some o := fun b h1 h2 o e => hm2.heap b o (fun h => h2 (W.W2.sub _ h)) (hm1.heap b o (fun h => h1 (W.W1.sub _ h)) e)
    have hT0' := k0 T0 hT01 hT02 _ hT0
    have f1 : s2.heap.objs.size ∉ fp1 := fun h => Nat.lt_irrefl _ (Nat.lt_trans (hb1 _ h) (Heap.lt_size hT0'))
    have f2 : s2.heap.objs.size ∉ fp2 := fun h => Nat.lt_irrefl _ (Nat.lt_trans (hb2 _ h) (Heap.lt_size hT0'))
    have tail : ∀ J J' : Sem Fin, wpAny (model prog w) A.in1 (match (asF va, asF vb) with
        | (some x, some y) => if Float64.isFinite (Builtin.Math.tlFma x y (((hi.toNat : Int)).toNat.toUInt64, ((lo.toNat : Int)).toNat.toUInt64, ((ti.toNat : Int)).toNat.toUInt64)).1 = true then
            (newTuple [rawInt ((Builtin.Math.tlFma x y (((hi.toNat : Int)).toNat.toUInt64, ((lo.toNat : Int)).toNat.toUInt64, ((ti.toNat : Int)).toNat.toUInt64)).1.toNat : Int), rawInt ((Builtin.Math.tlFma x y (((hi.toNat : Int)).toNat.toUInt64, ((lo.toNat : Int)).toNat.toUInt64, ((ti.toNat : Int)).toNat.toUInt64)).2.1.toNat : Int), rawInt ((Builtin.Math.tlFma x y (((hi.toNat : Int)).toNat.toUInt64, ((lo.toNat : Int)).toNat.toUInt64, ((ti.toNat : Int)).toNat.toUInt64)).2.2.toNat : Int)] >>= fun t =>
              again (.builtin "math.sumprod.loop" ⟨[.ref I1, .ref I2, .int 0 t0, .bool false, rawInt 0, .bool false, .bool true, t, .bool true], []⟩)) else J
        | _ => J')
        (fun fin s' => match fin with | .done f => R (.ok f) s' | .again c' => c'.quiet = true ∧ codeAny (model prog w) A c' R s') (fun e s' => R (.error e) s') s2 := by
      intro J J'
      rw [ea, eb]
      simp only [nat_back]
      generalize hq : Builtin.Math.tlFma xa xb (hi, lo, ti) = q at htl' ⊢
      obtain ⟨q1, q2, q3⟩ := q
      simp only []
      rw [htl'.1.fin]
      simp only [if_true]
      refine wpAny_bind (newTuple_ (by rw [PySem.sizeLine_eq]; simp) ?_)
      refine wpAny_pure ⟨plainId_quiet F.plain_sumprod_loop _, ?_⟩
      refine ih (i + 1) _ s2.heap.objs.size T0 t0 0 q1 q2 q3 ob true (by omega) hlt (by simp) (W.W1.frame _ s2 _ _ hst1'' (Nat.le_refl _) fun b _ o e => Heap.get?_push_of_some _ e) (W.W2.frame _ s2 _ _ hst2' (Nat.le_refl _) fun b _ o e => Heap.get?_push_of_some _ e)
        f1 f2 hT01 hT02 hb1 hb2 (Heap.get?_push_size _ rfl) (Heap.get?_push_of_some _ hT0') htl' fun s' r t' hm' hr => hR s' r t' ?_ hr
      exact Moved.trans W.gtrans (((W.m1 hm1).trans W.gtrans (W.m2 hm2)).then_heap (Nat.le_refl _) fun b o _ e => Heap.get?_push_of_some _ e) hm'
    cases used with
    | false =>
      cases na with
      | int t ea hfa =>
        cases nb with
        | int t' eb hfb => cases hf
        | float t' hxb =>
          show wpAny _ A.in1 (rule "math.sumprod.leaves-ints" >>= _) _ _ s2
          exact wpAny_bind (wpAny_rule (tail _ _))
      | float t hxa =>
        cases nb with
        | int t' eb hfb =>
          show wpAny _ A.in1 (rule "math.sumprod.leaves-ints" >>= _) _ _ s2
          exact wpAny_bind (wpAny_rule (tail _ _))
        | float t' hxb =>
          show wpAny _ A.in1 (rule "math.sumprod.leaves-ints" >>= _) _ _ s2
          exact wpAny_bind (wpAny_rule (tail _ (.unsupported "")))
    | true =>
      cases na with
      | int t ea hfa =>
        cases nb with
        | int t' eb hfb => cases hf
        | float t' hxb => exact tail _ _
      | float t hxa =>
        cases nb with
        | int t' eb hfb => exact tail _ _
        | float t' hxb => exact tail _ (.unsupported "")

theorem call_sumprod_flt {x y : Value} {Q : Value → Shared → Prop}
    (h : wpAny (model prog w) A.in1 (pyIter x) (fun it1 s1 => wpAny (model prog w) A.in1 (pyIter y) (fun it2 s2 => ∃ (I1 I2 : Addr) (fp1 wr1 fp2 wr2 : List Addr) (G1 G2 Gd : Array GenState → Array GenState → Prop) (n : Nat) (P1 P2 : Nat → Value → Prop) (St1 St2 : Nat → Shared → Prop) (v1 v2 pr : Nat → Int), it1 = .ref I1 ∧ it2 = .ref I2 ∧
      Two prog w A.in1 I1 I2 fp1 wr1 fp2 wr2 G1 G2 Gd n P1 P2 St1 St2 ∧ St1 0 s2 ∧ St2 0 s2 ∧ (∀ b ∈ fp1, b < s2.heap.objs.size) ∧ (∀ b ∈ fp2, b < s2.heap.objs.size) ∧
      (∀ i a b, P1 i a → P2 i b → NumV a (v1 i) ∧ NumV b (v2 i) ∧ (isF a || isF b) = true) ∧ (∀ i, i < n → v1 i * v2 i = pr i * 2 ^ 1074 ∧ Fits (pr i)) ∧ (∀ j, j ≤ n → Fits (preSum pr j)) ∧ 0 < n ∧
      ∀ s' r t', Moved (wr1 ++ wr2) Gd s2 s' → Ex r (preSum pr n) → Q (.float r t') s') E s1) E s) :
    wpAny (model prog w) A (call (.builtin "math.sumprod") [x, y]) Q E s := by
  refine call_function_tree F.kind_sumprod F.plain_sumprod F.entry_sumprod (F.args_sumprod _ _) ?_
  unfold Builtin.«math.sumprod»
  refine wpAny_bind (m := Builtin.Math.mathSome "sumprod" 2 2 _) (wpAny_pure ?_)
  refine wpAny_bind (wpAny_mono h (fun it1 s1 h1 => ?_) fun _ _ e => e)
  refine wpAny_bind (wpAny_holding (wpAny_mono h1 (fun it2 s2 h2 => ?_) fun _ _ e => e))
  obtain ⟨I1, I2, fp1, wr1, fp2, wr2, G1, G2, Gd, n, P1, P2, St1, St2, v1, v2, pr, rfl, rfl, W, hst1, hst2, hb1, hb2, hval, hpr, hfit, hn, hQ⟩ := h2
  refine wpAny_bind (wpAny_mkInt ?_)
  refine wpAny_bind (newTuple_ (vs := [Float64.zero false, Float64.zero false, Float64.zero false].map fun x => rawInt (x.toNat : Int)) (by rw [PySem.sizeLine_eq]; simp) ?_)
  have n1 : s2.heap.objs.size ∉ fp1 := fun h => Nat.lt_irrefl _ (hb1 _ h)
  have n2 : s2.heap.objs.size ∉ fp2 := fun h => Nat.lt_irrefl _ (hb2 _ h)
  refine wpAny_pure ⟨plainId_quiet F.plain_sumprod_loop _, codeAny_sumprod_flt W v1 v2 pr hval hpr hfit hn n 0 _ s2.heap.objs.size s2.heap.objs.size s2.toks 0 _ _ _ _ false rfl (Nat.zero_le _) rfl
    (W.W1.frame 0 s2 _ (s2.toks + 1) hst1 (Nat.le_succ _) fun b _ o e => Heap.get?_push_of_some _ e) (W.W2.frame 0 s2 _ (s2.toks + 1) hst2 (Nat.le_succ _) fun b _ o e => Heap.get?_push_of_some _ e)
    n1 n2 n1 n2 hb1 hb2 (Heap.get?_push_size _ rfl) (Heap.get?_push_size _ rfl) ⟨Ex.zero _, Ex.zero _, Ex.zero _⟩ fun s' r t' hm hr => hQ s' r t' ?_ hr⟩
  exact ⟨fun b o hb e => hm.heap b o hb (Heap.get?_push_of_some _ e), hm.gens, hm.drawn, hm.os, Nat.le_trans (Nat.le_succ _) hm.toks⟩

/-! all ints -/
theorem codeAny_sumprod_int (W : Two prog w A.in1 I1 I2 fp1 wr1 fp2 wr2 G1 G2 Gd n P1 P2 St1 St2) (v1 v2 : Nat → Int)
    (hval : ∀ i a b, P1 i a → P2 i b → (∃ t, a = .int (v1 i) t) ∧ (∃ t, b = .int (v2 i) t))
    (hfit : ∀ j, j < n → InLong (v1 j) ∧ InLong (v2 j) ∧ InLong (v1 j * v2 j) ∧ InLong (preSum (fun i => v1 i * v2 i) (j + 1))) (hn : 0 < n) :
    ∀ (k i : Nat) (s : Shared) (T : Addr) (t0 t1 : Tok) (used : Bool), n - i = k → i ≤ n → used = decide (0 < i) → St1 i s → St2 i s → T ∉ fp1 → T ∉ fp2 →
    s.heap.get? T = some (bitsObj [Float64.zero false, Float64.zero false, Float64.zero false]) →
    (∀ s' t', Moved (wr1 ++ wr2) Gd s s' → R (.ok (.ret (.int (preSum (fun i => v1 i * v2 i) n) t'))) s') →
    codeAny (model prog w) A (.builtin "math.sumprod.loop" ⟨[.ref I1, .ref I2, .int 0 t0, .bool true, .int (preSum (fun i => v1 i * v2 i) i) t1, .bool used, .bool true, .ref T, .bool false], []⟩) R s := by
  intro k
  induction k with
  | zero =>
    intro i s T t0 t1 used hk hin hu hst1 hst2 hT1 hT2 hT hR
    have hin : i = n := by omega
    subst hin
    have hu' : used = true := by rw [hu]; simp [hn]
    subst hu'
    refine codeAny_builtin F.entry_sumprod_loop ?_
    rw [Around.under_plainId F.plain_sumprod_loop _]
    unfold Builtin.«math.sumprod.loop»
    refine wpAny_bind (wpAny_seqItems hT rfl ?_)
    show wpAny _ A.in1 (pyNext (.ref I1) >>= _) _ _ s
    refine wpAny_bind (W.W1.done s _ _ hst1 fun s1 hm1 => ?_)
    refine wpAny_bind (wpAny_holding (W.W2.done s1 _ _ (W.fr2 _ _ _ hst2 hm1) fun s2 hm2 => ?_))
    show wpAny _ A.in1 (rule "math.sumprod.leaves-ints" >>= _) _ _ s2
    refine wpAny_bind (wpAny_rule ?_)
    show wpAny _ A.in1 (mkInt _ >>= _) _ _ s2
    refine wpAny_bind (wpAny_mkInt ?_)
    refine wpAny_bind (wpAny_holding (add_int ?_))
    show wpAny _ A.in1 (rule "math.sumprod.leaves-floats" >>= _) _ _ _
    refine wpAny_bind (wpAny_rule ?_)
    refine wpAny_pure ?_
    show R (.ok (.ret (.int (0 + preSum (fun i => v1 i * v2 i) i) _))) _
    rw [Int.zero_add]
    exact hR _ _ (((W.m1 hm1).trans W.gtrans (W.m2 hm2)).then_heap (h' := s2.heap) (show s2.toks ≤ s2.toks + 1 + 1 by omega) fun _ _ _ e => e)
  | succ k ih =>
    intro i s T t0 t1 used hk hin hu hst1 hst2 hT1 hT2 hT hR
    have hlt : i < n := by omega
    refine codeAny_builtin F.entry_sumprod_loop ?_
    rw [Around.under_plainId F.plain_sumprod_loop _]
    unfold Builtin.«math.sumprod.loop»
    refine wpAny_bind (wpAny_seqItems hT rfl ?_)
    show wpAny _ A.in1 (pyNext (.ref I1) >>= _) _ _ s
    refine wpAny_bind (W.W1.item i s _ _ hlt hst1 fun va s1 hPa hst1' hm1 => ?_)
    refine wpAny_bind (wpAny_holding (W.W2.item i s1 _ _ hlt (W.fr2 _ _ _ hst2 hm1) fun vb s2 hPb hst2' hm2 => ?_))
    have hst1'' := W.fr1 _ _ _ hst1' hm2
    obtain ⟨⟨ta, rfl⟩, ⟨tb, rfl⟩⟩ := hval i va vb hPa hPb
    obtain ⟨l1, l2, l3, l4⟩ := hfit i hlt
    show wpAny _ A.in1 (if ((decide (-(2 ^ 63) ≤ v1 i) && decide (v1 i ≤ Builtin.Math.maxSsize)) && (decide (-(2 ^ 63) ≤ v2 i) && decide (v2 i ≤ Builtin.Math.maxSsize)) && (decide (-(2 ^ 63) ≤ v1 i * v2 i) && decide (v1 i * v2 i ≤ Builtin.Math.maxSsize)) &&
      (decide (-(2 ^ 63) ≤ preSum (fun i => v1 i * v2 i) i + v1 i * v2 i) && decide (preSum (fun i => v1 i * v2 i) i + v1 i * v2 i ≤ Builtin.Math.maxSsize))) = true then again _ else _) _ _ s2
    have hm : Builtin.Math.maxSsize = 2 ^ 63 - 1 := rfl
    have l4' : InLong (preSum (fun i => v1 i * v2 i) i + v1 i * v2 i) := l4
    rw [if_pos (by
      unfold InLong at l1 l2 l3 l4'
      simp only [Bool.and_eq_true, decide_eq_true_eq, hm]
      refine ⟨⟨⟨⟨l1.1, ?_⟩, l2.1, ?_⟩, l3.1, ?_⟩, l4'.1, ?_⟩ <;> omega)]
    have k0 : ∀ b, b ∉ fp1 → b ∉ fp2 → ∀ o, s.heap.get? b = some o → s2.heap.get? b = some o := fun b h1 h2 o e => hm2.heap b o (fun h => h2 (W.W2.sub _ h)) (hm1.heap b o (fun h => h1 (W.W1.sub _ h)) e)
    refine wpAny_pure ⟨plainId_quiet F.plain_sumprod_loop _, ?_⟩
    exact ih (i + 1) s2 T t0 0 true (by omega) hlt (by simp) hst1'' hst2' hT1 hT2 (k0 T hT1 hT2 _ hT) fun s' t' hm' => hR s' t' (Moved.trans W.gtrans ((W.m1 hm1).trans W.gtrans (W.m2 hm2)) hm')

theorem call_sumprod_int {x y : Value} {Q : Value → Shared → Prop}
    (h : wpAny (model prog w) A.in1 (pyIter x) (fun it1 s1 => wpAny (model prog w) A.in1 (pyIter y) (fun it2 s2 => ∃ (I1 I2 : Addr) (fp1 wr1 fp2 wr2 : List Addr) (G1 G2 Gd : Array GenState → Array GenState → Prop) (n : Nat) (P1 P2 : Nat → Value → Prop) (St1 St2 : Nat → Shared → Prop) (v1 v2 : Nat → Int), it1 = .ref I1 ∧ it2 = .ref I2 ∧
      Two prog w A.in1 I1 I2 fp1 wr1 fp2 wr2 G1 G2 Gd n P1 P2 St1 St2 ∧ St1 0 s2 ∧ St2 0 s2 ∧ (∀ b ∈ fp1, b < s2.heap.objs.size) ∧ (∀ b ∈ fp2, b < s2.heap.objs.size) ∧
      (∀ i a b, P1 i a → P2 i b → (∃ t, a = .int (v1 i) t) ∧ (∃ t, b = .int (v2 i) t)) ∧
      (∀ j, j < n → InLong (v1 j) ∧ InLong (v2 j) ∧ InLong (v1 j * v2 j) ∧ InLong (preSum (fun i => v1 i * v2 i) (j + 1))) ∧ 0 < n ∧
      ∀ s' t', Moved (wr1 ++ wr2) Gd s2 s' → Q (.int (preSum (fun i => v1 i * v2 i) n) t') s') E s1) E s) :
    wpAny (model prog w) A (call (.builtin "math.sumprod") [x, y]) Q E s := by
  refine call_function_tree F.kind_sumprod F.plain_sumprod F.entry_sumprod (F.args_sumprod _ _) ?_
  unfold Builtin.«math.sumprod»
  refine wpAny_bind (m := Builtin.Math.mathSome "sumprod" 2 2 _) (wpAny_pure ?_)
  refine wpAny_bind (wpAny_mono h (fun it1 s1 h1 => ?_) fun _ _ e => e)
  refine wpAny_bind (wpAny_holding (wpAny_mono h1 (fun it2 s2 h2 => ?_) fun _ _ e => e))
  obtain ⟨I1, I2, fp1, wr1, fp2, wr2, G1, G2, Gd, n, P1, P2, St1, St2, v1, v2, rfl, rfl, W, hst1, hst2, hb1, hb2, hval, hfit, hn, hQ⟩ := h2
  refine wpAny_bind (wpAny_mkInt ?_)
  refine wpAny_bind (newTuple_ (vs := [Float64.zero false, Float64.zero false, Float64.zero false].map fun x => rawInt (x.toNat : Int)) (by rw [PySem.sizeLine_eq]; simp) ?_)
  have n1 : s2.heap.objs.size ∉ fp1 := fun h => Nat.lt_irrefl _ (hb1 _ h)
  have n2 : s2.heap.objs.size ∉ fp2 := fun h => Nat.lt_irrefl _ (hb2 _ h)
  refine wpAny_pure ⟨plainId_quiet F.plain_sumprod_loop _, codeAny_sumprod_int W v1 v2 hval hfit hn n 0 _ s2.heap.objs.size s2.toks 0 false rfl (Nat.zero_le _) rfl
    (W.W1.frame 0 s2 _ (s2.toks + 1) hst1 (Nat.le_succ _) fun b _ o e => Heap.get?_push_of_some _ e) (W.W2.frame 0 s2 _ (s2.toks + 1) hst2 (Nat.le_succ _) fun b _ o e => Heap.get?_push_of_some _ e)
    n1 n2 (Heap.get?_push_size _ rfl) fun s' t' hm => hQ s' t' ?_⟩
  exact ⟨fun b o hb e => hm.heap b o hb (Heap.get?_push_of_some _ e), hm.gens, hm.drawn, hm.os, Nat.le_trans (Nat.le_succ _) hm.toks⟩
end
end Mine
end

section
namespace Mine
open PySem PySem.W PySem.Calls PyProof.Rows PySem.Flt
open Sem (wp)
set_option maxRecDepth 100000

/-- the list's values, times 2^1074 -/
def NumsAre (vs : List Value) (us : List Int) : Prop := vs.length = us.length ∧ ∀ (i : Nat) v, vs[i]? = some v → NumV v (us.getD i 0)
def AllF (vs : List Value) : Prop := ∀ v ∈ vs, isF v = true

theorem preSum_list (us : List Int) : ∀ k, preSum (fun i => us.getD i 0) k = (us.take k).sum
  | 0 => by simp [preSum]
  | k + 1 => by
    show preSum _ k + us.getD k 0 = _
    rw [preSum_list us k]
    rcases Nat.lt_or_ge k us.length with h | h
    · rw [List.take_succ_eq_append_getElem h, List.sum_append, List.getD_eq_getElem?_getD, List.getElem?_eq_getElem h]; simp
    · rw [List.take_of_length_le h, List.take_of_length_le (Nat.le_succ_of_le h), List.getD_eq_getElem?_getD, List.getElem?_eq_none h]; simp
theorem preSum_congr {f g : Nat → Int} : ∀ {k : Nat}, (∀ i, i < k → f i = g i) → preSum f k = preSum g k
  | 0, _ => rfl
  | k + 1, h => by
    show preSum f k + f k = preSum g k + g k
    rw [preSum_congr (fun i hi => h i (Nat.lt_succ_of_lt hi)), h k (Nat.lt_succ_self _)]

section
variable {prog : Program} {w : World} {A : Around} {E : Value → Shared → Prop} {s : Shared} {ax ay : Addr} {xs ys : List Value} {us ws : List Int} {Q : Value → Shared → Prop}

abbrev Kept (h h' : Heap) : Prop := ∀ b o, h.get? b = some o → h'.get? b = some o

theorem moved_kept {s s2 s' : Shared} {wr : List Addr} {G : Array GenState → Array GenState → Prop} (hm : Moved wr G s2 s') (hk : Kept s.heap s2.heap) (hwr : ∀ b ∈ wr, s.heap.get? b = none) : Kept s.heap s'.heap := fun b o e =>
  hm.heap b o (fun hb => by rw [hwr b hb] at e; cases e) (hk b o e)
theorem get_none {h : Heap} {b : Addr} (hb : h.objs.size ≤ b) : h.get? b = none := by
  cases e : h.get? b with
  | none => rfl
  | some o => exact absurd (Heap.lt_size e) (Nat.not_lt.mpr hb)

theorem push2 (h : Heap) (o o' : Obj) (hf : o'.isFreed = false) : ((h.push o).push o').get? (h.objs.size + 1) = some o' := by
  have := Heap.get?_push_size (h.push o) (o := o') hf
  rw [Heap.size_push] at this
  exact this
theorem moved_eq {s s' : Shared} {wr : List Addr} (hm : Moved wr (fun a b => b = a) s s') : s' = { s with heap := s'.heap, toks := s'.toks } := by
  obtain ⟨h', g', d', t', o'⟩ := s'
  obtain ⟨_, hg, hd, ho, _⟩ := hm
  simp only at hg hd ho
  rw [hg, hd, ho]

theorem fsum_list (hA : A.handled = none) (hl : s.heap.IsList ax xs.toArray) (hv : NumsAre xs us) (hfit : ∀ j, j ≤ us.length → Fits (us.take j).sum)
    (h : ∀ h' tk r t, Kept s.heap h' → s.toks ≤ tk → Ex r us.sum → Q (.float r t) { s with heap := h', toks := tk }) :
    wpAny (model prog w) A (call (.builtin "math.fsum") [.ref ax]) Q E s := by
  refine call_fsum hA (wpAny_pyIter_list hl ?_)
  have hlt : ax < s.heap.objs.size := by obtain ⟨_, e, _⟩ := hl; exact Heap.lt_size e
  refine ⟨s.heap.objs.size, [s.heap.objs.size, ax], [s.heap.objs.size], _, xs.toArray.size, _, _, fun i => us.getD i 0, rfl, (Walks.list (A := A.in1) hA _ ax (Nat.ne_of_lt hlt) xs.toArray).toS, ⟨⟨_, Heap.get?_push_size _ rfl, rfl, rfl⟩, hl.push _⟩, ?_, ?_, ?_, ?_⟩
  · intro b hb
    show b < (s.heap.push _).objs.size
    rw [Heap.size_push]
    rcases List.mem_cons.mp hb with rfl | hb
    · exact Nat.lt_succ_self _
    · rcases List.mem_cons.mp hb with rfl | hb
      · exact Nat.lt_succ_of_lt hlt
      · cases hb
  · intro i v hi
    exact hv.2 i v (by simpa using hi)
  · intro j hj
    rw [preSum_list]
    exact hfit j (by rw [← hv.1]; simpa using hj)
  · intro s' r t hm hr
    rw [preSum_list, List.take_of_length_le (by simp [hv.1])] at hr
    rw [moved_eq hm]
    refine h s'.heap s'.toks r t (moved_kept hm (fun b o e => Heap.get?_push_of_some _ e) fun b hb => ?_) hm.toks hr
    rcases List.mem_cons.mp hb with rfl | hb
    · exact get_none (Nat.le_refl _)
    · cases hb

theorem two_lists (hA : A.handled = none) {I1 I2 : Addr} (h1 : ax ≠ I1) (h2 : ay ≠ I2) (h12 : I1 ≠ I2) (h12x : ax ≠ I2) (h21y : ay ≠ I1) (xa ya : Array Value) (e : xa.size = ya.size) :
    Two prog w A I1 I2 [I1, ax] [I1] [I2, ay] [I2] (fun a b => b = a) (fun a b => b = a) (fun a b => b = a) xa.size (fun i v => xa[i]? = some v) (fun i v => ya[i]? = some v)
      (fun i s => s.heap.IsListIter I1 ax i ∧ s.heap.IsList ax xa) (fun i s => s.heap.IsListIter I2 ay i ∧ s.heap.IsList ay ya) where
  W1 := (Walks.list hA I1 ax h1 xa).toS
  W2 := by rw [e]; exact (Walks.list hA I2 ay h2 ya).toS
  fr1 := fun i s s' st hm => ⟨st.1.at fun o e => hm.heap _ o (by simp [h12]) e, st.2.at fun o e => hm.heap _ o (by simp [h12x]) e⟩
  fr2 := fun i s s' st hm => ⟨st.1.at fun o e => hm.heap _ o (by simp [Ne.symm h12]) e, st.2.at fun o e => hm.heap _ o (by simp [h21y]) e⟩
  g1 := fun _ _ e => e
  g2 := fun _ _ e => e
  grefl := fun _ => rfl
  gtrans := fun _ _ _ a b => b.trans a

theorem sumprod_lists_pre (hl : s.heap.IsList ax xs.toArray) (hl2 : s.heap.IsList ay ys.toArray) {K : Addr → Addr → Shared → Prop}
    (h : ∀ I1 I2 s2, I1 = s.heap.objs.size → I2 = s.heap.objs.size + 1 → s2 = { s with heap := (s.heap.push { cls := .type "list_iterator", data := .fields #[.ref ax, .int 0 0] }).push { cls := .type "list_iterator", data := .fields #[.ref ay, .int 0 0] } } → K I1 I2 s2) :
    wpAny (model prog w) A.in1 (pyIter (.ref ax)) (fun it1 s1 => wpAny (model prog w) A.in1 (pyIter (.ref ay)) (fun it2 s2 => ∃ I1 I2, it1 = .ref I1 ∧ it2 = .ref I2 ∧ K I1 I2 s2) E s1) E s := by
  refine wpAny_pyIter_list hl (wpAny_pyIter_list (hl2.push _) ?_)
  refine ⟨_, _, rfl, rfl, h _ _ _ rfl ?_ rfl⟩
  show (s.heap.push _).objs.size = _
  rw [Heap.size_push]

theorem sumprod_flt_lists (hA : A.handled = none) (hl : s.heap.IsList ax xs.toArray) (hl2 : s.heap.IsList ay ys.toArray) (hv : NumsAre xs us) (hv2 : NumsAre ys ws) (hlen : xs.length = ys.length) (hn : 0 < xs.length) (hf : AllF xs ∨ AllF ys)
    (pr : Nat → Int) (hpr : ∀ i, i < xs.length → us.getD i 0 * ws.getD i 0 = pr i * 2 ^ 1074 ∧ Fits (pr i)) (hfit : ∀ j, j ≤ xs.length → Fits (preSum pr j))
    (h : ∀ h' tk r t, Kept s.heap h' → s.toks ≤ tk → Ex r (preSum pr xs.length) → Q (.float r t) { s with heap := h', toks := tk }) :
    wpAny (model prog w) A (call (.builtin "math.sumprod") [.ref ax, .ref ay]) Q E s := by
  refine call_sumprod_flt (wpAny_mono (sumprod_lists_pre hl hl2 (K := fun I1 I2 s2 => ∃ (fp1 wr1 fp2 wr2 : List Addr) (G1 G2 Gd : Array GenState → Array GenState → Prop) (n : Nat) (P1 P2 : Nat → Value → Prop) (St1 St2 : Nat → Shared → Prop) (v1 v2 pr : Nat → Int),
      Two prog w A.in1 I1 I2 fp1 wr1 fp2 wr2 G1 G2 Gd n P1 P2 St1 St2 ∧ St1 0 s2 ∧ St2 0 s2 ∧ (∀ b ∈ fp1, b < s2.heap.objs.size) ∧ (∀ b ∈ fp2, b < s2.heap.objs.size) ∧
      (∀ i a b, P1 i a → P2 i b → NumV a (v1 i) ∧ NumV b (v2 i) ∧ (isF a || isF b) = true) ∧ (∀ i, i < n → v1 i * v2 i = pr i * 2 ^ 1074 ∧ Fits (pr i)) ∧ (∀ j, j ≤ n → Fits (preSum pr j)) ∧ 0 < n ∧
      ∀ s' r t', Moved (wr1 ++ wr2) Gd s2 s' → Ex r (preSum pr n) → Q (.float r t') s') ?_)
    (fun it1 s1 h1 => wpAny_mono h1 (fun it2 s2 h2 => by obtain ⟨I1, I2, e1, e2, fp1, wr1, fp2, wr2, G1, G2, Gd, n, P1, P2, St1, St2, v1, v2, pr, r⟩ := h2; exact ⟨I1, I2, fp1, wr1, fp2, wr2, G1, G2, Gd, n, P1, P2, St1, St2, v1, v2, pr, e1, e2, r⟩) fun _ _ e => e) fun _ _ e => e)
  rintro I1 I2 s2 rfl rfl rfl
  have hlt : ax < s.heap.objs.size := by obtain ⟨_, e, _⟩ := hl; exact Heap.lt_size e
  have hlt2 : ay < s.heap.objs.size := by obtain ⟨_, e, _⟩ := hl2; exact Heap.lt_size e
  have e1 : s.heap.objs.size ≠ s.heap.objs.size + 1 := Nat.ne_of_lt (Nat.lt_succ_self _)
  have hsz : xs.toArray.size = ys.toArray.size := by simpa using hlen
  refine ⟨_, _, _, _, _, _, _, _, _, _, _, _, fun i => us.getD i 0, fun i => ws.getD i 0, pr, two_lists (A := A.in1) hA (Nat.ne_of_lt hlt) (Nat.ne_of_lt (Nat.lt_succ_of_lt hlt2)) e1 (Nat.ne_of_lt (Nat.lt_succ_of_lt hlt)) (Nat.ne_of_lt hlt2) xs.toArray ys.toArray hsz, ?_, ?_, ?_, ?_, ?_, ?_, ?_, ?_, ?_⟩
  · exact ⟨⟨_, Heap.get?_push_of_some _ (Heap.get?_push_size _ rfl), rfl, rfl⟩, (hl.push _).push _⟩
  · exact ⟨⟨_, push2 _ _ _ rfl, rfl, rfl⟩, (hl2.push _).push _⟩
  · intro b hb
    show b < ((s.heap.push _).push _).objs.size
    rw [Heap.size_push, Heap.size_push]
    rcases List.mem_cons.mp hb with rfl | hb
    · exact Nat.lt_succ_of_lt (Nat.lt_succ_self _)
    · rcases List.mem_cons.mp hb with rfl | hb
      · exact Nat.lt_succ_of_lt (Nat.lt_succ_of_lt hlt)
      · cases hb
  · intro b hb
    show b < ((s.heap.push _).push _).objs.size
    rw [Heap.size_push, Heap.size_push]
    rcases List.mem_cons.mp hb with rfl | hb
    · exact Nat.lt_succ_self _
    · rcases List.mem_cons.mp hb with rfl | hb
      · exact Nat.lt_succ_of_lt (Nat.lt_succ_of_lt hlt2)
      · cases hb
  · intro i a b ha hb
    have ha' : xs[i]? = some a := by simpa using ha
    have hb' : ys[i]? = some b := by simpa using hb
    refine ⟨hv.2 i a ha', hv2.2 i b hb', ?_⟩
    rcases hf with hf | hf
    · rw [hf a (List.mem_of_getElem? ha')]; rfl
    · rw [hf b (List.mem_of_getElem? hb')]; simp
  · intro i hi; exact hpr i (by simpa using hi)
  · intro j hj; exact hfit j (by simpa using hj)
  · simpa using hn
  · intro s' r t hm hr
    rw [moved_eq hm]
    refine h s'.heap s'.toks r t (moved_kept hm (fun b o e => Heap.get?_push_of_some _ (Heap.get?_push_of_some _ e)) fun b hb => ?_) hm.toks (by simpa using hr)
    simp only [List.cons_append, List.nil_append] at hb
    rcases List.mem_cons.mp hb with rfl | hb
    · exact get_none (Nat.le_refl _)
    · rcases List.mem_cons.mp hb with rfl | hb
      · exact get_none (Nat.le_succ _)
      · cases hb

theorem sumprod_int_lists (hA : A.handled = none) (hl : s.heap.IsList ax xs.toArray) (hl2 : s.heap.IsList ay ys.toArray) (hv : IntsAre xs us) (hv2 : IntsAre ys ws) (hlen : xs.length = ys.length) (hn : 0 < xs.length)
    (hfit : ∀ j, j < xs.length → InLong (us.getD j 0) ∧ InLong (ws.getD j 0) ∧ InLong (us.getD j 0 * ws.getD j 0) ∧ InLong (preSum (fun i => us.getD i 0 * ws.getD i 0) (j + 1)))
    (h : ∀ h' tk t, Kept s.heap h' → s.toks ≤ tk → Q (.int (preSum (fun i => us.getD i 0 * ws.getD i 0) xs.length) t) { s with heap := h', toks := tk }) :
    wpAny (model prog w) A (call (.builtin "math.sumprod") [.ref ax, .ref ay]) Q E s := by
  refine call_sumprod_int (wpAny_mono (sumprod_lists_pre hl hl2 (K := fun I1 I2 s2 => ∃ (fp1 wr1 fp2 wr2 : List Addr) (G1 G2 Gd : Array GenState → Array GenState → Prop) (n : Nat) (P1 P2 : Nat → Value → Prop) (St1 St2 : Nat → Shared → Prop) (v1 v2 : Nat → Int),
      Two prog w A.in1 I1 I2 fp1 wr1 fp2 wr2 G1 G2 Gd n P1 P2 St1 St2 ∧ St1 0 s2 ∧ St2 0 s2 ∧ (∀ b ∈ fp1, b < s2.heap.objs.size) ∧ (∀ b ∈ fp2, b < s2.heap.objs.size) ∧
      (∀ i a b, P1 i a → P2 i b → (∃ t, a = .int (v1 i) t) ∧ (∃ t, b = .int (v2 i) t)) ∧
      (∀ j, j < n → InLong (v1 j) ∧ InLong (v2 j) ∧ InLong (v1 j * v2 j) ∧ InLong (preSum (fun i => v1 i * v2 i) (j + 1))) ∧ 0 < n ∧
      ∀ s' t', Moved (wr1 ++ wr2) Gd s2 s' → Q (.int (preSum (fun i => v1 i * v2 i) n) t') s') ?_)
    (fun it1 s1 h1 => wpAny_mono h1 (fun it2 s2 h2 => by obtain ⟨I1, I2, e1, e2, fp1, wr1, fp2, wr2, G1, G2, Gd, n, P1, P2, St1, St2, v1, v2, r⟩ := h2; exact ⟨I1, I2, fp1, wr1, fp2, wr2, G1, G2, Gd, n, P1, P2, St1, St2, v1, v2, e1, e2, r⟩) fun _ _ e => e) fun _ _ e => e)
  rintro I1 I2 s2 rfl rfl rfl
  have hlt : ax < s.heap.objs.size := by obtain ⟨_, e, _⟩ := hl; exact Heap.lt_size e
  have hlt2 : ay < s.heap.objs.size := by obtain ⟨_, e, _⟩ := hl2; exact Heap.lt_size e
  have e1 : s.heap.objs.size ≠ s.heap.objs.size + 1 := Nat.ne_of_lt (Nat.lt_succ_self _)
  have hsz : xs.toArray.size = ys.toArray.size := by simpa using hlen
  refine ⟨_, _, _, _, _, _, _, _, _, _, _, _, fun i => us.getD i 0, fun i => ws.getD i 0, two_lists (A := A.in1) hA (Nat.ne_of_lt hlt) (Nat.ne_of_lt (Nat.lt_succ_of_lt hlt2)) e1 (Nat.ne_of_lt (Nat.lt_succ_of_lt hlt)) (Nat.ne_of_lt hlt2) xs.toArray ys.toArray hsz, ?_, ?_, ?_, ?_, ?_, ?_, ?_, ?_⟩
  · exact ⟨⟨_, Heap.get?_push_of_some _ (Heap.get?_push_size _ rfl), rfl, rfl⟩, (hl.push _).push _⟩
  · exact ⟨⟨_, push2 _ _ _ rfl, rfl, rfl⟩, (hl2.push _).push _⟩
  · intro b hb
    show b < ((s.heap.push _).push _).objs.size
    rw [Heap.size_push, Heap.size_push]
    rcases List.mem_cons.mp hb with rfl | hb
    · exact Nat.lt_succ_of_lt (Nat.lt_succ_self _)
    · rcases List.mem_cons.mp hb with rfl | hb
      · exact Nat.lt_succ_of_lt (Nat.lt_succ_of_lt hlt)
      · cases hb
  · intro b hb
    show b < ((s.heap.push _).push _).objs.size
    rw [Heap.size_push, Heap.size_push]
    rcases List.mem_cons.mp hb with rfl | hb
    · exact Nat.lt_succ_self _
    · rcases List.mem_cons.mp hb with rfl | hb
      · exact Nat.lt_succ_of_lt (Nat.lt_succ_of_lt hlt2)
      · cases hb
  · intro i a b ha hb
    have ha' : xs[i]? = some a := by simpa using ha
    have hb' : ys[i]? = some b := by simpa using hb
    have key : ∀ {vs : List Value} {ns : List Int} {i : Nat} {v : Value}, IntsAre vs ns → vs[i]? = some v → ∃ t, v = .int (ns.getD i 0) t := by
      intro vs ns i v hI
      induction hI generalizing i with
      | nil => intro e; simp at e
      | cons n t hI ih =>
        intro e
        cases i with
        | zero => simp at e; exact ⟨t, by simp [e]⟩
        | succ i => simpa using ih (by simpa using e)
    exact ⟨key hv ha', key hv2 hb'⟩
  · intro j hj; exact hfit j (by simpa using hj)
  · simpa using hn
  · intro s' t hm
    rw [moved_eq hm]
    have := h s'.heap s'.toks t (moved_kept hm (fun b o e => Heap.get?_push_of_some _ (Heap.get?_push_of_some _ e)) fun b hb => ?_) hm.toks
    · simpa using this
    simp only [List.cons_append, List.nil_append] at hb
    rcases List.mem_cons.mp hb with rfl | hb
    · exact get_none (Nat.le_refl _)
    · rcases List.mem_cons.mp hb with rfl | hb
      · exact get_none (Nat.le_succ _)
      · cases hb
end
end Mine
end

section
namespace Mine
open PySem PySem.W PySem.Calls PyProof.Rows PySem.Flt
set_option maxRecDepth 100000
section
variable {prog : Program} {w : World} {A : Around} {E : Value → Shared → Prop} {s : Shared} {Q : Value → Shared → Prop} {v : Value} {S V : Int} {x y : UInt64} {tk tk' : Tok} {n : Int}

theorem not_inf {n : Int} (h : Fits (n * 2 ^ 1074)) : ¬ Float64.isInf (Float64.ofInt n) = true := by rw [(Ex.ofInt h).notInf]; exact Bool.false_ne_true
theorem num_add (hv : NumV v S) (hz : Ex x V) (hf : Fits (S + V)) (h : ∀ r t, Ex r (S + V) → Q (.float r t) { s with toks := s.toks + 1 }) : wpAny (model prog w) A (binaryOp .Add v (.float x tk)) Q E s := by
  cases hv with
  | int t e hf' => subst e; exact AutoFloatOps.add_if_1 (not_inf hf') (h _ _ ((Ex.ofInt hf').add hz hf))
  | float t hx => exact AutoFloatOps.add_0 (h _ _ (hx.add hz hf))
theorem num_add_zero (hv : NumV v S) (hz : Ex x 0) (h : ∀ r t, Ex r S → Q (.float r t) { s with toks := s.toks + 1 }) : wpAny (model prog w) A (binaryOp .Add v (.float x tk)) Q E s :=
  num_add hv hz (by rw [Int.add_zero]; cases hv with
    | int t e hf => exact hf
    | float t hx => exact hx.fits) fun r t hr => h r t (hr.to (Int.add_zero _))
theorem num_sub (hv : NumV v S) (hz : Ex x V) (hf : Fits (S - V)) (h : ∀ r t, Ex r (S - V) → Q (.float r t) { s with toks := s.toks + 1 }) : wpAny (model prog w) A (binaryOp .Sub v (.float x tk)) Q E s := by
  cases hv with
  | int t e hf' => subst e; exact AutoFloatOps.sub_if_1 (not_inf hf') (h _ _ ((Ex.ofInt hf').sub hz hf))
  | float t hx => exact AutoFloatOps.sub_0 (h _ _ (hx.sub hz hf))
theorem not_zero {n : Int} (h : Fits (n * 2 ^ 1074)) (h0 : n ≠ 0) : ¬ Float64.isZero (Float64.ofInt n) = true := fun z => h0 ((isZero_ofInt n).mp z)
theorem mul_ne {n : Int} {k : Nat} (h : n * 2 ^ k ≠ 0) : n ≠ 0 := fun z => h (by rw [z, Int.zero_mul])
theorem num_div_zero (hA : A.handled = none) (hv : NumV v 0) (h : ∀ h' tk e, Heap.NewExc s.heap h' e "ZeroDivisionError" → E (.ref e) { s with heap := h', toks := tk }) : wpAny (model prog w) A (binaryOp .Div (.float x tk) v) Q E s := by
  cases hv with
  | int t e hf =>
    rename_i i
    have h0 : i = 0 := by
      rcases Int.mul_eq_zero.mp e.symm with h | h
      · exact h
      · exact absurd h (Int.ne_of_gt (Int.pow_pos (by decide)))
    subst h0
    exact truediv_fi hA (fun o => absurd o (not_over (n := 0) (by rw [Int.zero_mul]; exact Fits.zero))) (fun _ => h) (fun _ h0 => absurd rfl h0)
  | float t hy => exact truediv_float_or hA (fun _ => h) (fun h0 => absurd (by rw [hy.notZero]; rfl) h0)
/-- exact: a float by an int -/
theorem float_div_int (hx : Ex x S) (h0 : n ≠ 0) (hn : Fits (n * 2 ^ 1074)) (hV : S = V * n) (hf : Fits V) (h : ∀ r t, Ex r V → Q (.float r t) { s with toks := s.toks + 1 }) : wpAny (model prog w) A (binaryOp .Div (.float x tk) (.int n tk')) Q E s :=
  AutoFloatOps.truediv_fi_2 (not_inf hn) (not_zero hn h0) (h _ _ (hx.div (Ex.ofInt hn) (by
    intro z
    rcases Int.mul_eq_zero.mp z with h | h
    · exact h0 h
    · exact absurd h (Int.ne_of_gt (Int.pow_pos (by decide)))) (by rw [hV, Int.mul_assoc]) hf))
theorem float_mul (h : Q (.float (Float64.mul x y) s.toks) { s with toks := s.toks + 1 }) : wpAny (model prog w) A (binaryOp .Mult (.float x tk) (.float y tk')) Q E s := AutoFloatOps.mul_0 h
theorem float_sub (h : Q (.float (Float64.sub x y) s.toks) { s with toks := s.toks + 1 }) : wpAny (model prog w) A (binaryOp .Sub (.float x tk) (.float y tk')) Q E s := AutoFloatOps.sub_0 h
theorem ex_lit0 : Ex (0 : UInt64) 0 := ⟨false, 0, -1074, decode_zero, by rw [Float64.val_eq decode_zero, Nat.zero_mul]; rfl⟩
/-- an exact quotient is a value -/
theorem Quo.ex {r : UInt64} {n d v : Int} (h : Quo r n d) (e : n * 2 ^ 1074 = v * d) (hf : Fits v) : Ex r v := by
  obtain ⟨hd, h0, h1⟩ := h
  by_cases hn : n = 0
  · refine (h0 hn).to ?_
    rw [hn, Int.zero_mul] at e
    rcases Int.mul_eq_zero.mp e.symm with h | h
    · exact h.symm
    · exact absurd h hd
  · obtain ⟨t, ht, hv⟩ := hf
    have e1 : n.natAbs * 2 ^ 1074 = d.natAbs * Float64.V t := by
      have := congrArg Int.natAbs e
      rw [Int.natAbs_mul, Int.natAbs_mul, Int.natAbs_pow] at this
      rw [hv, Nat.mul_comm d.natAbs]; exact this
    have := right_exact (h1 hn) (by omega) ht e1
    refine this.to ?_
    rw [hv]
    have hv0 : v ≠ 0 := fun z => by
      rw [z, Int.zero_mul] at e
      rcases Int.mul_eq_zero.mp e with h | h
      · exact hn h
      · exact absurd h (Int.ne_of_gt (Int.pow_pos (by decide)))
    have es := congrArg Int.sign e
    have hp : ((2 : Int) ^ 1074).sign = 1 := Int.sign_eq_one_of_pos (Int.pow_pos (by decide))
    rw [Int.sign_mul, Int.sign_mul, hp, Int.mul_one] at es
    have two : ∀ z : Int, z ≠ 0 → (z.sign = 1 ∧ decide (z < 0) = false) ∨ (z.sign = -1 ∧ decide (z < 0) = true) := fun z h => by
      rcases Int.lt_or_gt_of_ne h with a | a
      · exact .inr ⟨Int.sign_eq_neg_one_of_neg a, by simp; omega⟩
      · exact .inl ⟨Int.sign_eq_one_of_pos a, by simp; omega⟩
    have hs : (decide (n < 0) != decide (d < 0)) = decide (v < 0) := by
      rcases two n hn with ⟨a1, a2⟩ | ⟨a1, a2⟩ <;> rcases two d hd with ⟨b1, b2⟩ | ⟨b1, b2⟩ <;> rcases two v hv0 with ⟨c1, c2⟩ | ⟨c1, c2⟩ <;>
        rw [a1, b1, c1] at es <;> rw [a2, b2, c2] <;> first | rfl | (exfalso; revert es; decide)
    rw [hs]; exact sgn_of v
end
end Mine
end

section
open PySem PySem.W PySem.Calls PyProof.Rows
set_option maxRecDepth 100000
set_option maxHeartbeats 1000000
namespace Mine
theorem have_eq {α : Type} {x : Option α} {o : α} {P : Prop} (e : x = some o) (k : x = some o → P) : P := k e
abbrev lrObj (C dx : Addr) (v1 v2 : Value) : Obj := { cls := .ref C, dict := some dx, data := .seq #[v1, v2] }
/-- the new object that linear_regression gives back -/
def IsLR (h : Heap) (t : Addr) : Prop := ∃ dx u1 u2, h.get? t = some (lrObj 173 dx u1 u2)
theorem oi_args2 (a v1 v2 : Value) : argsOk "object.__init__" ⟨[a], [(Str.ofString "slope", v1), (Str.ofString "intercept", v2)]⟩ := by unfold argsOk; kernel_rfl
section
variable {w : World} {A : Around} {E : Value → Shared → Prop} {s : Shared} {h₀ : Heap} {L : Addr} {m : Str → Option Value} {news : List (Addr × Obj)}
theorem lr_made {h : Heap} : (Mine.hd.heap_39 w.params).In h → Looks (model PySem.Challenge.rw_kq0023_01.row.prog w) h (Bind.madeBy (.ref 173)) none := by
  k_fill
  intro X
  refine' have_eq (x := (Mine.hd.heap_39 w.params).lookup 173) ?e ?k
  case e => k_is
  intro hK
  have hC := X _ _ hK
  have hm : Looks (model PySem.Challenge.rw_kq0023_01.row.prog w) h (mroOf (.ref 173)) _ := ((Looks.ld (part := none) hC).andThen .now).andThen .now
  intro A Q E s k q
  unfold Bind.madeBy
  refine wpAny_bind (hm A _ E s k ?_)
  rw [List.forIn_cons]
  refine wpAny_bind (wpAny_bind (wpAny_bind (wpAny_bind (wpAny_loadPart (k _ _ hC) (wpAny_pure ?_)))))
  exact wpAny_pure (wpAny_pure (wpAny_pure q))
theorem best_tuple : Builtin.Slots.bestBase [.type "tuple"] = pure (.type "tuple") := by kernel_rfl
theorem lr_static {h : Heap} : (Mine.hd.heap_39 w.params).In h → Looks (model PySem.Challenge.rw_kq0023_01.row.prog w) h (Bind.staticBase (.ref 173)) (.type "tuple") := by
  k_fill
  intro X
  have hmade := lr_made X
  refine' have_eq (x := (Mine.hd.heap_39 w.params).lookup 173) ?e ?k
  case e => k_is
  intro hK
  have hC := X _ _ hK
  have hm : Looks (model PySem.Challenge.rw_kq0023_01.row.prog w) h (mroOf (.ref 173)) _ := ((Looks.ld (part := none) hC).andThen .now).andThen .now
  intro A Q E s k q
  unfold Bind.staticBase
  refine wpAny_bind (hm A _ E s k ?_)
  dsimp only
  rw [List.forIn_cons]
  refine wpAny_bind (wpAny_bind (wpAny_bind (hmade A _ E s k ?_)))
  repeat ((fail_if_success (with_reducible show wpAny _ _ (Builtin.Slots.bestBase _) _ _ _)); lk)
  have hm2 : Looks (model PySem.Challenge.rw_kq0023_01.row.prog w) h (Bind.madeBy (.type "tuple")) (some "tuple.__new__") := Looks.of_pure PySem.F.called_tuple.made
  have hC' := k _ _ hC
  refine wpAny_loadPart (k _ _ hC) ?_
  repeat ((fail_if_success (with_reducible show wpAny _ _ (Builtin.Slots.bestBase _) _ _ _)); lk)
  rw [best_tuple]
  refine wpAny_pure (wpAny_pure ?_)
  dsimp only
  rw [List.forIn_cons]
  refine wpAny_bind (wpAny_bind (hm2 A _ E s k ?_))
  exact wpAny_pure (wpAny_pure (wpAny_pure q))
theorem lr_make {v1 v2 : Value} {Q : Value → Shared → Prop} (F : Fr h₀ L s.heap m) (N : News h₀ L s.heap news)
  (h : wpAny (model PySem.Challenge.rw_kq0023_01.row.prog w) (A.under (.builtin "type.__call__" ⟨[.ref 173], [(Str.ofString "slope", v1), (Str.ofString "intercept", v2)]⟩)) (call (.ref 123) [.ref 173] [(Str.ofString "slope", v1), (Str.ofString "intercept", v2)])
    (fun v s' => ∃ t, v = .ref t ∧ IsLR s'.heap t ∧ (∀ b o, h₀.get? b = some o → s'.heap.get? b = some o) ∧ Q (.ref t) s') E { s with toks := s.toks + 1 }) :
  (Mine.hd.heap_39 w.params).In h₀ →
  wpAny (model PySem.Challenge.rw_kq0023_01.row.prog w) A (call (.ref 173) [] [(Str.ofString "slope", v1), (Str.ofString "intercept", v2)]) Q E s := by
  k_fill
  intro X₀
  have X := X₀.keeps F.keep
  have hmade := lr_made X
  have hcall : Looks (model PySem.Challenge.rw_kq0023_01.row.prog w) s.heap (specialOf (.ref 173) "__call__") (some (.builtin "type.__call__")) := looks_specialIn X (by k_is)
  have htyp : Looks (model PySem.Challenge.rw_kq0023_01.row.prog w) s.heap (isInstance (.ref 173) (.type "type")) true := looks_instIn X (by k_is)
  refine' have_eq (x := (Mine.hd.heap_39 w.params).lookup 173) ?e ?k
  case e => k_is
  intro hK
  have hC := X _ _ hK
  refine wpAny_call (codeAny_of_tree ?_)
  show wpAny _ _ (callAny (.ref 173) _) _ _ _
  obtain ⟨hp, g, d, tk, os⟩ := s
  refine nd_load hC ?_
  show wpAny _ _ (callAny.viaDunder (.ref 173) _) _ _ _
  unfold callAny.viaDunder
  refine wpAny_bind (hcall.at ?_)
  dsimp only
  rw [tc_bind]
  refine wpAny_bind (wpAny_pure (wpAny_bind (wpAny_pure ?_)))
  refine wpAny_pure (a := Fin.again (.call (.builtin "type.__call__") ⟨[.ref 173], _⟩)) (And.intro rfl ?_)
  refine codeAny_call_builtin_at (Code.quiet_builtin _ (by decide +kernel)) entry_typeCall (check_slot tc_kind tc_split htyp (tc_args _ _ _) ?_)
  unfold Builtin.«type.__call__»
  have hm : Looks (model PySem.Challenge.rw_kq0023_01.row.prog w) hp (mroOf (.ref 173)) _ := ((Looks.ld (part := none) hC).andThen .now).andThen .now
  repeat ((fail_if_success (with_reducible show wpAny _ _ (getAttr _ _ _) _ _ _)); lk)
  have F1 : Fr h₀ L (⟨hp, g, d, tk, os⟩ : Shared).heap m := F
  refine' cls_sm (rest := []) F1 X₀ ?k3 ?k4 ?k5 ?k6 ?k7 ?_
  case k3 => k_is
  case k4 => k_is
  case k5 => k_is
  case k6 => k_is
  case k7 => k_handed
  dsimp only
  refine wpAny_bind (wpAny_holding (wpAny_mono h ?_ fun _ _ x => x))
  rintro v s' ⟨t, rfl, ⟨dx, u1, u2, hx⟩, hk, q⟩
  have X' := X₀.keeps hk
  have t1 : Looks (model PySem.Challenge.rw_kq0023_01.row.prog w) s'.heap (typeOf (.ref t)) (.ref 173) := (Looks.ld hx).andThen .now
  have i1 : Looks (model PySem.Challenge.rw_kq0023_01.row.prog w) s'.heap (typeLookup (.ref 173) "__init__") (some (.builtin "object.__init__")) := looks_findIn X' (by k_is)
  have s1 : Looks (model PySem.Challenge.rw_kq0023_01.row.prog w) s'.heap (isSubtype (.ref 173) (.ref 173)) true := looks_subIn X' (by k_is)
  have s2 : Looks (model PySem.Challenge.rw_kq0023_01.row.prog w) s'.heap (isInstance (.ref t) (.type "object")) true := t1.andThen (looks_subIn X' (by k_is))
  have hmade' := lr_made X'
  obtain ⟨hp', g', d', tk', os'⟩ := s'
  have i2 : Looks (model PySem.Challenge.rw_kq0023_01.row.prog w) hp' (isInstance (.ref t) (.ref 173)) true := t1.andThen s1
  refine wpAny_bind (i2.here ?_)
  simp only [Bool.not_true, Bool.false_eq_true, if_false]
  refine wpAny_bind (wpAny_holding ?_)
  unfold callSpecial?
  have j1 : Looks (model PySem.Challenge.rw_kq0023_01.row.prog w) hp' (specialOf (.ref t) "__init__") (some (.builtin "object.__init__")) := t1.andThen i1
  refine wpAny_bind (j1.here ?_)
  dsimp only
  refine wpAny_holding ?_
  rw [oi_bind]
  refine wpAny_bind (wpAny_pure (wpAny_bind (wpAny_call ?_)))
  refine codeAny_call_builtin oi_plain entry_oi (@check_slot (model PySem.Challenge.rw_kq0023_01.row.prog w) _ _ _ "object.__init__" "object" "__init__" (.ref t) [] _ _ oi_kind oi_split s2 (oi_args2 (.ref t) v1 v2) ?_)
  unfold Builtin.«object.__init__»
  dsimp only
  simp only [List.isEmpty_nil, List.isEmpty_cons, Bool.not_true, Bool.not_false, Bool.or_true, if_true]
  refine wpAny_bind (t1.here ?_)
  refine wpAny_bind (i1.here ?_)
  refine wpAny_bind (hmade'.here ?_)
  simp only [bne_self_eq_false, Bool.false_eq_true, if_false]
  repeat lk
  exact q
theorem lr_new {p : Addr} {v1 v2 : Value} {c : Nat} {Q : Value → Shared → Prop} (F : Fr h₀ L s.heap m) (N : News h₀ L s.heap news) (hmem : (p, ({ cls := .type "tuple", data := .seq #[v1, v2] c } : Obj)) ∈ news)
  (h : ∀ t dx h' tk', Fr h₀ L h' m → News h₀ L h' ((t, lrObj 173 dx v1 v2) :: (dx, emptyDict) :: news) → (∀ b o, s.heap.get? b = some o → h'.get? b = some o) → (∀ p ∈ news, p.1 < dx) → dx < t → Q (.ref t) { s with heap := h', toks := tk' }) :
  (Mine.hd.heap_39 w.params).In h₀ →
  wpAny (model PySem.Challenge.rw_kq0023_01.row.prog w) A (call (.builtin "tuple.__new__") [.ref 173, .ref p]) Q E s := by
  k_fill
  intro X₀
  have hp := (N _ hmem).1
  have X := X₀.keeps F.keep
  have hmade := lr_made X
  have hstat := lr_static X
  have hsub : Looks (model PySem.Challenge.rw_kq0023_01.row.prog w) s.heap (isSubtype (.ref 173) (.type "tuple")) true := looks_subIn X (by k_is)
  have hini : Looks (model PySem.Challenge.rw_kq0023_01.row.prog w) s.heap (typeLookup (.ref 173) "__init__") (some (.builtin "object.__init__")) := looks_findIn X (by k_is)
  refine' have_eq (x := (Mine.hd.heap_39 w.params).lookup 173) ?e ?k
  case e => k_is
  intro hK
  have hC := X _ _ hK
  obtain ⟨hh, g, d, tk, os⟩ := s
  have hmt : Looks (model PySem.Challenge.rw_kq0023_01.row.prog w) hh (Bind.madeBy (.type "tuple")) (some "tuple.__new__") := Looks.of_pure PySem.F.called_tuple.made
  refine wpAny_call (codeAny_call_builtin_code (Code.quiet_builtin _ (by decide +kernel)) ?_)
  have e1 : builtinKind "tuple.__new__" = some .builtinFn := by decide +kernel
  have e2 : splitId "tuple.__new__" = some ("tuple", "__new__") := by decide +kernel
  simp only [checkBuiltinCall, e1, e2]
  repeat lk
  refine codeAny_builtin PySem.F.entry_tuple_new ?_
  unfold Builtin.«tuple.__new__»
  have hmh : Looks (model PySem.Challenge.rw_kq0023_01.row.prog w) hh (Bind.madeHere "tuple.__new__" (.ref 173)) () := hstat.andThen (hmt.andThen (Looks.of_pure (by simp only [Option.map_some, bne_self_eq_false, Bool.false_eq_true, if_false])))
  repeat ((fail_if_success (with_reducible show wpAny _ _ (collect _) _ _ _)); lk)
  refine wpAny_collect_seq p (.inr rfl) hp rfl rfl (fun h' hk => ?_) (by show 2 ≤ sizeLine; decide)
  dsimp only
  have F2 := Fr.keeps F hk
  have N2 := News.grown N hk
  have N3 := (N2.push F2 emptyDict).push (F2.push _) (lrObj 173 h'.objs.size v1 v2)
  rw [Heap.size_push] at N3
  have hC2 := hk _ _ hC
  refine wpAny_bind (wpAny_pure (wpAny_bind (wpAny_alloc ?_)))
  refine wpAny_bind ?_
  show wpAny _ _ (newObjAsIs _ _ _) _ _ _
  unfold newObjAsIs classHasDel
  refine wpAny_bind (wpAny_alloc (wpAny_bind (wpAny_bind (wpAny_load (Heap.get?_push_of_some _ (Heap.get?_push_of_some _ hC2)) (wpAny_pure ?_)))))
  refine wpAny_pure (wpAny_pure ?_)
  have q := h (h'.objs.size + 1) h'.objs.size ((h'.push emptyDict).push (lrObj 173 h'.objs.size v1 v2)) tk ((F2.push _).push _) N3
    (fun b o e => Heap.get?_push_of_some _ (Heap.get?_push_of_some _ (hk b o e))) (fun p hp => Heap.lt_size (N2 p hp).1) (Nat.lt_succ_self _)

  have z : (h'.push emptyDict).objs.size = h'.objs.size + 1 := Heap.size_push _ _
  rw [← z] at q
  exact q
end
end Mine
end

section
open PySem PySem.W PySem.Calls PyProof.Rows PySem.Spec
set_option maxRecDepth 100000
set_option maxHeartbeats 1000000
namespace Mine
/-- a code table whose entries are all codes -/
def TabL : List Value → Prop
  | [] => True
  | .int _ _ :: .int _ _ :: .ref _ :: rest => TabL rest
  | _ => False
structure TabOk (ps : Array Value) : Prop where
  is : TabL ps.toList
theorem tab_triples (l : List Value) (h : TabL l) : TriplesOk l := by
  fun_induction TabL l with
  | case1 => trivial
  | case2 a t b u x rest ih => exact ih h
  | case3 l h1 h2 => exact h.elim
theorem tab_code {pos : Pos} (l : List Value) (h : TabL l) : codeAmong pos l = none ∨ ∃ c, codeAmong pos l = some (.ref c) := by
  fun_induction TabL l with
  | case1 => exact .inl rfl
  | case2 a t b u x rest ih =>
    simp only [codeAmong]
    split
    · exact .inr ⟨_, rfl⟩
    · exact ih h
  | case3 l h1 h2 => exact h.elim
theorem tab_snoc (a b : Int) (c : Addr) (l : List Value) (h : TabL l) : TabL (l ++ [rawInt a, rawInt b, .ref c]) := by
  fun_induction TabL l with
  | case1 => simp [TabL, rawInt]
  | case2 a' t b' u x rest ih => simp only [List.cons_append, TabL]; exact ih h
  | case3 l h1 h2 => exact h.elim
theorem tab_nil : TabOk #[] := ⟨trivial⟩
section
variable {prog : Program} {w : World} {A : Around} {E : Value → Shared → Prop} {s : Shared} {env : Env} {c P : Addr} {ps : Array Value} {pos : Pos} {q : Str} {scope : Scope} {Q : Value → Shared → Prop}
/-- the code of a generator expression, made or found again -/
theorem gen_code (hc : env.code = .ref c) (hok : s.heap.IsCode c P ps) (htab : s.heap.TableAt c P ps) (hT : TabOk ps)
    (h : ∀ c' h' tk ps', Heap.ExtBut P s.heap h' → s.heap.objs.size ≤ h'.objs.size → TabOk ps' → h'.TableAt c P ps' → Q (.ref c') { s with heap := h', toks := tk }) : wpAny (model prog w) A (genexprCode env pos q scope) Q E s := by
  rcases tab_code (pos := pos) _ hT.is with hn | ⟨c', hf⟩
  · refine wpAny_genexprCodeX hc hok htab hn fun c' h' tk hx hge hlt _ _ ht _ => ?_
    exact h c' h' tk _ hx (Nat.le_of_lt (Nat.lt_of_le_of_lt hge hlt)) ⟨by rw [show (ps ++ #[rawInt pos.line, rawInt pos.col, Value.ref c']).toList = ps.toList ++ [rawInt pos.line, rawInt pos.col, .ref c'] by simp]; exact tab_snoc _ _ _ _ hT.is⟩ ht
  · exact wpAny_codeAt_hit hc hok hf (h c' s.heap s.toks ps (fun _ _ _ e => e) (Nat.le_refl _) hT htab)
end
section
variable {prog : Program} {w : World} {A : Around} {E : Value → Shared → Prop} {s : Shared} {env : Env} {elt iter : Expr} {x : Str} {px pos : Pos} {scope : Scope} {cl : List (Str × Addr)} {xs : List Value} {ay c P bm : Addr} {ps : Array Value} {ob : Obj} {mg : Str → Option Value} {ks : List Addr} {F : Nat → Value → Prop} {Q : Value → Shared → Prop}
theorem gen_listT (hh : A.handled = none) (hco : scope.isCoroutine = false) (hclos : closureFor scope env = pure cl) (hcell : ∀ y ∈ scope.names, y.2 ≠ .cell) (h0 : scope.names.lookup (".0" : Str) = some NameKind.local)
    (hx : scope.names.lookup x = some .local) (hkind : scope.kind = .function) (hroom : A.depth < recursionLimit)
    (hcode : env.code = .ref c) (hic : s.heap.IsCode c P ps) (htab : s.heap.TableAt c P ps) (hT : TabOk ps) (M : BMod s.heap env.globals mg bm ob) (hlim : s.heap.NoLimit) (hPs : P ≠ cStatics)
    (hl : s.heap.IsList ay xs.toArray) (hiter : ∀ Q' : Value → Shared → Prop, Q' (.ref ay) s → wpAny (model prog w) A (eval iter env) Q' E s)
    (hks : ∀ b ∈ ks, b < s.heap.objs.size) (hPk : P ∉ ks) (hPa : P ≠ ay)
    (helt : ∀ (c' C : Addr) (A' : Around) (E' : Value → Shared → Prop) i v (t : Shared) m₂, A'.handled = none → A'.depth ≤ A.depth + 1 → xs[i]? = some v → t.heap.Ns C m₂ → m₂ x = some v → (∀ b ∈ ks, ∀ o, s.heap.get? b = some o → t.heap.get? b = some o) →
      wpAny (model prog w) A' (eval elt (genEnv scope cl C (.ref c') builtinsNs env)) (fun y s₃ => F i y ∧ Keeps t s₃) E' t)
    (h : ∀ a C I ps' h₅ tk gs oa oC oI, TabOk ps' → gs.bare = true → (∀ b o, b ≠ P → s.heap.get? b = some o → h₅.get? b = some o) → h₅.get? P = some (tabObj ps') →
      h₅.get? a = some oa → h₅.get? C = some oC → h₅.get? I = some oI → @LE.le Nat _ s.heap.objs.size a → @LE.le Nat _ s.heap.objs.size C → @LE.le Nat _ s.heap.objs.size I → @Ne Nat a C → @Ne Nat a I → @Ne Nat C I →
      GenIs prog w A a C I ay ks s.gens.size xs.length F ⟨h₅, s.gens.push gs, s.drawn, tk, s.os⟩ → Q (.ref a) ⟨h₅, s.gens.push gs, s.drawn, tk, s.os⟩)
    (hs : ∀ x, genFold iter env x = pure x) :
    wpAny (model prog w) A (eval (.GeneratorExp elt [⟨.Name x px, iter, [], 0⟩] scope pos) env) Q E s := by
  have hlt : ay < s.heap.objs.size := by obtain ⟨_, e, _⟩ := hl; exact Heap.lt_size e
  have hPlt : P < s.heap.objs.size := Heap.lt_size htab.2
  have hclt : cStatics < s.heap.objs.size := let ⟨_, hn, _⟩ := hlim; hn.lt
  refine wpAny_GeneratorExp_make hco hclos hcell h0 hkind hroom (hiter _ ?_) hs
  refine wpAny_pyIter_list hl ⟨hlim.push _, ?_⟩
  refine gen_code hcode (hic.push _) (htab.push _) hT fun c' h₃ tk₃ ps' hx₃ hge hT' htab₃ => ?_
  have M₃ : BMod h₃ env.globals mg bm ob := (M.keeps fun _ _ e => Heap.get?_push_of_some _ e).extBut (htab.push _) hx₃
  refine wpAny_builtinsFor M₃.ns M₃.name M₃.ne M₃.obj M₃.cls M₃.dict M₃.data ?_
  intro h' hn' hs'
  have hsz2 : (s.heap.push { cls := .type "list_iterator", data := .fields #[.ref ay, .int 0 0] }).objs.size = s.heap.objs.size + 1 := Heap.size_push ..
  have hge' : s.heap.objs.size + 1 ≤ h₃.objs.size := by rw [← hsz2]; exact hge
  have hsz : h'.objs.size = h₃.objs.size + 1 := by rw [hs'.1, Heap.size_push]
  have up : ∀ b o, b ≠ P → (s.heap.push { cls := .type "list_iterator", data := .fields #[.ref ay, .int 0 0] }).get? b = some o → h'.get? b = some o := fun b o hb e =>
    hs'.extBut b o (Nat.ne_of_lt (Heap.lt_size (hx₃ b o hb e))) (Heap.get?_push_of_some _ (hx₃ b o hb e))
  have keep : ∀ b o, b ≠ P → s.heap.get? b = some o → (h'.push { cls := .type "generator", data := .fields #[.int s.gens.size 0, .str "<genexpr>" (tk₃ + 1), .str (env.qual ++ "<genexpr>") (tk₃ + 1 + 1)] }).get? b = some o := fun b o hb e =>
    Heap.get?_push_of_some _ (up b o hb (Heap.get?_push_of_some _ e))
  have hI : (h'.push { cls := .type "generator", data := .fields #[.int s.gens.size 0, .str "<genexpr>" (tk₃ + 1), .str (env.qual ++ "<genexpr>") (tk₃ + 1 + 1)] }).get? s.heap.objs.size = some { cls := .type "list_iterator", data := .fields #[.ref ay, .int 0 0] } :=
    Heap.get?_push_of_some _ (up _ _ (fun e => Nat.lt_irrefl _ (e ▸ hPlt)) (Heap.get?_push_size _ rfl))
  have hlim₃ : h₃.NoLimit := (hlim.push _).extBut hx₃ (Ne.symm hPs)
  have hlim₅ : (h'.push { cls := .type "generator", data := .fields #[.int s.gens.size 0, .str "<genexpr>" (tk₃ + 1), .str (env.qual ++ "<genexpr>") (tk₃ + 1 + 1)] }).NoLimit :=
    hlim₃.keeps fun b o e => Heap.get?_push_of_some _ (hs'.extBut b o (Nat.ne_of_lt (Heap.lt_size e)) (Heap.get?_push_of_some _ e))
  have n1 : ∀ b, @LT.lt Nat _ b h₃.objs.size → @Ne Nat h'.objs.size b := fun b hb e => by rw [hsz] at e; omega
  have hfx : ∀ b ∈ s.heap.objs.size :: ay :: cStatics :: ks, @LT.lt Nat _ b h₃.objs.size := fun b hb => by
    rcases List.mem_cons.mp hb with rfl | hb
    · omega
    · rcases List.mem_cons.mp hb with rfl | hb
      · exact Nat.lt_trans hlt (by omega)
      · rcases List.mem_cons.mp hb with rfl | hb
        · exact Nat.lt_trans hclt (by omega)
        · exact Nat.lt_trans (hks b hb) (by omega)
  have hCx : h₃.objs.size ∉ s.heap.objs.size :: ay :: cStatics :: ks := fun hm => Nat.lt_irrefl _ (hfx _ hm)
  have hax : h'.objs.size ∉ s.heap.objs.size :: ay :: cStatics :: ks := fun hm => n1 _ (hfx _ hm) rfl
  obtain ⟨oC, hoC⟩ : ∃ oC, h'.get? h₃.objs.size = some oC := by obtain ⟨o, _, _, ho, _⟩ := hn'; exact ⟨o, ho⟩
  refine h h'.objs.size h₃.objs.size s.heap.objs.size ps' _ _ _ _ oC _ hT' rfl keep (Heap.get?_push_of_some _ (hs'.extBut P _ (Nat.ne_of_lt (Heap.lt_size htab₃.2)) (Heap.get?_push_of_some _ htab₃.2))) (Heap.get?_push_size _ rfl) (Heap.get?_push_of_some _ hoC) hI
    (by show @LE.le Nat _ _ _; rw [hsz]; omega) (by omega) (Nat.le_refl _) (by show @Ne Nat _ _; rw [hsz]; omega) (by show @Ne Nat _ _; rw [hsz]; omega) (by omega) ⟨?_, ?_⟩
  · exact WalksS.genexpQ (A := A.in4) hh _ _ _ _ [s.heap.objs.size] allOf xs.length F (by show @Ne Nat _ _; rw [hsz]; omega) hax (fun b hb => by rw [List.mem_singleton.mp hb]; exact List.mem_cons_self) hroom
      (List.mem_cons_of_mem _ (List.mem_cons_of_mem _ List.mem_cons_self)) (Nat.ne_of_lt (Nat.lt_trans hclt (by omega))) (fun hm => Nat.ne_of_lt hclt (List.mem_singleton.mp hm))
  · have hne : ay ≠ s.heap.objs.size := Nat.ne_of_lt hlt
    have sz : xs.toArray.size = xs.length := List.size_toArray ..
    refine GenAt.freshD (A := A.in4) (cenv := genEnv scope cl h₃.objs.size (.ref c') builtinsNs env) (m := fun y => if y = ".0" then some (.ref s.heap.objs.size) else none) (P := fun i v => xs.toArray[i]? = some v) (St₀ := fun i h => h.IsListIter s.heap.objs.size ay i ∧ h.IsList ay xs.toArray) hh
      (fun A' hA => by
        have W := Walks.list (prog := prog) (w := w) hA s.heap.objs.size ay hne xs.toArray
        rw [sz] at W
        exact W.mono_fp fun b hb => by
          rcases List.mem_cons.mp hb with rfl | hb
          · exact List.mem_cons_self
          · rw [List.mem_singleton.mp hb]; exact List.mem_cons_of_mem _ List.mem_cons_self) allOf F hx (by simp [genEnv, hkind]) hco
      hCx ⟨?_, ?_⟩ ⟨_, _, _, Heap.get?_push_size _ rfl, rfl, rfl, rfl⟩ (Array.getElem?_push_size ..) ⟨⟨_, hI, rfl, rfl⟩, ?_⟩ (hn'.push _) hlim₅
    · intro A' E' i v s₂ m₂ _ _ _ _ _ _ _
      exact wpAny_pure ⟨rfl, s₂.heap, s₂.toks, rfl, fun _ _ e => e⟩
    · intro A' E' i v s₂ m₂ hA hD hU hv _ hn hm hk
      refine helt c' h₃.objs.size A' E' i v s₂ m₂ hA hD (by simpa using hv) hn hm fun b hb o e => ?_
      exact hk b (List.mem_cons_of_mem _ (List.mem_cons_of_mem _ (List.mem_cons_of_mem _ hb))) (fun hm => Nat.ne_of_lt (hks b hb) (List.mem_singleton.mp hm)) o (keep b o (fun e => hPk (e ▸ hb)) e)
    · obtain ⟨o, e, r⟩ := hl
      exact ⟨o, keep ay o (Ne.symm hPa) e, r⟩
end
end Mine
end

section
open PySem PySem.W PySem.Calls PyProof.Rows
set_option maxRecDepth 100000
set_option maxHeartbeats 400000
namespace Mine
theorem lr_code {w : World} {h : Heap} {ps : Array Value} (hT : TabOk ps) (hP : h.get? 179 = some (tabObj ps)) : (Mine.hd.heap_39 w.params).In h → PySem.Challenge.rw_kq0023_01 = PySem.Challenge.rw_kq0023_01 ∧ h.IsCode 181 179 ps ∧ h.TableAt 181 179 ps := by
  k_fill
  intro X
  refine' have_eq (x := (Mine.hd.heap_39 w.params).lookup 181) ?e ?k
  case e => k_is
  intro hK
  have hC := X _ _ hK
  refine ⟨rfl, ⟨_, _, _, _, _, _, _, _, _, _, hC, rfl, rfl, rfl, rfl, rfl, rfl, hP, rfl, tab_triples _ hT.is, by decide⟩, ⟨_, _, hC, rfl, rfl, rfl⟩, hP⟩
end Mine
end

section
open PySem PySem.W PySem.Calls PyProof.Rows
set_option maxRecDepth 100000
set_option maxHeartbeats 400000
namespace Mine
theorem tab_ne {K : Frag} {h : Heap} {mg : Str → Option Value} {x : Str} {A C P0 : Addr} {oA oC : Obj} {fd0 : FuncData} {vs0 : Array Value} (X : K.In h) (hg : h.Ns mainGlobals mg) (e : nsIn K mainGlobals x = some (some (.ref A))) (eA : K.lookup A = some oA) (dA : oA.data = .func fd0) (cA : fd0.code = .ref C) (eC : K.lookup C = some oC) (dC : oC.data = .fields vs0) (hp : vs0.getD 11 .none = .ref P0) (hne : P0 ≠ 179)
    {a c P' : Addr} {o : Obj} {fd : FuncData} (h1 : mg x = some (.ref a)) (h2 : h.get? a = some o) (h3 : o.data = .func fd) (h4 : fd.code = .ref c) (h5 : h.IsCode c P' #[]) : P' ≠ 179 := by
  rw [mg_of X hg e] at h1
  cases h1
  rw [X _ _ eA] at h2
  cases h2
  rw [dA] at h3
  cases h3
  rw [cA] at h4
  cases h4
  obtain ⟨o', vs, _, _, _, _, _, _, _, _, x1, x2, x3, _⟩ := h5
  rw [X _ _ eC] at x1
  cases x1
  rw [dC] at x2
  cases x2
  rw [hp] at x3
  cases x3
  exact hne
theorem law_names : (recsOf Mine.vw).map (·.name) = [Str.ofString "_wall", Str.ofString "_law_line", Str.ofString "law"] := by rfl
theorem law_tabs {w : World} {h : Heap} {mg : Str → Option Value} (hg : h.Ns mainGlobals mg) : (Mine.hd.heap_39 w.params).In h → PySem.Challenge.rw_kq0023_01 = PySem.Challenge.rw_kq0023_01 ∧ ∀ d ∈ recsOf Mine.vw, ∀ a o fd c P', mg d.name = some (.ref a) → h.get? a = some o → o.data = .func fd → fd.code = .ref c → h.IsCode c P' #[] → P' ≠ 179 := by
  k_fill
  intro X
  refine ⟨rfl, fun d hd a o fd c P' h1 h2 h3 h4 h5 => ?_⟩
  have hm : d.name ∈ (recsOf Mine.vw).map (·.name) := List.mem_map.mpr ⟨d, hd, rfl⟩
  rw [law_names] at hm
  rcases List.mem_cons.mp hm with e | hm
  · rw [e] at h1
    refine' tab_ne X hg ?e1 ?eA1 ?dA1 ?cA1 ?eC1 ?dC1 ?hp1 ?hne1 h1 h2 h3 h4 h5
    case e1 => k_is
    case eA1 => k_is
    case dA1 => exact rfl
    case cA1 => exact rfl
    case eC1 => k_is
    case dC1 => exact rfl
    case hp1 => exact rfl
    case hne1 => decide
  · rcases List.mem_cons.mp hm with e | hm
    · rw [e] at h1
      refine' tab_ne X hg ?e2 ?eA2 ?dA2 ?cA2 ?eC2 ?dC2 ?hp2 ?hne2 h1 h2 h3 h4 h5
      case e2 => k_is
      case eA2 => k_is
      case dA2 => exact rfl
      case cA2 => exact rfl
      case eC2 => k_is
      case dC2 => exact rfl
      case hp2 => exact rfl
      case hne2 => decide
    · have e := List.mem_singleton.mp hm
      rw [e] at h1
      refine' tab_ne X hg ?e3 ?eA3 ?dA3 ?cA3 ?eC3 ?dC3 ?hp3 ?hne3 h1 h2 h3 h4 h5
      case e3 => k_is
      case eA3 => k_is
      case dA3 => exact rfl
      case cA3 => exact rfl
      case eC3 => k_is
      case dC3 => exact rfl
      case hp3 => exact rfl
      case hne3 => decide
end Mine
end

section
open PySem PySem.W PySem.Calls PyProof.Rows
set_option maxRecDepth 100000
namespace Mine
def fnBody : Stmt → List Stmt
  | .FunctionDef _ _ body _ _ _ _ _ _ _ => body
  | _ => []
def fnScope : Stmt → Scope
  | .FunctionDef _ _ _ _ _ _ sc _ _ _ => sc
  | _ => default
def lawFn : Stmt := PySem.Challenge.pw_kq0023_01.main.body.getLastD (.Pass default)
def lawRest (k : Nat) : List Stmt := (fnBody lawFn).drop k
def lawScope : Scope := fnScope lawFn
end Mine
end

section
open PySem PySem.W PySem.Calls PyProof.Rows PySem.Spec
set_option maxRecDepth 100000
set_option maxHeartbeats 1000000
namespace Mine
theorem push_any {A : Around} {base h₀ h : Heap} {outer : List Env} {env : Env} {L : Addr} {m : Str → Option Value} (K : Below A base outer h₀) (F : Fr h₀ L h m) (hf : env.frame = some L) (hk : env.scope.kind ≠ .module) :
    Below (A.deeper env) base (env :: outer) h :=
  ⟨Around.frames_deeper K.stack, fun b o e => F.keep b o (K.stays b o e), .cons hk hf F.ns (kts_none K.stays (kts_self F)) (K.frames.of_keeps fun b o e _ => ⟨o, F.keep b o e, rfl⟩)⟩
theorem mem_any {env : Env} {L b : Addr} {outer : List Env} (hf : env.frame = some L) (hm : b ∈ (env :: outer).filterMap (·.frame)) : b = L ∨ b ∈ outer.filterMap (·.frame) := by
  rw [List.filterMap_cons, hf] at hm
  exact List.mem_cons.mp hm
section
variable {M : Model} {A : Around} {E : Value → Shared → Prop} {s' : Shared} {base g g₂ h : Heap} {outer : List Env} {env : Env} {L e t : Addr} {m : Str → Option Value} {Q : Unit → Shared → Prop} {news : List (Addr × Obj)}
theorem hide_any {B : Heap} (K : Below A base outer g) (F : Fr g L h m) (N : News g L h news) (hf : env.frame = some L) (hk : env.scope.kind ≠ .module) (hB : B = hideAll h ((env :: outer).filterMap (·.frame))) :
    base.StaysIn B ∧ (∀ b o, g.get? b = some o → b ∉ outer.filterMap (·.frame) → B.get? b = some o) ∧ (∀ q ∈ news, B.get? q.1 = some q.2 ∧ g.get? q.1 = none ∧ base.get? q.1 = none) ∧ B.StaysIn h ∧ h.FunFrames B (env :: outer) ∧ (A.deeper env).frames = some (env :: outer) := by
  subst hB
  have K' := push_any K F hf hk
  refine ⟨fun b o q => hideAll_get _ (K'.stays b o q) fun hm => ?_, fun b o q nm => hideAll_get _ (F.keep b o q) fun hm => ?_, fun q hq => ⟨hideAll_get _ (N q hq).1 fun hm => ?_, (N q hq).2.2, fresh_of_stays K.stays (N q hq).2.2⟩,
    fun b o q => of_hideAll _ q, funFrames_hide K'.frames fun e he b hb => List.mem_filterMap.mpr ⟨e, he, hb⟩, K'.stack⟩
  · rw [(K'.frames.mem hm).1] at q; cases q
  · rcases mem_any hf hm with z | z
    · rw [z, kts_self F] at q; cases q
    · exact nm z
  · rcases mem_any hf hm with z | z
    · exact (N q hq).2.1 z
    · obtain ⟨o, ho, _⟩ := (K.frames.mem z).2
      rw [(N q hq).2.2] at ho; cases ho
theorem leave_raise_any {cls : Value} {vs : List Value} (K : Below A base outer g) (hx : Heap.MadeExcOf h s'.heap e cls vs) (F : Fr g L h m) (N : News g L h news) (hf : env.frame = some L) (hk : env.scope.kind ≠ .module)
    (hQ : ∀ h' t, RaisedS base g outer e cls t vs news h' → g.UpToSlots h' → Q () { s' with heap := h' }) : wpAny M (A.deeper env) (leaving env (.ref e)) Q E s' := by
  obtain ⟨a1, a2, a3, a4, a5, a6⟩ := hide_any K F N hf hk rfl
  exact wpAny_leaves_madeW a6 hf a4 a5 hx fun h' t x1 x2 x3 x4 =>
    hQ h' t ⟨⟨_, a1, a2, a3, x1, x3⟩, x2⟩ (((Heap.UpToSlots.of_keeps F.keep).trans (Heap.UpToSlots.of_keeps hx.keeps)).trans x4)
theorem ground_any {A₀ : Around} {G B h₅ : Heap} (K : Below A₀ base outer g) (F : Fr g L G m) (hf : env.frame = some L) (hBG : ∀ b o, G.get? b = some o → b ∉ (env :: outer).filterMap (·.frame) → B.get? b = some o) (hBh : B.StaysIn h₅) (hsm : G.UpToSlots h₅) :
    ∃ g', KtsTurn (outer.filterMap (·.frame)) g g' ∧ Fr g' L h₅ m ∧ Below A₀ base outer g' := by
  have keep : ∀ b o, g.get? b = some o → b ∉ outer.filterMap (·.frame) → h₅.get? b = some o := fun b o e nm => hBh b o (hBG b o (F.keep b o e) fun hm => by
    rcases mem_any hf hm with z | z
    · rw [z, kts_self F] at e; cases e
    · exact nm z)
  have slots : ∀ b o, g.get? b = some o → b ∈ outer.filterMap (·.frame) → ∃ sl, h₅.get? b = some { o with slots := sl } := fun b o e hm => by
    obtain ⟨_, o', ho', hd⟩ := K.frames.mem hm
    rw [e] at ho'
    cases ho'
    exact hsm b o (F.keep b o e) hd
  obtain ⟨T, S⟩ := kts_turn_at (fun b hb => let ⟨_, o, ho, _⟩ := K.frames.mem hb; ⟨o, ho⟩) keep slots
  have st : base.StaysIn (ktsHeap h₅ (outer.filterMap (·.frame)) g) := fun b o e => T.other b o (K.stays b o e) fun hm => by
    rw [(K.frames.mem hm).1] at e; cases e
  exact ⟨_, T, ⟨hsm.ns F.ns, S, by rw [T.size]; exact F.above⟩, K.stack, st, K.frames.of_keeps fun b o e _ => let ⟨sl, hs⟩ := T.up e; ⟨_, hs, rfl⟩⟩
end
theorem raised_sub {base G h : Heap} {l : List Env} {e t : Addr} {cls : Value} {vs : List Value} {n₁ n₂ : List (Addr × Obj)} (R : RaisedS base G l e cls t vs n₁ h) (hs : ∀ q ∈ n₂, q ∈ n₁) : RaisedS base G l e cls t vs n₂ h :=
  let ⟨⟨B, a, b, c, d⟩, f⟩ := R; ⟨⟨B, a, b, fun q hq => c q (hs q hq), d⟩, f⟩
section
variable {prog : Program} {w : World} {A : Around} {E : Value → Shared → Prop} {s : Shared} {env : Env} {h₀ : Heap} {L : Addr} {m mg : Str → Option Value}
  {x : Str} {C : Addr} {B newId initId : String} {bm : List Value} {np cpos pos : Pos} {Q : Flow → Shared → Prop}
theorem raise_any {e₀ : Expr} {rest : List Expr} (O : OwnCls x C bm newId mg h₀) (FB : ExcBaseFacts B newId initId bm) (hh : A.handled = none)
    (hname : ∀ Q : Value → Shared → Prop, Q (.ref C) s → wpAny (model prog w) A (eval (.Name x np) env) Q E s)
    (h : wpAny (model prog w) A (spliced (backTo cpos (starEach (e₀ :: rest) env))) (fun vs s₂ => vs.length ≤ sizeLine ∧ (∀ b o, h₀.get? b = some o → s₂.heap.get? b = some o) ∧
      ∀ h' e, Heap.MadeExcOf s₂.heap h' e (.ref C) vs → E (.ref e) { s₂ with heap := h' }) E s)
    (he : starEach (e₀ :: rest) env = (false, eval e₀ env) :: starEach rest env) (hplain : (backTo cpos (starEach rest env)).any (·.1) = false) :
    wpAny (model prog w) A (exec (.Raise (some (.Call (.Name x np) (e₀ :: rest) [] cpos)) none pos) env) Q E s := by
  obtain ⟨tl, N, nm, q, bs, hdct, sn, sub, ab, col, dd, k0, k1, k2, k3, k5, mN, hC, hN, hni, T⟩ := O.obj
  refine wpAny_Raise_call_subT (C := C) (nm := nm) (q := q) (N := N) (bs := bs) (bm := tl) (hdct := hdct) (sn := sn) (sub := sub) (ab := ab) (col := col) (dd := dd) (k0 := k0) (k1 := k1) (k2 := k2) (k3 := k3) (k5 := k5)
    FB (mN := mN) (T.hasType FB.hasBase) hh (by rw [he]; show (false || (backTo cpos (starEach rest env)).any (·.1)) = false; rw [hplain]; rfl) hni (hname _ ⟨rfl, ?_⟩)
  rw [he] at h ⊢
  exact evalArgs_plain (wpAny_mono h (fun vs s₂ h₂ => ⟨rfl, h₂.1, h₂.2.1 _ _ hC, hN.keeps h₂.2.1, T.keeps h₂.2.1, h₂.2.2⟩) fun _ _ y => y)
end
end Mine
end

section
open PySem PySem.W PySem.Calls PyProof.Rows PySem.Spec
set_option maxRecDepth 100000
set_option maxHeartbeats 1000000
namespace Mine
/-- what the note of a new exception leaves: every object that is no frame and not the exception stays; frames change their slots alone -/
structure Noted (fs : List Addr) (z T : Addr) (cls a0 : Value) (h h' : Heap) : Prop where
  other : ∀ b o, h.get? b = some o → b ≠ z → b ∉ fs → h'.get? b = some o
  slots : ∀ b o, h.get? b = some o → b ≠ z → ∃ sl, h'.get? b = some { o with slots := sl }
  exc : ∃ o, h'.get? z = some o ∧ o.cls = cls ∧ o.data = .fields #[a0, .ref T, .none, .none, .bool false, .none]
  tb : ∃ o ts, h'.get? T = some o ∧ o.data = .fields ts ∧ 3 < ts.size
  new : h.get? T = none
  ne : T ≠ z
section
variable {M : Model} {A : Around} {E : Value → Shared → Prop} {s : Shared} {base : Heap} {outer : List Env} {env : Env} {L z : Addr} {Q : Unit → Shared → Prop} {oe : Obj} {a0 : Value}
theorem note_new (hfr : A.frames = some (env :: outer)) (hl : s.heap.FunFrames base (env :: outer)) (hf : env.frame = some L) (he : s.heap.get? z = some oe) (hd : oe.data = .fields #[a0, .none, .none, .none, .bool false, .none])
    (hQ : ∀ h' T, Noted ((env :: outer).filterMap (·.frame)) z T oe.cls a0 s.heap h' → Q () { s with heap := h' }) : wpAny M A (noteFrame (.ref z) env) Q E s := by
  have hz : z ∉ (env :: outer).filterMap (·.frame) := fun hm => by
    obtain ⟨_, o, ho, hnf⟩ := hl.mem hm
    rw [he] at ho; cases ho; exact hnf _ hd
  unfold noteFrame
  simp only [hf]
  refine wpAny_bind (wpAny_field he hd (x := .none) rfl ?_)
  rw [if_neg (by decide)]
  refine wpAny_bind (wpAny_frameOf_fun hfr hl hf fun h₁ hs => wpAny_bind (wpAny_entryPlaceOf fun pl hpl => ?_))
  unfold EntryCells.newEntry newFields
  refine wpAny_bind (wpAny_newObj_type ?_ (hpl.sizeOk5 _ _ _ _ _))
  have he₁ : h₁.get? z = some oe := (hs.2.1 z hz).trans he
  refine wpAny_setField (Heap.get?_push_of_some _ he₁) hd (by show 1 < 6; decide) (hQ _ h₁.objs.size ?_)
  have hne : h₁.objs.size ≠ z := Nat.ne_of_gt (Heap.lt_size he₁)
  have hd' := Obj.data_mapFields hd (·.setIfInBounds 1 (Value.ref h₁.objs.size))
  have pushed : ∀ (oT : Obj) {b : Addr} {o : Obj}, b ≠ z → h₁.get? b = some o → ((h₁.push oT).update z (Obj.mapFields (·.setIfInBounds 1 (Value.ref h₁.objs.size)))).get? b = some o := fun oT b o hb e =>
    (Heap.get?_update_other _ _ (Ne.symm hb)).trans (Heap.get?_push_of_some _ e)
  refine ⟨fun b o e hb hm => pushed _ hb ((hs.2.1 b hm).trans e), fun b o e hb => ?_, ⟨_, Heap.get?_update_self _ (Heap.get?_push_of_some _ he₁) (Obj.isFreed_of_fields hd'), Obj.cls_mapFields _ _, hd'⟩, ⟨_, _, (Heap.get?_update_other _ _ (Ne.symm hne)).trans (Heap.get?_push_size h₁ rfl), rfl, ?_⟩, ?_, hne⟩
  · obtain ⟨sl, q⟩ := hs.2.2 b o e
    exact ⟨sl, pushed _ hb q⟩
  · rcases hpl with rfl | ⟨_, _, _, _, _, _, _, rfl⟩ <;> simp
  · cases q : s.heap.get? h₁.objs.size with
    | none => rfl
    | some o =>
      obtain ⟨sl, q'⟩ := hs.2.2 _ o q
      exact absurd (Heap.lt_size q') (Nat.lt_irrefl _)
/-- setting no flight leaves the note as it is -/
theorem land_new {fs : List Addr} {T : Addr} {cls : Value} {h : Heap} (hN : Noted fs z T cls a0 h s.heap) (hQ : ∀ h', Noted fs z T cls a0 h h' → Q () { s with heap := h' }) : wpAny M A (setFlight (.ref z) none) Q E s := by
  obtain ⟨oz, e1, e2, e3⟩ := hN.exc
  obtain ⟨oT, ts, t1, t2, t3⟩ := hN.tb
  refine wpAny_setFlight_none e1 e3 (tb := T) rfl t1 t2 t3 (hQ _ ?_)
  have oth : ∀ {b : Addr} {o : Obj}, b ≠ T → s.heap.get? b = some o → (s.heap.update T (Obj.mapFields (·.setIfInBounds 3 Value.none))).get? b = some o := fun hb e => (Heap.get?_update_other _ _ (Ne.symm hb)).trans e
  have nT : ∀ {b : Addr} {o : Obj}, h.get? b = some o → b ≠ T := fun e q => by rw [q, hN.new] at e; cases e
  refine ⟨fun b o e hb hm => oth (nT e) (hN.other b o e hb hm), fun b o e hb => ?_, ⟨oz, oth (Ne.symm hN.ne) e1, e2, e3⟩, ⟨_, _, Heap.get?_update_self _ t1 (Obj.isFreed_of_fields (Obj.data_mapFields t2 _)), Obj.data_mapFields t2 _, by simpa using t3⟩, hN.new, hN.ne⟩
  obtain ⟨sl, q⟩ := hN.slots b o e hb
  exact ⟨sl, oth (nT e) q⟩
end
section
variable {prog : Program} {w : World} {A : Around} {E : Value → Shared → Prop} {s : Shared} {env : Env} {z : Addr}
variable {nm q : Str} {C N : Addr} {bs bm bmB : List Value} {hdct : Bool} {sn : List Str} {sub : List Value} {ab : Bool} {col : Option Bool} {dd : Option Addr} {k0 k1 k2 k3 k5 : Option Value} {B newId initId : String}
theorem entry_unchain : entryFor table "proto.unchain" = some Builtin.«proto.unchain» := entryFor_of_tree (by kernel_rfl)
theorem unchain_one {e : Addr} {oz : Obj} {vs : Array Value} {Q : Value → Shared → Prop} (hz : s.heap.get? z = some oz) (hd : oz.data = .fields vs) (h2 : vs[2]? = some .none) (h : Q .none s) :
    wpAny (model prog w) A (runValue (.builtin "proto.unchain" ⟨[.ref e, .ref z, .ref z, .bool false], []⟩)) Q E s := by
  refine wpAny_runValue (codeAny_builtin entry_unchain ?_)
  unfold Builtin.«proto.unchain»
  refine wpAny_bind (wpAny_field hz hd h2 ?_)
  rw [if_pos (by decide)]
  exact wpAny_pure (a := Fin.done (.ret .none)) h
theorem raiseNew_some {α : Type} {e : Addr} {oe oz : Obj} {vs ws : Array Value} {Q : α → Shared → Prop} (hh : A.handled = some (.ref z)) (hne : z ≠ e) (he : s.heap.get? e = some oe) (hde : oe.data = .fields ws) (hsz : 2 < ws.size)
    (hz : s.heap.get? z = some oz) (hd : oz.data = .fields vs) (h2 : vs[2]? = some .none) (h : E (.ref e) { s with heap := s.heap.update e (Obj.mapFields (·.setIfInBounds 2 (.ref z))) }) : wpAny (model prog w) A (raiseNew (.ref e) : Sem α) Q E s := by
  unfold raiseNew
  refine wpAny_bind (wpAny_handled ?_)
  rw [hh]
  dsimp only
  rw [if_pos (by simpa using hne)]
  refine wpAny_bind (wpAny_holding (unchain_one hz hd h2 ?_))
  refine wpAny_bind ?_
  have := wpAny_setField (M := model prog w) (A := A) (E := E) (s := s) (a := e) (i := 2) (x := .ref z) (Q := fun _ s' => wpAny (model prog w) A (throw (Value.ref e)) Q E s') he hde hsz (wpAny_throw h)
  exact this
theorem raise_again {x : Sem Value} {Q : Flow → Shared → Prop} (hbase : bm.contains (.type "BaseException") = true) (hh : A.handled = some (.ref z))
    (h : wpAny (model prog w) A x (fun v s₁ => ∃ e t, v = .ref e ∧ s₁.heap.get? C = some (excClassObj nm q C N bs bm hdct sn sub ab col dd k0 k1 k2 k3 k5 newId) ∧
      s₁.heap.get? e = some { cls := .ref C, data := .fields #[.ref t, .none, .none, .none, .bool false, .none] } ∧ z ≠ e ∧ (∃ oz vs, s₁.heap.get? z = some oz ∧ oz.data = .fields vs ∧ vs[2]? = some .none) ∧
      E (.ref e) { s₁ with heap := s₁.heap.update e (Obj.mapFields (·.setIfInBounds 2 (.ref z))) }) E s) : wpAny (model prog w) A (raiseStmt env (some x) none) Q E s := by
  have hcB : (Value.ref C :: bm).contains (.type "BaseException") = true := by rw [List.contains_cons, hbase, Bool.or_true]
  unfold raiseStmt
  refine wpAny_bind (wpAny_mono h (fun v s₁ h₁ => ?_) fun _ _ x => x)
  obtain ⟨e, t, rfl, hC, he, hne, ⟨oz, vs, hz, hd, h2⟩, hE⟩ := h₁
  obtain ⟨hp, g, d, tk, os⟩ := s₁
  repeat (first | with_reducible refine wpAny_loadPart_at he ?_ | with_reducible refine wpAny_loadPart_at hC ?_ | (with_reducible refine wpAny_isSubtype_exc hC ?_; rw [hcB]) | wp_step)
  exact raiseNew_some hh hne he rfl (by show 2 < 6; decide) hz hd h2 hE
theorem Raise_again {mN : Str → Option Value} {x : Str} {np cpos pos : Pos} {e₀ : Expr} {rest : List Expr} {Q : Flow → Shared → Prop} (F : ExcBaseFacts B newId initId bmB) (hbase : bm.contains (.type "BaseException") = true) (hh : A.handled = some (.ref z)) (hni : mN "__init__" = none)
    (h : wpAny (model prog w) A (eval (.Name x np) env) (fun f s₁ => f = .ref C ∧ wpAny (model prog w) A (spliced (backTo cpos (starEach (e₀ :: rest) env)))
      (fun vs s₂ => vs.length ≤ sizeLine ∧ s₂.heap.get? C = some (excClassObj nm q C N bs bm hdct sn sub ab col dd k0 k1 k2 k3 k5 newId) ∧ s₂.heap.Ns N mN ∧ OwnTail s₂.heap bmB bm ∧ (∃ oz ws, s₂.heap.get? z = some oz ∧ oz.data = .fields ws ∧ ws[2]? = some .none) ∧
        ∀ h' e, Heap.MadeExcOf s₂.heap h' e (.ref C) vs → E (.ref e) { s₂ with heap := h'.update e (Obj.mapFields (·.setIfInBounds 2 (.ref z))) }) E s₁) E s)
    (he : starEach (e₀ :: rest) env = (false, eval e₀ env) :: starEach rest env) (hplain : (backTo cpos (starEach rest env)).any (·.1) = false) :
    wpAny (model prog w) A (exec (.Raise (some (.Call (.Name x np) (e₀ :: rest) [] cpos)) none pos) env) Q E s := by
  rw [arm_exec_Raise]
  simp only [evalOpt, Option.map]
  refine wpAny_bind (wpAny_standAt (raise_again (C := C) (nm := nm) (q := q) (N := N) (bs := bs) (bm := bm) (hdct := hdct) (sn := sn) (sub := sub) (ab := ab) (col := col) (dd := dd) (k0 := k0) (k1 := k1) (k2 := k2) (k3 := k3) (k5 := k5) (newId := newId) hbase hh ?_))
  refine wpAny_bind (wpAny_mono (wpAny_Call_ofName (wpAny_mono h (fun f s₁ h₁ => ?_) fun _ _ x => x)) (fun v s₃ h₃ => wpAny_bind (wpAny_standAt (wpAny_pure h₃))) fun _ _ x => x)
  obtain ⟨rfl, h₂⟩ := h₁
  have hp : (backTo cpos (starEach (e₀ :: rest) env)).any (·.1) = false := by rw [he]; show (false || (backTo cpos (starEach rest env)).any (·.1)) = false; rw [hplain]; rfl
  have kw : backToKw cpos (keywordEach [] env) = [] := rfl
  unfold callWith
  rw [kw]
  rw [he] at h₂ hp ⊢
  refine wpAny_bind (wpAny_holding (evalArgs_plain (wpAny_mono h₂ (fun vs s₂ h₃ => ?_) fun _ _ y => y)))
  obtain ⟨hlen, hC, hn, T, ⟨oz, ws, hz, hd, hz2⟩, hk⟩ := h₃
  obtain ⟨hp', g, d, tk, os⟩ := s₂
  refine wpAny_bind (wpAny_standAt ?_)
  simp only [hp]
  refine wpAny_bind (wpAny_keeperOf_exc hC ?_)
  refine wpAny_bind (wpAny_call_exc_subT (hrest := hlen) F T hC hn hni fun h' e hm => wpAny_bind (wpAny_holding (wpAny_point (wpAny_pure ?_))))
  obtain ⟨t, ht, _, _⟩ := hm.there
  refine ⟨e, t, rfl, hm.keeps _ _ hC, ht, fun q => ?_, ⟨oz, ws, hm.keeps _ _ hz, hd, hz2⟩, hk h' e hm⟩
  have := hm.new
  rw [← q, hz] at this
  cases this
end
section
variable {prog : Program} {w : World} {A₀ : Around} {E₁ : Value → Shared → Prop} {s' : Shared} {base g h : Heap} {outer : List Env} {env : Env} {L z C : Addr} {m : Str → Option Value} {news : List (Addr × Obj)} {KF : Frag}
  {p : Program} {loose : List Str} {mean : ExcName → Option Value} {mg mb : Str → Option Value} {x zx : Str} {bmB : List Value} {B newId initId : String} {np np' cpos pos hpos : Pos} {e₀ : Expr} {hs : List ExceptHandler} {Q : Flow → Shared → Prop} {R : Value → Shared → Prop} {msg : Str}
theorem flat_any (K : Below A₀ base outer g) (F : Fr g L h m) (N : News g L h news) (hx : Heap.NewExc h s'.heap z "ZeroDivisionError") (hf : env.frame = some L) (hk : env.scope.kind ≠ .module) (XB : KF.In base) (TB : Top p loose mean mg mb base)
    (ex : nsIn KF mainGlobals x = some (some (.ref C))) (q : excIn KF C bmB newId = true) (FB : ExcBaseFacts B newId initId bmB)
    (hzde : ∀ (g : Heap) (A : Around) (s : Shared) (E Q : Value → Shared → Prop), Fr g L s.heap m → KF.In g → TopRead p loose mg mb g → Q (.type "ZeroDivisionError") s → wpAny (model prog w) A (eval (.Name zx np) env) Q E s)
    (hse : ∀ (g : Heap) (A : Around) (s : Shared) (E Q : Value → Shared → Prop), Fr g L s.heap m → KF.In g → TopRead p loose mg mb g → Q (.ref C) s → wpAny (model prog w) A (eval (.Name x np') env) Q E s)
    (hmsg : ∀ (A : Around) (s : Shared) (E : Value → Shared → Prop) (Q : List Value → Shared → Prop), (∀ tk tk', Q [.str msg tk] { s with toks := tk' }) → wpAny (model prog w) A (spliced (backTo cpos (starEach [e₀] env))) Q E s)
    (he : starEach [e₀] env = (false, eval e₀ env) :: starEach [] env)
    (hQ : ∀ h' e t tk tk', RaisedS base g outer e (.ref C) t [.str msg tk] news h' → g.UpToSlots h' → R (.ref e) { s' with heap := h', toks := tk' }) :
    wpAny (model prog w) (A₀.deeper env) (noteFrame (.ref z) env) (fun _ s₂ => wpAny (model prog w) (A₀.deeper env) (setFlight (.ref z) none)
      (fun _ s₃ => wpAny (model prog w) (A₀.deeper env) (handleBy (.ref z) env (.ExceptHandler (some (.Name zx np)) none [.Raise (some (.Call (.Name x np') [e₀] [] cpos)) none pos] hpos :: hs)) Q
        (fun e s => wpAny (model prog w) (A₀.deeper env) (leaving env e) (fun _ s'' => R e s'') E₁ s) s₃)
        (fun e s => wpAny (model prog w) (A₀.deeper env) (leaving env e) (fun _ s'' => R e s'') E₁ s) s₂)
      (fun e s => wpAny (model prog w) (A₀.deeper env) (leaving env e) (fun _ s'' => R e s'') E₁ s) s' := by
  have K' := push_any K F hf hk
  obtain ⟨a1, a2, a3, a4, a5, a6⟩ := hide_any K F N hf hk rfl
  obtain ⟨ob, a0, hob, hcls, hdat⟩ := hx.there
  have up : ∀ {h₅ T}, Noted ((env :: outer).filterMap (·.frame)) z T ob.cls a0 s'.heap h₅ → (hideAll h ((env :: outer).filterMap (·.frame))).StaysIn h₅ ∧ h.UpToSlots h₅ := fun hN => by
    have nz : ∀ {b : Addr} {o : Obj}, h.get? b = some o → b ≠ z := fun e q => by rw [q, hx.new] at e; cases e
    refine ⟨fun b o e => ?_, fun b o e _ => hN.slots b o (hx.keeps _ _ e) (nz e)⟩
    have e' := of_hideAll _ e
    exact hN.other b o (hx.keeps _ _ e') (nz e') fun hm => by rw [hideAll_none _ hm] at e; cases e
  have bg : ∀ b o, h.get? b = some o → b ∉ (env :: outer).filterMap (·.frame) → (hideAll h ((env :: outer).filterMap (·.frame))).get? b = some o := fun b o e hm => hideAll_get _ e hm
  refine note_new K'.stack (K'.frames.of_keeps fun b o e _ => ⟨o, hx.keeps b o e, rfl⟩) hf hob hdat fun h₄ T hN₄ => ?_
  refine land_new hN₄ fun h₅ hN₅ => ?_
  obtain ⟨g₅, T₅, F₅, K₅⟩ := ground_any K F hf bg (up hN₅).1 (up hN₅).2
  have X₅ := XB.keeps K₅.stays
  have P₅ := topRead_of (TB.keeps K₅.stays)
  obtain ⟨oz, z1, z2, z3⟩ := hN₅.exc
  refine wpAny_handleBy_builtin (X := "ZeroDivisionError") (T := "ZeroDivisionError") (b := true) PySem.F.isExc_ZeroDivisionError PySem.F.notTuple_ZeroDivisionError (by rw [isSubtype_type]; kernel_rfl) (hzde g₅ _ _ _ _ F₅ X₅ P₅ ⟨rfl, ⟨oz, z1, z2.trans hcls⟩, ?_⟩)
  simp only [if_true]
  refine land_new hN₅ fun h₆ hN₆ => ?_
  obtain ⟨g₆, T₆, F₆, K₆⟩ := ground_any K F hf bg (up hN₆).1 (up hN₆).2
  have X₆ := XB.keeps K₆.stays
  have P₆ := topRead_of (TB.keeps K₆.stays)
  obtain ⟨oz', y1, y2, y3⟩ := hN₆.exc
  obtain ⟨tl, Ns, nm, qn, bs, hdct, sn, sub, ab, col, dd, k0, k1, k2, k3, k5, mN, hC, hNs, hni, OT⟩ := (own_of_in X₆ P₆ ex q).obj
  refine wpAny_passesOwnAt PassesOwnAt.leaving (wpAny_execs_cons ?_)
  refine Raise_again (C := C) (nm := nm) (q := qn) (N := Ns) (bs := bs) (bm := tl) (hdct := hdct) (sn := sn) (sub := sub) (ab := ab) (col := col) (dd := dd) (k0 := k0) (k1 := k1) (k2 := k2) (k3 := k3) (k5 := k5) (mN := mN) FB (OT.hasType FB.hasBase) rfl hni (hse g₆ _ _ _ _ F₆ X₆ P₆ ⟨rfl, ?_⟩) he rfl
  refine hmsg _ _ _ _ fun tk tk' => ⟨by show 1 ≤ sizeLine; decide, F₆.keep _ _ hC, hNs.keeps F₆.keep, OT.keeps F₆.keep, ⟨oz', _, y1, y3, rfl⟩, fun h₇ e hm => ?_⟩
  obtain ⟨t, t1, t2, t3⟩ := hm.there
  have hup := Heap.get?_update_self (Obj.mapFields (·.setIfInBounds 2 (.ref z))) t1 rfl
  have ot : ∀ {b : Addr} {o : Obj}, h₆.get? b = some o → (h₇.update e (Obj.mapFields (·.setIfInBounds 2 (.ref z)))).get? b = some o := fun {b o} eb => by
    refine (Heap.get?_update_other _ _ fun q => ?_).trans (hm.keeps _ _ eb)
    have := hm.new
    rw [q, eb] at this; cases this
  have te : t ≠ e := fun q => by rw [q, t1] at t3; cases t3
  have ne : (hideAll h ((env :: outer).filterMap (·.frame))).get? e = none := kts_none (up hN₆).1 hm.new
  have nt : (hideAll h ((env :: outer).filterMap (·.frame))).get? t = none := kts_none (up hN₆).1 t2
  have up₆ : h.UpToSlots (h₇.update e (Obj.mapFields (·.setIfInBounds 2 (.ref z)))) := fun b o eb nf => let ⟨sl, hs⟩ := (up hN₆).2 b o eb nf; ⟨sl, ot hs⟩
  refine wpAny_leaving_firstW (a0 := .ref t) (oe := _) a6 (a5.of_keeps fun b o eb nf => let ⟨sl, hs⟩ := up₆ b o eb nf; ⟨_, hs, rfl⟩) hf hup (fun b o eb => ot ((up hN₆).1 b o eb)) ne rfl rfl rfl fun h' hL => ?_
  obtain ⟨l1, ⟨_, _, l2⟩, l3, l4⟩ := hL
  exact hQ h' e t tk tk' ⟨⟨_, a1, a2, a3, ⟨l1, ne, l2, l3⟩, nt⟩, Heap.TupAt.of_slots ⟨_, _, (Heap.get?_update_other _ _ (Ne.symm te)).trans t3, rfl, rfl⟩ l4⟩ (((Heap.UpToSlots.of_keeps F.keep).trans up₆).trans l4)
end
end Mine
end

section
open PySem PySem.W PySem.Calls PyProof.Rows PySem.Spec PySem.Builtin PySem.Builtin.Str
set_option maxRecDepth 100000
set_option maxHeartbeats 1000000
namespace Mine
section
variable {prog : Program} {w : World} {A : Around} {E : Value → Shared → Prop} {s : Shared} {K : Frag} {C e t : Addr} {msg : PySem.Str} {u : Tok}
theorem bexc_slot (self : Value) : bindSpecial (.builtin "BaseException.__str__") self = pure (.builtin "BaseException.__str__", [self]) := PySem.F.excStr_ValueError.str.bind self
theorem str_exc_call {Q : Value → Shared → Prop} (X : K.In s.heap) (hs : findIn K (.ref C) "__str__" = some (some (.builtin "BaseException.__str__"))) (hm : mroIn K C (.type "BaseException") = some true)
    (he : ∃ o vs, s.heap.get? e = some o ∧ o.cls = .ref C ∧ o.data = .fields vs ∧ vs[0]? = some (.ref t)) (ht : s.heap.TupAt t [.str msg u]) (h : Q (.str msg u) s) :
    wpAny (model prog w) A (callSpecial? (.ref e) (PySem.Str.ofString "__str__") []) (fun r s' => ∃ v, r = some v ∧ Q v s') E s := by
  obtain ⟨o, vs, ho, hc, hd, h0⟩ := he
  have t1 : Looks (model prog w) s.heap (typeOf (.ref e)) (.ref C) := hc ▸ (Looks.ld ho).andThen .now
  have j1 : Looks (model prog w) s.heap (specialOf (.ref e) "__str__") (some (.builtin "BaseException.__str__")) := t1.andThen (looks_findIn X hs)
  unfold callSpecial?
  refine wpAny_bind (j1.here ?_)
  dsimp only
  refine wpAny_holding ?_
  rw [bexc_slot]
  refine wpAny_bind (wpAny_pure (wpAny_bind (wpAny_call ?_)))
  refine codeAny_call_builtin PySem.F.excStr_ValueError.str.plain PySem.F.entry_bexc_str (check_slot (i := "BaseException.__str__") (owner := "BaseException") (n := "__str__") (by decide +kernel) (by decide +kernel) (t1.andThen (looks_mroIn X hm)) (PySem.F.args_bexc_str _) ?_)
  unfold Builtin.«BaseException.__str__»
  obtain ⟨ot, n, hto, htc, htd⟩ := ht
  repeat (first | with_reducible refine wpAny_bind (wpAny_field ho hd h0 (wpAny_bind (wpAny_seqItems hto htd ?_))) | wp_step)
  exact ⟨_, rfl, h⟩
theorem str_exc_of {Q : Value → Shared → Prop} (hu : A.units < cLine) (X : K.In s.heap) (hs : findIn K (.ref C) "__str__" = some (some (.builtin "BaseException.__str__"))) (hm : mroIn K C (.type "BaseException") = some true)
    (he : ∃ o vs, s.heap.get? e = some o ∧ o.cls = .ref C ∧ o.data = .fields vs ∧ vs[0]? = some (.ref t)) (ht : s.heap.TupAt t [.str msg u]) (h : Q (.str msg u) s) : wpAny (model prog w) A (PySem.Builtin.Str.strOf (.ref e)) Q E s := by
  unfold PySem.Builtin.Str.strOf
  rw [show isExactStr (.ref e) = false from rfl]
  refine wpAny_bind (m := cRoomFor _ _) (wpAny_cRoomFor hu ?_)
  refine wpAny_bind (m := callSpecial? (.ref e) (PySem.Str.ofString "__str__")) (str_exc_call (Q := fun v s' => v = .str msg u ∧ s' = s) X hs hm he ht ⟨rfl, rfl⟩ |> fun z => wpAny_mono z (fun r s' hr => ?_) fun _ _ y => y)
  obtain ⟨v, rfl, rfl, rfl⟩ := hr
  exact wpAny_pure h
theorem str_exc {Q : Value → Shared → Prop} (hu : A.units + 2 < cLine) (X : K.In s.heap) (hs : findIn K (.ref C) "__str__" = some (some (.builtin "BaseException.__str__"))) (hm : mroIn K C (.type "BaseException") = some true)
    (he : ∃ o vs, s.heap.get? e = some o ∧ o.cls = .ref C ∧ o.data = .fields vs ∧ vs[0]? = some (.ref t)) (ht : s.heap.TupAt t [.str msg u]) (h : Q (.str msg u) s) : wpAny (model prog w) A (call (.type "str") [.ref e]) Q E s :=
  callType_new PySem.F.called_str (by decide) (PySem.F.typeCall_str_1 _) (PySem.F.newCall_str_1 _) (fun obj => PySem.F.args_object_init_2 obj _) PySem.F.entry_str_new
    (meets_str_new (S := fun A' R s' => A'.units + 1 < cLine ∧ K.In s'.heap ∧ (∃ o vs, s'.heap.get? e = some o ∧ o.cls = .ref C ∧ o.data = .fields vs ∧ vs[0]? = some (.ref t)) ∧ s'.heap.TupAt t [.str msg u] ∧ R (.ok (.ret (.str msg u))) s')
      fun _ _ A' _ _ hq => str_exc_of (A := A'.in1) hq.1 hq.2.1 hs hm hq.2.2.1 hq.2.2.2.1 hq.2.2.2.2)
    ⟨(show A.units + 1 + 1 < cLine from hu), X, he, ht, typeIs_str _ _ _, h⟩
/-- the text of a caught exception of the program's own class -/
theorem str_got {h₀ : Heap} {L : Addr} {m : PySem.Str → Option Value} {news : List (Addr × Obj)} {Q : Value → Shared → Prop} (F : Fr h₀ L s.heap m) (X : K.In h₀) (N : News h₀ L s.heap news) (G : Got news e t (.ref C) [.str msg u]) (hu : A.units + 2 < cLine)
    (hs : findIn K (.ref C) "__str__" = some (some (.builtin "BaseException.__str__"))) (hm : mroIn K C (.type "BaseException") = some true) (h : Q (.str msg u) s) : wpAny (model prog w) A (call (.type "str") [.ref e]) Q E s := by
  obtain ⟨oe, ot, ws, nt, m1, m2, c1, d1, w0, c2, d2⟩ := G
  exact str_exc hu (X.keeps F.keep) hs hm ⟨oe, ws, (N _ m1).1, c1, d1, w0⟩ ⟨ot, nt, (N _ m2).1, c2, d2⟩ h
end
end Mine
end

section
open PySem PySem.W PySem.Calls PyProof.Rows PySem.Spec PySem.Builtin
set_option maxRecDepth 100000
set_option maxHeartbeats 1000000
namespace Mine
/-- an object that holds a row of values, whatever its class -/
def Holds (h : Heap) (t : Addr) (vs : Array Value) : Prop := ∃ o n, h.get? t = some o ∧ o.data = .seq vs n
def IsIt (h : Heap) (it t : Addr) (i : Nat) : Prop := ∃ o, h.get? it = some o ∧ o.cls = .type "tuple_iterator" ∧ o.data = .fields #[.ref t, .int i 0]
section
variable {prog : Program} {w : World} {A : Around} {E : Value → Shared → Prop} {s : Shared} {K : Frag} {C t it : Addr} {o : Obj} {vs : Array Value} {i : Nat}
theorem own_iter {Q : Value → Shared → Prop} (X : K.In s.heap) (ho : s.heap.get? t = some o) (hc : o.cls = .ref C) (hi : findIn K (.ref C) "__iter__" = some (some (.builtin "tuple.__iter__"))) (hm : mroIn K C (.type "tuple") = some true)
    (hQ : ∀ it h', IsIt h' it t 0 → s.heap.objs.size ≤ it → (∀ b o, s.heap.get? b = some o → h'.get? b = some o) → Q (.ref it) { s with heap := h' }) : wpAny (model prog w) A (pyIter (.ref t)) Q E s := by
  have t1 : Looks (model prog w) s.heap (typeOf (.ref t)) (.ref C) := hc ▸ (Looks.ld ho).andThen .now
  have j1 : Looks (model prog w) s.heap (specialOf (.ref t) "__iter__") (some (.builtin "tuple.__iter__")) := t1.andThen (looks_findIn X hi)
  unfold pyIter
  refine wpAny_bind (j1.here ?_)
  dsimp only
  have core : ∀ (Q : Value → Shared → Prop), (∀ it h', IsIt h' it t 0 → s.heap.objs.size ≤ it → (∀ b o, s.heap.get? b = some o → h'.get? b = some o) → Q (.ref it) { s with heap := h' }) → wpAny (model prog w) A (call (.builtin "tuple.__iter__") [.ref t]) Q E s := fun Q hQ => by
    refine wpAny_call (codeAny_call_builtin PySem.F.slot_tuple_iter.plain PySem.F.entry_tuple_iter (check_slot (i := "tuple.__iter__") (owner := "tuple") (n := "__iter__") (by decide +kernel) (by decide +kernel) (t1.andThen (looks_mroIn X hm)) (PySem.F.args_tuple_iter_1 _) ?_))
    unfold Builtin.«tuple.__iter__»
    refine wpAny_bind (m := slotArgs "__iter__" 0 _) (wpAny_pure ?_)
    refine wpAny_bind ?_
    unfold newFields
    exact wpAny_newObj_type (wpAny_pure (hQ _ _ ⟨_, Heap.get?_push_size _ rfl, rfl, rfl⟩ (Nat.le_refl _) fun b o e => Heap.get?_push_of_some _ e)) (by size_fits)
  unfold callSpecialIfBoundUnlessNone? bindSpecialIfBound?
  refine wpAny_bind (wpAny_holding (wpAny_bind (wpAny_bind (j1.here ?_))))
  refine wpAny_bind (wpAny_askSetting (wpAny_ite ?_))
  have fin : wpAny (model prog w) A (call (.builtin "tuple.__iter__") [.ref t] >>= fun v => pure (some v)) (fun a s' => wpAny (model prog w) A (match a with
      | some it => do
        match ← specialOf it "__next__" with
          | none => do
            rule "iter.non-iterator"
            raiseError "TypeError" s!"iter() returned non-iterator of type '{← typeNameOf it}'"
          | some _ => pure it
      | none => do
        match ← bindSpecialIfBound? (.ref t) "__getitem__" with
          | none => do
            rule "iter.not-iterable"
            raiseError "TypeError" s!"'{← typeNameOf (.ref t)}' object is not iterable"
          | some _ => do
            rule "iter.getitem-fallback"
            newFields "iterator" [.ref t, ← mkInt 0]) Q E s') E s := by
    refine wpAny_bind (core _ fun it h' hI hn hk => wpAny_pure ?_)
    dsimp only
    obtain ⟨oi, h1, h2, h3⟩ := hI
    exact wpAny_bind (wpAny_specialOf (T := "tuple_iterator") ⟨oi, h1, h2⟩ PySem.F.slot_tuple_iterator_next.lookup (wpAny_pure (hQ it h' ⟨oi, h1, h2, h3⟩ hn hk)))
  rw [show bindSpecial (.builtin "tuple.__iter__") (.ref t) = pure (.builtin "tuple.__iter__", [.ref t]) from PySem.F.slot_tuple_iter.bind _]
  split
  · exact wpAny_bind (wpAny_pure (wpAny_pure fin))
  · exact wpAny_tryCatch (wpAny_bind (wpAny_pure (wpAny_pure fin)))
theorem own_next {n : Nat} {x : Value} {Q : Option Value → Shared → Prop} (hI : IsIt s.heap it t i) (ho : s.heap.get? t = some o) (hd : o.data = .seq vs n) (hx : vs[i]? = some x) (hQ : ∀ h', IsIt h' it t (i + 1) → Heap.SameBut it s.heap h' → Q (some x) { s with heap := h' }) :
    wpAny (model prog w) A (pyNext (.ref it)) Q E s := by
  obtain ⟨oi, h1, h2, h3⟩ := hI
  unfold pyNext
  refine wpAny_bind (wpAny_attempt (wpAny_callSpecial?_slot (name := PySem.Str.ofString "__next__") ⟨oi, h1, h2⟩ PySem.F.slot_tuple_iterator_next (wpAny_call_entry PySem.F.slot_tuple_iterator_next ⟨oi, h1, h2⟩ PySem.F.entry_tuple_iterator_next ?_ (PySem.F.args_tuple_iterator_next_1 _))))
  show wpAny _ _ (field (.ref it) 0 >>= _) _ _ s
  refine wpAny_bind (wpAny_field h1 h3 (x := .ref t) rfl ?_)
  show wpAny _ _ (field (.ref it) 1 >>= _) _ _ s
  refine wpAny_bind (wpAny_field h1 h3 (x := .int i 0) rfl ?_)
  show wpAny _ _ (seqItems? (.ref t) >>= _) _ _ s
  refine wpAny_bind (wpAny_seqItems ho hd ?_)
  simp only [Int.toNat_natCast, hx]
  refine wpAny_bind (wpAny_setField h1 h3 (by show 1 < 2; decide) (wpAny_pure ⟨x, rfl, wpAny_pure (hQ _ ?_ (Heap.SameBut.update ..))⟩))
  exact ⟨_, Heap.get?_update_self _ h1 (Obj.isFreed_of_fields (Obj.data_mapFields h3 _)), (Obj.cls_mapFields ..).trans h2, by rw [Obj.data_mapFields h3]; simp [rawInt]⟩
theorem own_last {n : Nat} {Q : Option Value → Shared → Prop} (hh : A.handled = none) (hI : IsIt s.heap it t i) (ho : s.heap.get? t = some o) (hd : o.data = .seq vs n) (hx : vs[i]? = none) (hQ : ∀ h', Heap.ExtBut it s.heap h' → Q none { s with heap := h' }) :
    wpAny (model prog w) A (pyNext (.ref it)) Q E s := by
  obtain ⟨oi, h1, h2, h3⟩ := hI
  unfold pyNext
  refine wpAny_bind (wpAny_attempt (wpAny_callSpecial?_slot (name := PySem.Str.ofString "__next__") ⟨oi, h1, h2⟩ PySem.F.slot_tuple_iterator_next (wpAny_call_entry PySem.F.slot_tuple_iterator_next ⟨oi, h1, h2⟩ PySem.F.entry_tuple_iterator_next ?_ (PySem.F.args_tuple_iterator_next_1 _))))
  show wpAny _ _ (field (.ref it) 0 >>= _) _ _ s
  refine wpAny_bind (wpAny_field h1 h3 (x := .ref t) rfl ?_)
  show wpAny _ _ (field (.ref it) 1 >>= _) _ _ s
  refine wpAny_bind (wpAny_field h1 h3 (x := .int i 0) rfl ?_)
  show wpAny _ _ (seqItems? (.ref t) >>= _) _ _ s
  refine wpAny_bind (wpAny_seqItems ho hd ?_)
  simp only [Int.toNat_natCast, hx]
  refine wpAny_bind (wpAny_rule (wpAny_bind (wpAny_setField h1 h3 (by show 0 < 2; decide) ?_)))
  show wpAny _ _ (newExc (.type "StopIteration") [] >>= _) _ _ _
  simp only [newExc, newTuple]
  refine wpAny_bind (wpAny_bind (wpAny_newObj_type (wpAny_bind (m := firstArgMember _ _) (wpAny_of_eq (a := Value.none) (by first | rfl | (simp only [firstArgMember]; rfl)) (wpAny_newObj_type ?_ (by size_fits)))) (by size_fits)))
  simp only [raiseNew]
  refine wpAny_bind (wpAny_handled ?_)
  rw [show A.in1.handled = none from hh]
  refine wpAny_bind (wpAny_pure (wpAny_throw ?_))
  refine wpAny_bind (wpAny_isInstance (T := "StopIteration") (b := true) ⟨_, Heap.get?_push_size _ rfl, rfl⟩ isSubtype_stop ?_)
  exact wpAny_pure (hQ _ (((Heap.SameBut.update ..).extBut.push _).push _))
end
section
variable {prog : Program} {w : World} {A : Around} {E : Value → Shared → Prop} {s : Shared} {K : Frag} {C t dx : Addr} {v1 v2 : Value} {h₀ : Heap} {L : Addr} {m : PySem.Str → Option Value} {news : List (Addr × Obj)} {o : Obj} {n : Nat}
/-- a pair of the program's own class is unpacked into two names -/
theorem own_pair {Q : List Value → Shared → Prop} (F : Fr h₀ L s.heap m) (N : News h₀ L s.heap news) (X₀ : K.In h₀) (hh : A.handled = none) (hm : (t, o) ∈ news) (hc : o.cls = .ref C) (hd : o.data = .seq #[v1, v2] n)
    (hi : findIn K (.ref C) "__iter__" = some (some (.builtin "tuple.__iter__"))) (ht : mroIn K C (.type "tuple") = some true) (hQ : ∀ h', Fr h₀ L h' m → News h₀ L h' news → Q [v1, v2] { s with heap := h' }) :
    wpAny (model prog w) A (unpackItems (.ref t) 2 none) Q E s := by
  have ho := (N _ hm).1
  have X := X₀.keeps F.keep
  have t1 : Looks (model prog w) s.heap (typeOf (.ref t)) (.ref C) := hc ▸ (Looks.ld ho).andThen .now
  have j1 : Looks (model prog w) s.heap (specialOf (.ref t) "__iter__") (some (.builtin "tuple.__iter__")) := t1.andThen (looks_findIn X hi)
  unfold unpackItems
  refine wpAny_bind ?_
  unfold notIterableAtAll
  refine wpAny_bind (j1.here (wpAny_pure ?_))
  simp only [Bool.false_eq_true, if_false]
  refine wpAny_bind (wpAny_holding (own_iter X ho hc hi ht fun it h₁ hI hn hk => ?_))
  have hne : t ≠ it := Nat.ne_of_lt (Nat.lt_of_lt_of_le (Heap.lt_size ho) hn)
  refine wpAny_bind (wpAny_holding ?_)
  have o1 := hk _ _ ho
  refine wpAny_bind (own_next hI o1 hd (x := v1) rfl fun h₂ hI₂ s₂ => wpAny_bind (wpAny_holding ?_))
  have o2 := s₂.extBut t o hne o1
  refine wpAny_bind (own_next hI₂ o2 hd (x := v2) rfl fun h₃ hI₃ s₃ => wpAny_bind (wpAny_holding (wpAny_pure (wpAny_pure (wpAny_pure ?_)))))
  have o3 := s₃.extBut t o hne o2
  rw [if_neg (by simp)]
  refine wpAny_bind (wpAny_holding (own_last hh hI₃ o3 hd rfl fun h₄ s₄ => ?_))
  simp only [Option.isSome_none, Bool.false_eq_true, if_false]
  have all : Heap.ExtBut it s.heap h₄ := fun b ob hb e => s₄ b ob hb (s₃.extBut b ob hb (s₂.extBut b ob hb (hk _ _ e)))
  exact wpAny_pure (hQ h₄ (F.extBut all hn) (N.extBut all hn))
theorem own_assign {env : Env} {elts : List Expr} {x1} {pos : Pos} {Q : Unit → Shared → Prop} (F : Fr h₀ L s.heap m) (N : News h₀ L s.heap news) (X₀ : K.In h₀) (hh : A.handled = none) (hm : (t, o) ∈ news) (hc : o.cls = .ref C) (hd : o.data = .seq #[v1, v2] n)
    (hi : findIn K (.ref C) "__iter__" = some (some (.builtin "tuple.__iter__"))) (ht : mroIn K C (.type "tuple") = some true) (hn : (assignEach elts env).length = 2) (hstar : (assignEach elts env).findIdx? (·.1) = none)
    (h : ∀ h', Fr h₀ L h' m → News h₀ L h' news → wpAny (model prog w) A (assignInOrder ((assignEach elts env).map (·.2)) [v1, v2]) Q E { s with heap := h' }) :
    wpAny (model prog w) A (assign (.Tuple elts x1 pos) env (.ref t)) Q E s := by
  rw [arm_assign_Tuple]
  refine wpAny_bind (wpAny_standAt ?_)
  unfold unpack
  rw [hn, hstar]
  exact wpAny_bind (wpAny_holding (own_pair F N X₀ hh hm hc hd hi ht h))
end
end Mine
end

section
open PySem PySem.W PySem.Calls PyProof.Rows PySem.Spec PySem.Builtin
set_option maxRecDepth 100000
set_option maxHeartbeats 1000000
namespace Mine
section
variable {prog : Program} {w : World} {A : Around} {E : Value → Shared → Prop} {s : Shared} {K : Frag} {C t it : Addr} {o : Obj} {vs : Array Value} {n : Nat}
end
end Mine
end

section
open PySem PySem.W PySem.Calls PyProof.Rows PySem.Spec LCg LCt
set_option maxRecDepth 100000
set_option maxHeartbeats 1000000
namespace Mine
def DropEnd (h₀ : Heap) (L : Addr) (m : Str → Option Value) (s : Shared) (all : List (Addr × Obj)) (ok : Bool) (s' : Shared) : Prop :=
  ok = false ∧ ∃ h' tk', s' = { s with heap := h', toks := tk' } ∧ Fr h₀ L h' m ∧ News h₀ L h' all
section
variable {prog : Program} {w : World} {A : Around} {E : Value → Shared → Prop} {s : Shared} {K : Frag} {C₀ : Addr} {h₀ : Heap} {L : Addr} {m : Str → Option Value} {env : Env} {ct elt iter : Expr} {x : Str} {px pos : Pos} {scope : Scope} {cl : List (Str × Addr)}
/-- what the source of a comprehension over an own pair of floats, all of whose members are passed over, must be -/
def DropSrc (prog : Program) (w : World) (A : Around) (K : Frag) (C₀ : Addr) (h₀ : Heap) (L : Addr) (m : Str → Option Value) (env : Env) (ct : Expr) (x : Str) (scope : Scope) (cl : List (Str × Addr)) (Q : Value → Shared → Prop) (xv : Value) (s₁ : Shared) : Prop :=
  ∃ (t : Addr) (o : Obj) (news : List (Addr × Obj)) (r1 r2 : UInt64) (t1 t2 : Tok) (n : Nat), xv = .ref t ∧ A.handled = none ∧ Fr h₀ L s₁.heap m ∧ News h₀ L s₁.heap news ∧ (t, o) ∈ news ∧ o.cls = .ref C₀ ∧ o.data = .seq #[.float r1 t1, .float r2 t2] n ∧
    (∀ r tr I oI C oC D m₂ h tk (E' : Value → Shared → Prop), NsObj oC m₂ → m₂ x = some (.float r tr) → Fr h₀ L h m → News h₀ L h ((I, oI) :: (C, oC) :: (D, lst []) :: news) → Off3 I C D news → ((@Ne Nat I C) ∧ (@Ne Nat I D) ∧ (@Ne Nat C D)) →
      wpAny (model prog w) A (isTrue ct (compEnvC scope cl C env) (eval ct (compEnvC scope cl C env))) (DropEnd h₀ L m ⟨h, s₁.gens, s₁.drawn, tk, s₁.os⟩ ((I, oI) :: (C, oC) :: (D, lst []) :: news)) E' ⟨h, s₁.gens, s₁.drawn, tk, s₁.os⟩) ∧
    (∀ D h tk, Fr h₀ L h m → News h₀ L h ((D, lst []) :: news) → Off1 D news → Q (.ref D) ⟨h, s₁.gens, s₁.drawn, tk, s₁.os⟩)
end
end Mine
end

section
open PySem PySem.W PySem.Calls PyProof.Rows PySem.Spec
set_option maxRecDepth 100000
set_option maxHeartbeats 1000000
namespace Mine
section
variable {prog : Program} {w : World} {A : Around} {E : Value → Shared → Prop} {s : Shared} {h₀ : Heap} {L a b : Addr} {news : List (Addr × Obj)}
theorem eqB_same (v : Value) (hv : (v == v) = true) : MeetsSeq.EqGives v v true := fun prog w A E s Q h => by
  unfold eqBool
  refine wpAny_holding ?_
  show wpAny _ _ (if (v == v) = true then _ else _) Q E s
  rw [if_pos hv]
  exact wpAny_bind (wpAny_rule (wpAny_pure h))
end
end Mine
end

section
open PySem PySem.W PySem.Calls PyProof.Rows PySem.Spec PySem.Builtin PySem.Builtin.ObjectAttr
set_option maxRecDepth 100000
set_option maxHeartbeats 1000000
namespace Mine
section
variable {prog : Program} {w : World} {A : Around} {E : Value → Shared → Prop} {s : Shared} {K : Frag} {C x : Addr} {ox : Obj} {od : Option Obj} {name : PySem.Str}
/-- an attribute of an object of a subclass of tuple, held by a descriptor that the program defines itself -/
theorem own_attr {g a : Addr} {expr : Bool} {Q : Value → Shared → Prop} (X : K.In s.heap) (I : InstAt s.heap x ox C od) (hga : findIn K (.ref C) "__getattribute__" = some (some (.builtin "tuple.__getattribute__"))) (hk : findIn K (.ref C) "__getattr__" = some none)
    (hf : findObj K C od name = some (.bind (.ref g) (.ref a))) (hm : mroIn K C (.type "tuple") = some true)
    (h : wpAny (model prog w) A.in1 (call (.ref g) [.ref a, .ref x, .ref C]) (fun v s' => wpAny (model prog w) A (handedOut v) Q E s') (fun _ _ => False) { s with toks := s.toks + 1 }) :
    wpAny (model prog w) A (getAttr (.ref x) name expr) Q E s := by
  have L0 := I.type (M := model prog w)
  have L1 := looks_findIn (M := model prog w) X hga
  have L2 := looks_findIn (M := model prog w) X hk
  have L3 := looks_find (M := model prog w) X I hf
  have L4 := looks_mroIn (M := model prog w) X hm
  obtain ⟨hp, gg, d, tk, os⟩ := s
  unfold getAttr getAttrBy
  refine wpAny_bind (wpAny_mkText (wpAny_holding (wpAny_bind (L0.at (wpAny_bind (L1.at ?_))))))
  show wpAny _ _ (getAttrByItsOwn _ _ _ _ _ _) _ _ _
  unfold getAttrByItsOwn
  refine wpAny_bind (m := hookBefore (.ref C)) (L2.at ?_)
  refine wpAny_bind (wpAny_attempt (wpAny_holding ?_))
  have e1 : callGetattribute (.ref x) (.str name tk) (.builtin "tuple.__getattribute__") expr = boundAndCalled (.builtin "tuple.__getattribute__") (.ref x) (.str name tk) := by
    unfold callGetattribute
    rw [if_neg (by cases expr <;> decide)]
  rw [e1]
  unfold boundAndCalled
  rw [show bindSpecial (.builtin "tuple.__getattribute__") (.ref x) = pure (.builtin "tuple.__getattribute__", [.ref x]) from PySem.F.slot_tuple_getattribute.bind _]
  refine wpAny_bind (wpAny_pure (wpAny_call ?_))
  refine codeAny_call_builtin PySem.F.slot_tuple_getattribute.plain am_entry_tuple_getattribute (check_slot (i := "tuple.__getattribute__") (owner := "tuple") (n := "__getattribute__") (by decide +kernel) (by decide +kernel) (L0.andThen L4) (PySem.F.args_tuple_getattribute_2 _ _) ?_)
  unfold Builtin.«object.__getattribute__»
  refine wpAny_bind (m := slotArgs "__getattribute__" 1 _) (wpAny_pure ?_)
  refine wpAny_bind (m := attrName _) (wpAny_pure ?_)
  refine wpAny_bind (L0.at (wpAny_bind (L3.at ?_)))
  dsimp only
  unfold bindTo
  dsimp only
  refine wpAny_bind (wpAny_holding (wpAny_mono h (fun v s' z => ?_) fun _ _ z => z.elim))
  exact wpAny_pure z
end
end Mine
end

section
open PySem PySem.W PySem.Calls PyProof.Rows
set_option maxRecDepth 100000
set_option maxHeartbeats 400000
namespace Mine
theorem zz_GAa : True := by
  w_top off
  k_with_none
  trivial
theorem cls_some {K : Frag} {C : Addr} {c : Value} {d : Option Addr} {cd : ClassData} {sl : Array (Option Value)} (e : K.lookup C = some ⟨c, d, .cls cd, sl⟩) : (clsIn K C).isSome = true := by
  unfold clsIn; rw [e]; rfl
section
variable {prog : Program} {w : World} {A : Around} {E : Value → Shared → Prop} {s : Shared} {h₀ : Heap} {L t C : Addr} {o : Obj} {news : List (Addr × Obj)}
theorem type_own {Q : Value → Shared → Prop} (N : News h₀ L s.heap news) (hm : (t, o) ∈ news) (hc : o.cls = .ref C) (h : Q (.ref C) s) : wpAny (model prog w) A (call (.type "type") [.ref t]) Q E s := by
  obtain ⟨hp, g, d, tk, os⟩ := s
  refine call_type_obj (N _ hm).1 (by rw [hc]; rfl) ?_
  rw [hc]; exact h
end
section
variable {prog : Program} {w : World} {A : Around} {E : Value → Shared → Prop} {s : Shared} {K : Frag} {C : Addr} {c : Value} {d : Option Addr} {cd : ClassData} {sl : Array (Option Value)} {T : String}
theorem sub_nested {k : Value} {dep : Int} {tk : Tok} {Q : Fin → Shared → Prop} (hk : k = .int dep tk) (X : K.In s.heap) (e : K.lookup C = some ⟨c, d, .cls cd, sl⟩) (hm : mroIn K C (.type T) = some true) (ht : typeOf (.type T) = pure (.type "type")) (hq : Q (.done (.ret (.bool true))) s) :
    wpAny (model prog w) A (Builtin.«issubclass.nested» ⟨[.ref C, .type T, k], []⟩) Q E s := by
  subst hk
  have L1 : Looks (model prog w) s.heap (isType (.ref C)) true := (Looks.ld (X _ _ e)).andThen .now
  have L2 := looks_mroIn (M := model prog w) X hm
  have L3 : Looks (model prog w) s.heap (typeOf (.type T)) (.type "type") := Looks.of_pure ht
  obtain ⟨hp, g, dr, t, os⟩ := s
  unfold Builtin.«issubclass.nested»
  repeat lk
  exact hq
theorem sub_own {Q : Value → Shared → Prop} (X : K.In s.heap) (e : K.lookup C = some ⟨c, d, .cls cd, sl⟩) (hm : mroIn K C (.type T) = some true) (ht : typeOf (.type T) = pure (.type "type")) (h : Q (.bool true) s) : wpAny (model prog w) A (call (.builtin "issubclass") [.ref C, .type T]) Q E s :=
  call_issubclass (S := fun _ R s => K.In s.heap ∧ R (.ok (.ret (.bool true))) s) (fun _ _ _ _ _ hs => issubclass_outer (sub_nested rfl hs.1 e hm ht hs.2)) ⟨X, h⟩
end
section
variable {prog : Program} {w : World} {A : Around} {E : Value → Shared → Prop} {s : Shared} {K : Frag} {C t : Addr} {o : Obj} {vs : Array Value} {n : Nat} {i : Int} {tk : Tok} {v : Value}
theorem item_own {h₀ : Heap} {L : Addr} {news : List (Addr × Obj)} {Q : Value → Shared → Prop} (X : K.In s.heap) (N : News h₀ L s.heap news) (hmem : (t, o) ∈ news) (hc : o.cls = .ref C) (hd : o.data = .seq vs n) (hm : mroIn K C (.type "tuple") = some true) (h0 : i = 0 ∨ i = 1) (hz : vs.size = 2) (hv : vs[i.toNat]? = some v) (h : Q v s) :
    wpAny (model prog w) A (call (.builtin "tuple.__getitem__") [.ref t, .int i tk]) Q E s := by
  have ho := (N _ hmem).1
  have t1 : Looks (model prog w) s.heap (typeOf (.ref t)) (.ref C) := hc ▸ (Looks.ld ho).andThen .now
  refine wpAny_call (codeAny_call_builtin slot_tuple_getitem.plain entry_tuple_getitem (check_slot (i := "tuple.__getitem__") (owner := "tuple") (n := "__getitem__") (by decide +kernel) (by decide +kernel) (t1.andThen (looks_mroIn X hm)) (args_tuple_getitem _ _) ?_))
  unfold Builtin.«tuple.__getitem__»
  refine wpAny_bind (m := slotArgs "__getitem__" 1 _) (wpAny_pure ?_)
  dsimp only
  unfold Builtin.Tuple.tupleItemsOf
  refine wpAny_bind (wpAny_bind (wpAny_seqItems ho hd (wpAny_pure ?_)))
  have hr : (seqIndex? i vs.size).bind (vs[·]?) = some v := by
    have e : seqIndex? i vs.size = some i.toNat := by rw [hz]; rcases h0 with rfl | rfl <;> rfl
    rw [e]; exact hv
  have hb : (decide (i < -(2 ^ 63)) || decide (i ≥ 2 ^ 63)) = false := by rcases h0 with rfl | rfl <;> decide
  refine wpAny_bind (wpAny_typeOf (typeIs_int s i tk) ?_)
  rw [if_neg (by decide)]
  refine wpAny_bind (wpAny_specialOf (T := "int") (typeIs_int s i tk) int_index ?_)
  rw [if_neg (by simp)]
  refine wpAny_bind (wpAny_of_eq (a := i) rfl ?_)
  rw [if_neg (by rw [hb]; decide), hr]
  exact wpAny_pure (a := Fin.done (.ret v)) h
end
theorem meta_tup : typeOf (.type "tuple") = pure (.type "type") := by kernel_rfl
theorem zz_GAa_1 : True := by
  k_with "my call builtin:issubclass" =>
    (k_here; k_dflt (refine' sub_own ?zz1X ?zz1e ?zz1m ?zz1t ?_; (case zz1X => k_in); (case zz1e => k_is); (case zz1m => k_is); (case zz1t => exact meta_tup); k_whole))
  k_with "my getMethod type:tuple" =>
    (k_here; refine' method_type ?zz2F ?zz2X ?zz2m (by decide +kernel) ?zz2e ?zz2h ?_; (case zz2F => k_asm); (case zz2X => k_asm); (case zz2m => exact meta_tup); (case zz2e => k_dflt k_is); (case zz2h => k_handed))
  k_with "my call type:type" =>
    (k_here; k_dflt (refine' type_own ?zz3N ?zz3m ?zz3c ?_; (case zz3N => k_asm); (case zz3m => assumption); (case zz3c => exact rfl); k_whole))
  k_with "my call builtin:tuple.__getitem__" =>
    (k_here; k_dflt (refine' item_own ?zz4X ?zz4N ?zz4o ?zz4c ?zz4d ?zz4m ?zz4z ?zz4sz ?zz4v ?_; (case zz4X => k_in); (case zz4N => k_asm); (case zz4o => assumption); (case zz4c => exact rfl); (case zz4d => exact rfl); (case zz4m => k_is); (case zz4z => decide); (case zz4sz => exact rfl); (case zz4v => exact rfl); k_whole))
  trivial
theorem get_slope {w : World} {dp un : Nat} {gd : Option (List Code)} {cn : Str} {cs : Scope} {a : Addr} {ccd : Value} {cl : List (Str × Addr)} {outer : List Env} {A₀ : Around} {base h₀ : Heap} {L : Addr} {m : Str → Option Value} {s : Shared} {Q E : Value → Shared → Prop}
    {mean : ExcName → Option Value} {mg mb : Str → Option Value} {news : List (Addr × Obj)} {t dx : Addr} {v1 v2 : Value}
    (B : Below A₀ base outer h₀) (F : Fr h₀ L s.heap m) (N : News h₀ L s.heap news) (T : Top Mine.vw (looseW Mine.vw [Str.ofString "_tuplegetter", Str.ofString "LinearRegression", Str.ofString "linear_regression"]) mean mg mb h₀) (hk : cs.kind = .function) (hd : dp + 5 < recursionLimit) (hu : un + 40 < cLine)
    (ht : (t, lrObj 173 dx v1 v2) ∈ news) (hdx : (dx, emptyDict) ∈ news) (hv : handedOut v1 = pure v1)
    (h : ∀ h' tk, Fr h₀ L h' m → News h₀ L h' news → Q v1 { s with heap := h', toks := tk }) :
    (Mine.hd.heap_39 w.params).In h₀ → wpAny (model PySem.Challenge.rw_kq0023_01.row.prog w) (ktrTop dp un gd cn cs L a ccd cl outer) (getAttr (.ref t) (Str.ofString "slope") true) Q E s := by
  k_fill
  intro X
  have I : InstAt s.heap t (lrObj 173 dx v1 v2) 173 (some emptyDict) := ⟨(N _ ht).1, rfl, rfl, (N _ hdx).1⟩
  refine' own_attr (g := 71) (a := 165) (X.keeps F.keep) I ?k1 ?k2 ?k3 ?k4 ?_
  case k1 => k_is
  case k2 => k_is
  case k3 =>
    refine' findObj_data ?a ?b ?c ?d
    case a => (refine' have_eq (x := (Mine.hd.heap_39 w.params).lookup 173) ?e ?k; (case e => k_is); exact cls_some)
    case b => k_is
    case c => k_is
    case d => k_is
  case k4 => k_is
  refine wpAny_call ?_
  refine' code_def ?k1 ?k2 ?k3 ?k4 ?k5 ?kA ?kF ?kK ?k6 ?k7 ?k8 ?k9 ?kB ?_ ?c2 ?c3 ?c4 ?c5; (case kA => exact rfl); (case kF => exact rfl); (case kK => exact hk); (case k1 => k_asm); (case k2 => k_asm); (case k3 => k_asm); (case k4 => k_asm); (case k5 => k_asm); (case k6 => k_is); (case k7 => k_is); (case k8 => ktr_room); (case k9 => first | exact binds_K (by k_in) rfl (by k_is) rfl rfl rfl | exact BindsTo.of_eq rfl); (case kB => exact locs rfl); (case c2 => exact rfl); (case c3 => exact rfl); (case c4 => exact rfl); (case c5 => decide)
  intro g' L' h' FG' F' N' B' X' T'
  (try dsimp only)
  (try k_fold)
  k_steps
  all_goals (try k_data)
  show wpAny _ _ (handedOut v1) _ _ _
  rw [hv]
  refine wpAny_pure (h _ _ ?_ ?_)
  · assumption
  · assumption
theorem get_intercept {w : World} {dp un : Nat} {gd : Option (List Code)} {cn : Str} {cs : Scope} {a : Addr} {ccd : Value} {cl : List (Str × Addr)} {outer : List Env} {A₀ : Around} {base h₀ : Heap} {L : Addr} {m : Str → Option Value} {s : Shared} {Q E : Value → Shared → Prop}
    {mean : ExcName → Option Value} {mg mb : Str → Option Value} {news : List (Addr × Obj)} {t dx : Addr} {v1 v2 : Value}
    (B : Below A₀ base outer h₀) (F : Fr h₀ L s.heap m) (N : News h₀ L s.heap news) (T : Top Mine.vw (looseW Mine.vw [Str.ofString "_tuplegetter", Str.ofString "LinearRegression", Str.ofString "linear_regression"]) mean mg mb h₀) (hk : cs.kind = .function) (hd : dp + 5 < recursionLimit) (hu : un + 40 < cLine)
    (ht : (t, lrObj 173 dx v1 v2) ∈ news) (hdx : (dx, emptyDict) ∈ news) (hv : handedOut v2 = pure v2)
    (h : ∀ h' tk, Fr h₀ L h' m → News h₀ L h' news → Q v2 { s with heap := h', toks := tk }) :
    (Mine.hd.heap_39 w.params).In h₀ → wpAny (model PySem.Challenge.rw_kq0023_01.row.prog w) (ktrTop dp un gd cn cs L a ccd cl outer) (getAttr (.ref t) (Str.ofString "intercept") true) Q E s := by
  k_fill
  intro X
  have I : InstAt s.heap t (lrObj 173 dx v1 v2) 173 (some emptyDict) := ⟨(N _ ht).1, rfl, rfl, (N _ hdx).1⟩
  refine' own_attr (g := 71) (a := 168) (X.keeps F.keep) I ?k1 ?k2 ?k3 ?k4 ?_
  case k1 => k_is
  case k2 => k_is
  case k3 =>
    refine' findObj_data ?a ?b ?c ?d
    case a => (refine' have_eq (x := (Mine.hd.heap_39 w.params).lookup 173) ?e ?k; (case e => k_is); exact cls_some)
    case b => k_is
    case c => k_is
    case d => k_is
  case k4 => k_is
  refine wpAny_call ?_
  refine' code_def ?k1 ?k2 ?k3 ?k4 ?k5 ?kA ?kF ?kK ?k6 ?k7 ?k8 ?k9 ?kB ?_ ?c2 ?c3 ?c4 ?c5; (case kA => exact rfl); (case kF => exact rfl); (case kK => exact hk); (case k1 => k_asm); (case k2 => k_asm); (case k3 => k_asm); (case k4 => k_asm); (case k5 => k_asm); (case k6 => k_is); (case k7 => k_is); (case k8 => ktr_room); (case k9 => first | exact binds_K (by k_in) rfl (by k_is) rfl rfl rfl | exact BindsTo.of_eq rfl); (case kB => exact locs rfl); (case c2 => exact rfl); (case c3 => exact rfl); (case c4 => exact rfl); (case c5 => decide)
  intro g' L' h' FG' F' N' B' X' T'
  (try dsimp only)
  (try k_fold)
  k_steps
  all_goals (try k_data)
  show wpAny _ _ (handedOut v2) _ _ _
  rw [hv]
  refine wpAny_pure (h _ _ ?_ ?_)
  · assumption
  · assumption
end Mine
end

section
open PySem PySem.W PySem.Calls PyProof.Rows PySem.Spec
set_option maxRecDepth 100000
set_option maxHeartbeats 1000000
namespace Mine
inductive RelI (R : Int → Value → Prop) : List Int → List Value → Prop
  | nil : RelI R [] []
  | cons {k : Int} {y : Value} {us : List Int} {ys : List Value} (h : R k y) (t : RelI R us ys) : RelI R (k :: us) (y :: ys)
theorem RelI.snoc {R : Int → Value → Prop} {k : Int} {y : Value} (h : R k y) : ∀ {us : List Int} {ys : List Value}, RelI R us ys → RelI R (us ++ [k]) (ys ++ [y])
  | _, _, .nil => .cons h .nil
  | _, _, .cons a t => .cons a (t.snoc h)
theorem RelI.length {R : Int → Value → Prop} : ∀ {us : List Int} {ys : List Value}, RelI R us ys → ys.length = us.length
  | _, _, .nil => rfl
  | _, _, .cons _ t => by simp [t.length]
theorem RelI.at {R : Int → Value → Prop} : ∀ {us : List Int} {ys : List Value}, RelI R us ys → ∀ (i : Nat) v, ys[i]? = some v → R (us.getD i 0) v
  | _, _, .nil, _, _, e => by simp at e
  | _, _, .cons h _, 0, v, e => by simp at e; subst e; simpa using h
  | _, _, .cons _ t, i + 1, v, e => by simpa using t.at i v (by simpa using e)
def CompEl (news : List (Addr × Obj)) (P : Value → Prop) (y : Value) (news' : List (Addr × Obj)) : Prop := news' = news ∧ P y
section
variable {prog : Program} {w : World} {A : Around} {h₀ : Heap} {L : Addr} {m : Str → Option Value} {env : Env} {elt : Expr} {x : Str} {scope : Scope} {cl : List (Str × Addr)} {s : Shared} {S : List (Addr × Obj) → Prop} {P : Nat → Value → Prop} {Fin : List Value → List (Addr × Obj) → Prop} {news : List (Addr × Obj)}
theorem comp_rel {n : Nat} {ks : List Int} (R : Int → Value → Prop) (hks : ks.length = n) (hP : ∀ i v, i < n → P i v → ∃ k t, ks[i]? = some k ∧ v = .int k t)
    (turn : ∀ k t I oI C oC D m₂ ys h tk (E' : Value → Shared → Prop), k ∈ ks → LCg.NsObj oC m₂ → m₂ x = some (.int k t) → Fr h₀ L h m → News h₀ L h ((I, oI) :: (C, oC) :: (D, LCg.lst ys) :: news) → LCg.Off3 I C D news → ((@Ne Nat I C) ∧ (@Ne Nat I D) ∧ (@Ne Nat C D)) →
      wpAny (model prog w) A (eval elt (compEnvC scope cl C env)) (LCg.CompEnd h₀ L m { s with heap := h, toks := tk } I oI C oC D (LCg.lst ys) S (fun y news' => CompEl news (R k) y news')) E' { s with heap := h, toks := tk })
    (fin : ∀ ys, RelI R ks ys → Fin ys news) : LCg.CompRest prog w A h₀ L m env elt x scope cl s S P Fin n 0 [] news := by
  suffices key : ∀ (j i : Nat) (ys : List Value), i + j = n → RelI R (ks.take i) ys → LCg.CompRest prog w A h₀ L m env elt x scope cl s S P Fin j i ys news from key n 0 [] (by omega) .nil
  intro j
  induction j with
  | zero => intro i ys hi hy; rw [List.take_of_length_le (by omega)] at hy; exact LCg.CompRest.zero (fin ys hy)
  | succ j ih =>
    intro i ys hi hy
    refine LCg.CompRest.succ fun v I oI C oC D m₂ h tk E' hv hC hx F N off ne => ?_
    obtain ⟨k, t, hk, rfl⟩ := hP i v (by omega) hv
    refine wpAny_mono (turn k t I oI C oC D m₂ ys h tk E' (List.mem_of_getElem? hk) hC hx F N off ne) (fun y s₂ hq => ?_) fun _ _ e => e
    obtain ⟨h', tk', nw, e, F', N', off', hS, rfl, hy'⟩ := hq
    refine ⟨h', tk', nw, e, F', N', off', hS, ih (i + 1) _ (by omega) ?_⟩
    rw [List.take_add_one, hk]
    exact hy.snoc hy'
theorem comp_ints {vs : List Value} {ns : List Int} (R : Int → Value → Prop) (hi : IntsAre vs ns)
    (turn : ∀ k t I oI C oC D m₂ ys h tk (E' : Value → Shared → Prop), k ∈ ns → LCg.NsObj oC m₂ → m₂ x = some (.int k t) → Fr h₀ L h m → News h₀ L h ((I, oI) :: (C, oC) :: (D, LCg.lst ys) :: news) → LCg.Off3 I C D news → ((@Ne Nat I C) ∧ (@Ne Nat I D) ∧ (@Ne Nat C D)) →
      wpAny (model prog w) A (eval elt (compEnvC scope cl C env)) (LCg.CompEnd h₀ L m { s with heap := h, toks := tk } I oI C oC D (LCg.lst ys) S (fun y news' => CompEl news (R k) y news')) E' { s with heap := h, toks := tk })
    (fin : ∀ ys, RelI R ns ys → Fin ys news) : LCg.CompRest prog w A h₀ L m env elt x scope cl s S (fun i v => vs.toArray[i]? = some v) Fin vs.toArray.size 0 [] news :=
  comp_rel R (by rw [List.size_toArray]; exact hi.length.symm) (fun i v _ hv => by
    obtain ⟨k, t, e, hk⟩ := IntsAre.at hi i v (by simpa using hv)
    exact ⟨k, t, hk, e⟩) turn fin
inductive RelV (R : Value → Value → Prop) : List Value → List Value → Prop
  | nil : RelV R [] []
  | cons {v y : Value} {us ys : List Value} (h : R v y) (t : RelV R us ys) : RelV R (v :: us) (y :: ys)
theorem RelV.snoc {R : Value → Value → Prop} {k y : Value} (h : R k y) : ∀ {us ys : List Value}, RelV R us ys → RelV R (us ++ [k]) (ys ++ [y])
  | _, _, .nil => .cons h .nil
  | _, _, .cons a t => .cons a (t.snoc h)
theorem RelV.length {R : Value → Value → Prop} : ∀ {us ys : List Value}, RelV R us ys → ys.length = us.length
  | _, _, .nil => rfl
  | _, _, .cons _ t => by simp [t.length]
theorem compEnd_el {h₀ : Heap} {L I C D : Addr} {m : Str → Option Value} {s₁ : Shared} {oI oC oD : Obj} {S : List (Addr × Obj) → Prop} {P : Value → Prop} {y : Value} {h' : Heap} {tk : Nat} {all news : List (Addr × Obj)}
    (F : Fr h₀ L h' m) (N : News h₀ L h' all) (sub : ∀ p ∈ (I, oI) :: (C, oC) :: (D, oD) :: news, p ∈ all) (off : LCg.Off3 I C D news) (hS : S news) (r : P y) :
    LCg.CompEnd h₀ L m s₁ I oI C oC D oD S (fun y news' => CompEl news P y news') y { s₁ with heap := h', toks := tk } := LCg.CompEnd.intro F N news sub off hS ⟨rfl, r⟩
def IsFloatT (y : Value) : Prop := y = .type "float"
end
end Mine
end

section
open PySem PySem.W PySem.Calls PyProof.Rows PySem.Spec Float64
set_option maxRecDepth 100000
set_option maxHeartbeats 1000000
namespace Mine
section
variable {prog : Program} {w : World} {A : Around} {E : Value → Shared → Prop} {s s5 : Shared} {a C I ax ay : Addr} {ks : List Addr} {g n : Nat} {F : Nat → Value → Prop} {xs : List Value} {Q : Value → Shared → Prop}
theorem moved_eqG {s s' : Shared} {wr : List Addr} {G : Array GenState → Array GenState → Prop} (hm : Moved wr G s s') : s' = ⟨s'.heap, s'.gens, s.drawn, s'.toks, s.os⟩ := by
  obtain ⟨h', g', d', t', o'⟩ := s'
  obtain ⟨_, hg, hd, ho, _⟩ := hm
  simp only at hd ho
  rw [hd, ho]
theorem GenIs.in1 (hG : GenIs prog w A a C I ay ks g n F s5) : WalksS prog w A.in1 a (a :: C :: I :: ay :: cStatics :: ks) (C :: [I]) (GenOnlyQ g) n (fun j y => F j y) (GenAt prog w A.in4 a g C (I :: ay :: cStatics :: ks) [I] allOf n F) := by
  have W : WalksS prog w A.in1 a (a :: C :: I :: ay :: cStatics :: ks) (C :: [I]) (GenOnlyQ g) (passing allOf n 0).length (fun j y => ∃ i, (passing allOf n 0)[j]? = some i ∧ F i y) (GenAt prog w A.in4 a g C (I :: ay :: cStatics :: ks) [I] allOf n F) :=
    WalksS.of_in1 (WalksS.of_in1 (WalksS.of_in1 hG.walks))
  rw [passing_all, List.length_range] at W
  exact { W with
    item := fun i s Q E hi st hQ => W.item i s Q E hi st fun v s' hP => hQ v s' (by
      obtain ⟨j, hj, hF⟩ := hP
      have : i = j := by
        rw [List.getElem?_range hi] at hj
        exact Option.some.inj hj
      exact this ▸ hF) }
theorem two_list_gen (hA : A.in1.handled = none) (hG : GenIs prog w A a C I ay ks g n F s5) {I1 : Addr} (h1 : ax ≠ I1) (hfp : ∀ b ∈ (a :: C :: I :: ay :: cStatics :: ks), b ≠ I1) (hC : C ≠ ax) (hI : I ≠ ax) (xa : Array Value) (e : xa.size = n) :
    Two prog w A.in1 I1 a [I1, ax] [I1] (a :: C :: I :: ay :: cStatics :: ks) (C :: [I]) (fun a b => b = a) (GenOnlyQ g) (GenOnlyQ g) n (fun i v => xa[i]? = some v) F
      (fun i s => s.heap.IsListIter I1 ax i ∧ s.heap.IsList ax xa) (GenAt prog w A.in4 a g C (I :: ay :: cStatics :: ks) [I] allOf n F) where
  W1 := by rw [← e]; exact (Walks.list hA I1 ax h1 xa).toS
  W2 := hG.in1
  fr1 := fun i s s' st hm => by
    have hc : C ≠ I1 := hfp C (by simp)
    have hi : I ≠ I1 := hfp I (by simp)
    exact ⟨st.1.at fun o e => hm.heap _ o (by simp [Ne.symm hc, Ne.symm hi]) e, st.2.at fun o e => hm.heap _ o (by simp [Ne.symm hC, Ne.symm hI]) e⟩
  fr2 := fun i s s' st hm => by
    rw [moved_eq hm]
    exact hG.in1.frame i s _ _ st hm.toks fun b hb o e => hm.heap b o (by simpa using hfp b hb) e
  g1 := fun _ _ e => .inl e
  g2 := fun _ _ e => e
  grefl := fun _ => .inl rfl
  gtrans := fun _ _ _ a b => a.trans b
theorem sumprod_list_gen (hA : A.in1.handled = none) (hl : s.heap.IsList ax xs.toArray) (hG : GenIs prog w A a C I ay ks g n F s5) (hst : GenAt prog w A.in4 a g C (I :: ay :: cStatics :: ks) [I] allOf n F 0 s) (hxn : xs.length = n) (hn : 0 < n)
    (hfp : ∀ b ∈ (a :: C :: I :: ay :: cStatics :: ks), b < s.heap.objs.size) (hC : C ≠ ax) (hI : I ≠ ax) (v1 v2 pr : Nat → Int) (hv1 : ∀ i v, xs[i]? = some v → NumV v (v1 i)) (hv2 : ∀ i y, F i y → NumV y (v2 i) ∧ isF y = true)
    (hpr : ∀ i, i < n → v1 i * v2 i = pr i * 2 ^ 1074 ∧ Fits (pr i)) (hfit : ∀ j, j ≤ n → Fits (preSum pr j))
    (h : ∀ h' gs' tk r t, (∀ b o, b ≠ C → b ≠ I → s.heap.get? b = some o → h'.get? b = some o) → GenOnlyQ g s.gens gs' → s.toks ≤ tk → Ex r (preSum pr n) → Q (.float r t) ⟨h', gs', s.drawn, tk, s.os⟩) :
    wpAny (model prog w) A (call (.builtin "math.sumprod") [.ref ax, .ref a]) Q E s := by
  have hlt : ax < s.heap.objs.size := by obtain ⟨_, e, _⟩ := hl; exact Heap.lt_size e
  refine call_sumprod_flt (wpAny_pyIter_list hl ?_)
  have hst2 : GenAt prog w A.in4 a g C (I :: ay :: cStatics :: ks) [I] allOf n F 0 { s with heap := s.heap.push { cls := .type "list_iterator", data := .fields #[.ref ax, .int 0 0] } } :=
    hG.in1.frame 0 s _ s.toks hst (Nat.le_refl _) fun b _ o e => Heap.get?_push_of_some _ e
  refine hG.in1.self 0 _ _ _ hst2 ?_
  have hne : ∀ b ∈ (a :: C :: I :: ay :: cStatics :: ks), b ≠ s.heap.objs.size := fun b hb => Nat.ne_of_lt (hfp b hb)
  refine ⟨s.heap.objs.size, a, _, _, _, _, _, _, _, n, _, _, _, _, v1, v2, pr, rfl, rfl, two_list_gen hA hG (Nat.ne_of_lt hlt) hne hC hI xs.toArray (by simpa using hxn), ⟨⟨_, Heap.get?_push_size _ rfl, rfl, rfl⟩, hl.push _⟩, hst2, ?_, ?_, ?_, hpr, hfit, hn, ?_⟩
  · intro b hb
    show b < (s.heap.push _).objs.size
    rw [Heap.size_push]
    rcases List.mem_cons.mp hb with rfl | hb
    · exact Nat.lt_succ_self _
    · rw [List.mem_singleton.mp hb]; exact Nat.lt_succ_of_lt hlt
  · intro b hb
    show b < (s.heap.push _).objs.size
    rw [Heap.size_push]
    exact Nat.lt_succ_of_lt (hfp b hb)
  · intro i x y hx hy
    have := hv2 i y hy
    exact ⟨hv1 i x (by simpa using hx), this.1, by rw [this.2]; simp⟩
  · intro s' r t hm hr
    rw [moved_eqG hm]
    refine h s'.heap s'.gens s'.toks r t (fun b o hb hb2 e => ?_) hm.gens hm.toks hr
    refine hm.heap b o (fun hbm => ?_) (Heap.get?_push_of_some _ e)
    have hlb := Heap.lt_size e
    simp only [List.cons_append, List.nil_append] at hbm
    rcases List.mem_cons.mp hbm with rfl | hbm
    · exact Nat.lt_irrefl _ hlb
    · rcases List.mem_cons.mp hbm with h | hbm
      · exact hb h
      · exact hb2 (List.mem_singleton.mp hbm)
end
end Mine
end

section
open PySem PySem.W PySem.Calls PyProof.Rows PySem.Spec Float64
set_option maxRecDepth 100000
set_option maxHeartbeats 1000000
namespace Mine
structure SubAt (ws : List Int) (Y : Int) (i : Nat) (y : Value) : Prop where
  is : ∃ r t, y = .float r t ∧ Ex r (ws.getD i 0 - Y)
section
variable {prog : Program} {w : World} {A : Around} {E : Value → Shared → Prop} {s : Shared} {g : Heap} {L ay c P cyb : Addr} {m : Str → Option Value} {all : List (Addr × Obj)} {f : Obj → List (Addr × Obj)} {env : Env} {x z : Str} {px pz p1 p2 p3 pos : Pos} {iter : Expr} {scope : Scope} {cl : List (Str × Addr)} {ys : List Value} {cy : Nat} {ws : List Int} {yb : UInt64} {tb : Tok} {Y : Int} {oyb : Obj} {mg : Str → Option Value} {Q : Value → Shared → Prop}
theorem eval_local {env : Env} {s : Shared} {v : Value} (hd : (x == ("__debug__" : Str)) = false) (hk : env.scope.kind = .function) (hl : env.kindOf x = some .local) {m₂ : Str → Option Value} (hn : s.heap.Ns env.locals m₂) (hv : m₂ x = some v) (h : Q v s) : wpAny (model prog w) A (eval (.Name x px) env) Q E s := by
  rw [eval_Name _ _ _ hd]
  exact wpAny_bind (wpAny_standAt (wpAny_loadName_local hk hl hn hv h))
theorem eval_free {env : Env} {s : Shared} {v : Value} {cx : Addr} (hd : (x == ("__debug__" : Str)) = false) (hk : env.scope.kind = .function) (hl : env.kindOf x = some .free) (hc : env.cells.lookup x = some cx) (hv : s.heap.IsCell cx (some v)) (hn : (x == ("__classdict__" : Str)) = false) (h : Q v s) : wpAny (model prog w) A (eval (.Name x px) env) Q E s := by
  rw [eval_Name _ _ _ hd]
  exact wpAny_bind (wpAny_standAt (wpAny_loadName_free hk hl hc hv h hn))
structure GenReady (prog : Program) (w : World) (A : Around) (g : Heap) (a C I ay cyb : Addr) (oa oC oI oy oyb : Obj) (g0 n : Nat) (F : Nat → Value → Prop) (gs : Array GenState) (dr : Drawn) (os : OsState) (tk : Nat) : Prop where
  is : ∃ s5, GenIs prog w A a C I ay [cyb] g0 n F s5
  now : ∀ h' tk', tk ≤ tk' → h'.get? a = some oa → h'.get? C = some oC → h'.get? I = some oI → h'.get? ay = some oy → h'.get? cyb = some oyb → (∀ o, g.get? cStatics = some o → h'.get? cStatics = some o) → GenAt prog w A.in4 a g0 C (I :: ay :: cStatics :: [cyb]) [I] allOf n F 0 ⟨h', gs, dr, tk', os⟩
theorem gen_ready {gs : Array GenState} {dr : Drawn} {os : OsState} {tk : Nat} {h₅ : Heap} {a C I : Addr} {oa oC oI oy : Obj} {g0 n : Nat} {F : Nat → Value → Prop} (hlim : g.NoLimit) (Fr5 : ∀ b o, g.get? b = some o → h₅.get? b = some o) (ha : h₅.get? a = some oa) (hC : h₅.get? C = some oC) (hI : h₅.get? I = some oI) (hy : h₅.get? ay = some oy) (hyb : h₅.get? cyb = some oyb)
    (hG : GenIs prog w A a C I ay [cyb] g0 n F ⟨h₅, gs, dr, tk, os⟩) : GenReady prog w A g a C I ay cyb oa oC oI oy oyb g0 n F gs dr os tk :=
  ⟨⟨_, hG⟩, fun h' tk' ht a1 a2 a3 a4 a5 a6 => hG.in1.frame 0 _ h' tk' hG.at0 ht fun b hb o e => by
    have e : h₅.get? b = some o := e
    obtain ⟨_, hns, _⟩ := hlim
    obtain ⟨os', _, _, hos, _⟩ := hns
    rcases List.mem_cons.mp hb with rfl | hb
    · rw [ha] at e; cases e; exact a1
    · rcases List.mem_cons.mp hb with rfl | hb
      · rw [hC] at e; cases e; exact a2
      · rcases List.mem_cons.mp hb with rfl | hb
        · rw [hI] at e; cases e; exact a3
        · rcases List.mem_cons.mp hb with rfl | hb
          · rw [hy] at e; cases e; exact a4
          · rcases List.mem_cons.mp hb with rfl | hb
            · rw [Fr5 _ _ hos] at e; cases e; exact a6 _ hos
            · rw [List.mem_singleton.mp hb] at e ⊢
              rw [hyb] at e; cases e; exact a5⟩
theorem sum_gen {rest : List (Addr × Obj)} {a C I ax : Addr} {oa oC oI oy : Obj} {xs : List Value} {us : List Int} {cx g0 n tk5 : Nat} {gs : Array GenState} {dr : Drawn} {os : OsState} (pr : Nat → Int) {h : Heap} {tk : Nat}
    (hA : A.in1.handled = none) (F : Fr g L h m) (N : News g L h ((a, oa) :: (C, oC) :: (I, oI) :: rest)) (hR : GenReady prog w A g a C I ay cyb oa oC oI oy oyb g0 n (SubAt ws Y) gs dr os tk5) (hlim : g.NoLimit) (htk : tk5 ≤ tk) (hlt : ∀ p ∈ rest, p.1 < a ∧ p.1 < C ∧ p.1 < I)
    (hy : (ay, oy) ∈ rest) (hyb : (cyb, oyb) ∈ rest) (hx : (ax, listOf xs.toArray cx) ∈ rest) (hn : NumsAre xs us) (hln : xs.length = n) (hpos : 0 < n)
    (hpr : ∀ i, i < n → us.getD i 0 * (ws.getD i 0 - Y) = pr i * 2 ^ 1074 ∧ Fits (pr i)) (hfit : ∀ j, j ≤ n → Fits (preSum pr j))
    (k : ∀ h' gs' tk' r t, Fr g L h' m → News g L h' rest → GenOnlyQ g0 gs gs' → tk ≤ tk' → Ex r (preSum pr n) → Q (.float r t) ⟨h', gs', dr, tk', os⟩) :
    wpAny (model prog w) A (call (.builtin "math.sumprod") [.ref ax, .ref a]) Q E ⟨h, gs, dr, tk, os⟩ := by
  obtain ⟨s5, hG⟩ := hR.is
  have ma := (N _ (.head _))
  have mC := (N _ (.tail _ (.head _)))
  have mI := (N _ (.tail _ (.tail _ (.head _))))
  have mr : ∀ p ∈ rest, h.get? p.1 = some p.2 ∧ p.1 ≠ L ∧ g.get? p.1 = none := fun p hp => N p (.tail _ (.tail _ (.tail _ hp)))
  have hst := hR.now h tk htk ma.1 mC.1 mI.1 (mr _ hy).1 (mr _ hyb).1 fun o e => F.keep _ _ e
  obtain ⟨_, hns, _⟩ := hlim
  obtain ⟨os', _, _, hos, _⟩ := hns
  refine sumprod_list_gen (s := ⟨h, gs, dr, tk, os⟩) hA ⟨_, (mr _ hx).1, rfl, _, rfl⟩ hG hst hln hpos (fun b hb => ?_) (Nat.ne_of_gt (hlt _ hx).2.1) (Nat.ne_of_gt (hlt _ hx).2.2) (fun i => us.getD i 0) (fun i => ws.getD i 0 - Y) pr (fun i v hv => hn.2 i v hv) (fun i y hy => ?_) hpr hfit fun h' gs' tk' r t hk hgs ht hr => ?_
  · show b < h.objs.size
    rcases List.mem_cons.mp hb with rfl | hb
    · exact Heap.lt_size ma.1
    · rcases List.mem_cons.mp hb with rfl | hb
      · exact Heap.lt_size mC.1
      · rcases List.mem_cons.mp hb with rfl | hb
        · exact Heap.lt_size mI.1
        · rcases List.mem_cons.mp hb with rfl | hb
          · exact Heap.lt_size (mr _ hy).1
          · rcases List.mem_cons.mp hb with rfl | hb
            · exact Heap.lt_size (F.keep _ _ hos)
            · rw [List.mem_singleton.mp hb]; exact Heap.lt_size (mr _ hyb).1
  · obtain ⟨r, t, rfl, hr⟩ := hy.is
    exact ⟨.float t hr, rfl⟩
  · have hkC : ∀ b o, h.get? b = some o → b ≠ C → b ≠ I → h'.get? b = some o := fun b o e h1 h2 => hk b o h1 h2 e
    refine k h' gs' tk' r t ⟨F.ns.at' fun o e => hkC L o e (Ne.symm mC.2.1) (Ne.symm mI.2.1), fun b o e => hkC b o (F.keep b o e) (fun eb => ?_) (fun eb => ?_), F.above⟩ (fun p hp => ⟨hkC _ _ (mr p hp).1 (Nat.ne_of_lt (hlt p hp).2.1) (Nat.ne_of_lt (hlt p hp).2.2), (mr p hp).2⟩) hgs ht hr
    · have := mC.2.2; rw [← eb, e] at this; cases this
    · have := mI.2.2; rw [← eb, e] at this; cases this
end
end Mine
end

section
open PySem PySem.W PySem.Calls PyProof.Rows PySem.Spec Float64
set_option maxRecDepth 100000
set_option maxHeartbeats 1000000
namespace Mine
/-- what the line that goes not through the origin asks of its points (all times 2^1074) -/
structure FullOk (xs ys : List Value) (us ws : List Int) (n : Nat) (Xb Yb : Int) (pr qr : Nat → Int) : Prop where
  nx : NumsAre xs us
  ny : NumsAre ys ws
  lx : xs.length = n
  ly : ys.length = n
  fx : ∀ j, j ≤ us.length → Fits (us.take j).sum
  fy : ∀ j, j ≤ ws.length → Fits (ws.take j).sum
  sx : us.sum = Xb * n
  sy : ws.sum = Yb * n
  fxb : Fits Xb
  fyb : Fits Yb
  fn : Fits ((n : Int) * 2 ^ 1074)
  dx : ∀ i, i < n → Fits (us.getD i 0 - Xb)
  dy : ∀ i, i < n → Fits (ws.getD i 0 - Yb)
  pxy : ∀ i, i < n → (us.getD i 0 - Xb) * (ws.getD i 0 - Yb) = pr i * 2 ^ 1074 ∧ Fits (pr i)
  pxx : ∀ i, i < n → (us.getD i 0 - Xb) * (us.getD i 0 - Xb) = qr i * 2 ^ 1074 ∧ Fits (qr i)
  sxy : ∀ j, j ≤ n → Fits (preSum pr j)
  sxx : ∀ j, j ≤ n → Fits (preSum qr j)
structure FullEnd (n : Nat) (Xb Yb : Int) (pr qr : Nat → Int) (Sl M : Int) : Prop where
  ne : preSum qr n ≠ 0
  sl : preSum pr n * 2 ^ 1074 = Sl * preSum qr n
  fsl : Fits Sl
  m : Sl * Xb = M * 2 ^ 1074
  fm : Fits M
  fi : Fits (Yb - M)
structure TokOk (t : Tok) : Prop where
  ne : t ≠ 0
theorem TokOk.pos {t : Tok} (h : 0 < t) : TokOk t := ⟨Nat.ne_of_gt h⟩
theorem TokOk.lt {t : Tok} (h : TokOk t) : 0 < t := Nat.pos_of_ne_zero h.ne
theorem tok_keep {α : Type} {M : Model} {A : Around} {t : Sem α} {Q : α → Shared → Prop} {E : Value → Shared → Prop} {h : Heap} {g : Array GenState} {d : Drawn} {X : Nat} {o : OsState} (k : ∀ tk, TokOk tk → wpAny M A t Q E ⟨h, g, d, tk, o⟩) : wpAny M A t Q E ⟨h, g, d, X + 1, o⟩ := k _ (.pos (Nat.succ_pos _))
structure SubL (zs : List Value) (us : List Int) (Xb : Int) (n : Nat) : Prop where
  nums : NumsAre zs (us.map fun u => u - Xb)
  allF : AllF zs
  len : zs.length = n
section
variable {prog : Program} {w : World} {A : Around} {E : Value → Shared → Prop} {s : Shared} {h₀ : Heap} {L a : Addr} {m : Str → Option Value} {news : List (Addr × Obj)} {xs ys : List Value} {us ws : List Int} {n c : Nat} {Xb Yb Sl M : Int} {pr qr : Nat → Int} {r xb yb : UInt64} {t tb tk2 : Tok} {v : Value}
theorem fsum_x {Q : Value → Shared → Prop} (K : FullOk xs ys us ws n Xb Yb pr qr) (hA : A.in1.handled = none) (hA0 : A.handled = none) (F : Fr h₀ L s.heap m) (N : News h₀ L s.heap news) (hm : (a, listOf xs.toArray c) ∈ news)
    (h : ∀ h' tk r t, Fr h₀ L h' m → News h₀ L h' news → Ex r (Xb * n) → Q (.float r t) { s with heap := h', toks := tk }) : wpAny (model prog w) A (call (.builtin "math.fsum") [.ref a]) Q E s :=
  fsum_list hA0 (N.isList hm) K.nx K.fx fun h' tk r t hk _ hr => h h' tk r t (F.keeps hk) (N.grown hk) (hr.to K.sx)
theorem fsum_y {Q : Value → Shared → Prop} (K : FullOk xs ys us ws n Xb Yb pr qr) (hA : A.in1.handled = none) (hA0 : A.handled = none) (F : Fr h₀ L s.heap m) (N : News h₀ L s.heap news) (hm : (a, listOf ys.toArray c) ∈ news)
    (h : ∀ h' tk r t, Fr h₀ L h' m → News h₀ L h' news → Ex r (Yb * n) → Q (.float r t) { s with heap := h', toks := tk }) : wpAny (model prog w) A (call (.builtin "math.fsum") [.ref a]) Q E s :=
  fsum_list hA0 (N.isList hm) K.ny K.fy fun h' tk r t hk _ hr => h h' tk r t (F.keeps hk) (N.grown hk) (hr.to K.sy)
theorem div_x {Q : Value → Shared → Prop} (K : FullOk xs ys us ws n Xb Yb pr qr) (hn : 0 < n) (hr : Ex r (Xb * n)) (h : ∀ r t, Ex r Xb → Q (.float r t) { s with toks := s.toks + 1 }) : wpAny (model prog w) A (binaryOp .Div (.float r t) (.int xs.length tk2)) Q E s := by
  rw [K.lx]
  exact float_div_int hr (by omega) K.fn rfl K.fxb h
theorem div_y {Q : Value → Shared → Prop} (K : FullOk xs ys us ws n Xb Yb pr qr) (hn : 0 < n) (hr : Ex r (Yb * n)) (h : ∀ r t, Ex r Yb → Q (.float r t) { s with toks := s.toks + 1 }) : wpAny (model prog w) A (binaryOp .Div (.float r t) (.int xs.length tk2)) Q E s := by
  rw [K.lx]
  exact float_div_int hr (by omega) K.fn rfl K.fyb h
theorem sub_x {Q : Value → Shared → Prop} {i : Nat} (K : FullOk xs ys us ws n Xb Yb pr qr) (hi : i < n) (hv : NumV v (us.getD i 0)) (hE : Ex xb Xb) (h : ∀ r t, Ex r (us.getD i 0 - Xb) → Q (.float r t) { s with toks := s.toks + 1 }) : wpAny (model prog w) A (binaryOp .Sub v (.float xb tb)) Q E s :=
  num_sub hv hE (K.dx i hi) h
theorem nums_sub {zs : List Value} (hl : zs.length = us.length) (h : ∀ i y, zs[i]? = some y → SubAt us Xb i y) : NumsAre zs (us.map fun u => u - Xb) ∧ AllF zs := by
  refine ⟨⟨by rw [List.length_map]; exact hl, fun i v hv => ?_⟩, fun v hv => ?_⟩
  · obtain ⟨r, t, rfl, hr⟩ := (h i v hv).is
    have hi : i < us.length := by
      rcases Nat.lt_or_ge i zs.length with c | c
      · omega
      · rw [List.getElem?_eq_none c] at hv; cases hv
    have e : (us.map fun u => u - Xb).getD i 0 = us.getD i 0 - Xb := by
      rw [List.getD_eq_getElem?_getD, List.getD_eq_getElem?_getD, List.getElem?_map, List.getElem?_eq_getElem hi]; rfl
    rw [e]; exact .float t hr
  · obtain ⟨i, hi, e⟩ := List.mem_iff_getElem.mp hv
    obtain ⟨r, t, rfl, _⟩ := (h i v (by rw [List.getElem?_eq_getElem hi, e])).is
    rfl
theorem getD_sub {i : Nat} (hi : i < us.length) : (us.map fun u => u - Xb).getD i 0 = us.getD i 0 - Xb := by
  rw [List.getD_eq_getElem?_getD, List.getD_eq_getElem?_getD, List.getElem?_map, List.getElem?_eq_getElem hi]; rfl
section
variable {env : Env} {elt : Expr} {x : Str} {scope : Scope} {cl : List (Str × Addr)} {Fin : Shared → List Value → List (Addr × Obj) → Prop} {ax : Addr}
theorem src_sub (K : FullOk xs ys us ws n Xb Yb pr qr) (hn : n < 200) (hh : A.handled = none) (F : Fr h₀ L s.heap m) (N : News h₀ L s.heap news) (hm : (ax, listOf xs.toArray c) ∈ news)
    (turn : ∀ (i : Nat) v I oI C oC D' m₂ zs h tk (E' : Value → Shared → Prop), i < n → NumV v (us.getD i 0) → LCg.NsObj oC m₂ → m₂ x = some v → Fr h₀ L h m → News h₀ L h ((I, oI) :: (C, oC) :: (D', LCg.lst zs) :: news) → LCg.Off3 I C D' news → ((@Ne Nat I C) ∧ (@Ne Nat I D') ∧ (@Ne Nat C D')) →
      wpAny (model prog w) A (eval elt (compEnvC scope cl C env)) (LCg.CompEnd h₀ L m ⟨h, s.gens, s.drawn, tk, s.os⟩ I oI C oC D' (LCg.lst zs) (LCg.SrcAt h₀ ax xs.toArray) (fun y news' => CompEl news (SubAt us Xb i) y news')) E' ⟨h, s.gens, s.drawn, tk, s.os⟩)
    (fin : ∀ g zs, SubL zs us Xb n → zs.length < 200 → Fin ⟨g, s.gens, s.drawn, s.toks, s.os⟩ zs news) :
    LCg.CompSrc prog w A h₀ L m env elt x scope cl Fin (.ref ax) s := by
  have z : 200 ≤ sizeLine := by decide
  have lu : us.length = n := by rw [← K.nx.1, K.lx]
  refine LCg.CompSrc.ledger hh F N hm (by rw [List.size_toArray, K.lx]; omega) fun g => ?_
  rw [List.size_toArray, K.lx]
  suffices key : ∀ (j i : Nat) (zs : List Value), i + j = n → zs.length = i → (∀ k y, zs[k]? = some y → SubAt us Xb k y) → LCg.CompRest prog w A h₀ L m env elt x scope cl { s with heap := g } (LCg.SrcAt h₀ ax xs.toArray) (fun i v => xs.toArray[i]? = some v) (Fin { s with heap := g }) j i zs news from key n 0 [] (by omega) rfl (fun k y hk => by simp at hk)
  intro j
  induction j with
  | zero =>
    intro i zs hi hz hR
    have := nums_sub (zs := zs) (us := us) (Xb := Xb) (by omega) hR
    exact LCg.CompRest.zero (fin g zs ⟨this.1, this.2, by omega⟩ (by omega))
  | succ j ih =>
    intro i zs hi hz hR
    refine LCg.CompRest.succ fun v I oI C oC D m₂ h tk E' hv hC hx F N off ne => ?_
    have hk : xs[i]? = some v := by simpa using hv
    refine wpAny_mono (turn i v I oI C oC D m₂ zs h tk E' (by omega) (K.nx.2 i v hk) hC hx F N off ne) (fun y s₂ hq => ?_) fun _ _ e => e
    obtain ⟨h', tk', nw, e, F', N', off', hS, rfl, hy'⟩ := hq
    refine ⟨h', tk', nw, e, F', N', off', hS, ih (i + 1) _ (by omega) (by simp [hz]) fun k y hky => ?_⟩
    rcases Nat.lt_or_ge k zs.length with c | c
    · rw [List.getElem?_append_left c] at hky; exact hR k y hky
    · rw [List.getElem?_append_right c] at hky
      rcases Nat.eq_zero_or_pos (k - zs.length) with e0 | e0
      · rw [e0] at hky
        have : k = i := by omega
        subst this
        cases hky
        exact hy'
      · rw [List.getElem?_eq_none (by show 1 ≤ _; exact e0)] at hky; cases hky
end
theorem sum_xx {zs : List Value} {Q : Value → Shared → Prop} (K : FullOk xs ys us ws n Xb Yb pr qr) (hn : 0 < n) (hS : SubL zs us Xb n) (hA : A.handled = none) (F : Fr h₀ L s.heap m) (N : News h₀ L s.heap news) (hm : (a, LCg.lst zs) ∈ news) (hpos : 0 < s.toks)
    (h : ∀ h' tk r t, Fr h₀ L h' m → News h₀ L h' news → Ex r (preSum qr n) → TokOk tk → Q (.float r t) { s with heap := h', toks := tk }) : wpAny (model prog w) A (call (.builtin "math.sumprod") [.ref a, .ref a]) Q E s := by
  have lu : us.length = n := by rw [← K.nx.1, K.lx]
  have hl : s.heap.IsList a zs.toArray := ⟨_, (N _ hm).1, rfl, _, rfl⟩
  refine sumprod_flt_lists hA hl hl hS.nums hS.nums rfl (by rw [hS.len]; exact hn) (.inl hS.allF) qr (fun i hi => ?_) (fun j hj => K.sxx j (by rw [hS.len] at hj; exact hj)) fun h' tk r t hk htk hr => ?_
  · rw [hS.len] at hi
    rw [getD_sub (by omega)]
    exact K.pxx i hi
  · rw [hS.len] at hr
    exact h h' tk r t (F.keeps hk) (N.grown hk) hr (.pos (Nat.lt_of_lt_of_le hpos htk))
theorem slope_ex {Q : Value → Shared → Prop} {x : UInt64} (D : FullEnd n Xb Yb pr qr Sl M) (hx : Ex x (preSum pr n)) (hv : Ex r (preSum qr n)) (hp : TokOk s.toks) (h : ∀ r t, Ex r Sl → TokOk t → Q (.float r t) { s with toks := s.toks + 1 }) : wpAny (model prog w) A (binaryOp .Div (.float x tb) (.float r t)) Q E s :=
  AutoFloatOps.truediv_1 (by rw [hv.notZero]; simpa using D.ne) (h _ _ ((hx.quo hv D.ne).ex D.sl D.fsl) hp)
theorem mul_ex {Q : Value → Shared → Prop} (D : FullEnd n Xb Yb pr qr Sl M) (hr : Ex r Sl) (hx : Ex xb Xb) (h : ∀ r t, Ex r M → Q (.float r t) { s with toks := s.toks + 1 }) : wpAny (model prog w) A (binaryOp .Mult (.float r t) (.float xb tb)) Q E s :=
  float_mul (h _ _ (hr.mul hx D.m D.fm))
theorem inter_ex {Q : Value → Shared → Prop} (D : FullEnd n Xb Yb pr qr Sl M) (hy : Ex yb Yb) (hr : Ex r M) (hp : 0 < s.toks) (h : ∀ r t, Ex r (Yb - M) → TokOk t → Q (.float r t) { s with toks := s.toks + 1 }) : wpAny (model prog w) A (binaryOp .Sub (.float yb tb) (.float r t)) Q E s :=
  float_sub (h _ _ (hy.sub hr D.fi) (.pos hp))
theorem bare_after {gs0 gs' : Array GenState} {gsx : GenState} (h0 : AllBare gs0) (hx : gsx.bare = true) (hg : GenOnlyQ gs0.size (gs0.push gsx) gs') : AllBare gs' := by
  rcases hg with rfl | ⟨⟨hsz, hk⟩, hb⟩
  · exact h0.push hx
  · intro x hx'
    obtain ⟨k, hk', e0⟩ := Array.mem_iff_getElem.mp hx'
    have hkx : gs'[k]? = some x := by rw [Array.getElem?_eq_getElem hk', e0]
    by_cases e : k = gs0.size
    · subst e; exact hb x hkx
    · rw [hk k e] at hkx
      exact (h0.push hx) x (Array.mem_of_getElem? hkx)
theorem dy_all (K : FullOk xs ys us ws n Xb Yb pr qr) : ∀ i, i < ys.length → Fits (ws.getD i 0 - Yb) := fun i hi => K.dy i (by rw [← K.ly]; exact hi)
theorem sum_xy {Q : Value → Shared → Prop} {g : Heap} {rest : List (Addr × Obj)} {a C I ax ay cyb : Addr} {oa oC oI oy oyb : Obj} {zs : List Value} {cx g0 tk5 : Nat} {gs : Array GenState} {dr : Drawn} {os : OsState} {h : Heap} {tk : Nat} (K : FullOk xs ys us ws n Xb Yb pr qr) (hpos : 0 < n) (hS : SubL zs us Xb n)
    (hA : A.in1.handled = none) (F : Fr g L h m) (N : News g L h ((a, oa) :: (C, oC) :: (I, oI) :: rest)) (hR : GenReady prog w A g a C I ay cyb oa oC oI oy oyb g0 ys.length (SubAt ws Yb) gs dr os tk5) (hlim : g.NoLimit) (htk : tk5 ≤ tk) (hlt : ∀ p ∈ rest, p.1 < a ∧ p.1 < C ∧ p.1 < I)
    (hy : (ay, oy) ∈ rest) (hyb : (cyb, oyb) ∈ rest) (hx : (ax, listOf zs.toArray cx) ∈ rest)
    (k : ∀ h' gs' tk' r t, Fr g L h' m → News g L h' rest → GenOnlyQ g0 gs gs' → Ex r (preSum pr n) → Q (.float r t) ⟨h', gs', dr, tk', os⟩) :
    wpAny (model prog w) A (call (.builtin "math.sumprod") [.ref ax, .ref a]) Q E ⟨h, gs, dr, tk, os⟩ := by
  have lu : us.length = n := by rw [← K.nx.1, K.lx]
  rw [K.ly] at hR
  exact sum_gen pr hA F N hR hlim htk hlt hy hyb hx hS.nums hS.len hpos (fun i hi => by rw [getD_sub (by omega)]; exact K.pxy i hi) K.sxy fun h' gs' tk' r t F' N' hg _ hr => k h' gs' tk' r t F' N' hg hr
theorem add_zero_ex {Q : Value → Shared → Prop} {S : Int} (hr : Ex r S) (h : ∀ r t, Ex r S → Q (.float r t) { s with toks := s.toks + 1 }) : wpAny (model prog w) A (binaryOp .Add (.float r t) (.float 0 tb)) Q E s :=
  num_add_zero (.float t hr) ex_lit0 h
end
end Mine
end

section
open PySem PySem.W PySem.Calls PyProof.Rows PySem.Spec Float64
set_option maxRecDepth 100000
set_option maxHeartbeats 1000000
namespace Mine
section
variable {prog : Program} {w : World} {A : Around} {E : Value → Shared → Prop} {s : Shared} {g : Heap} {L ay c P cyb : Addr} {m : Str → Option Value} {all : List (Addr × Obj)} {f : Obj → List (Addr × Obj)} {env : Env} {x z : Str} {px pz p1 p2 p3 pos : Pos} {iter : Expr} {scope : Scope} {cl : List (Str × Addr)} {ys : List Value} {cy : Nat} {ws : List Int} {yb : UInt64} {tb : Tok} {Y : Int} {oyb : Obj} {mg : Str → Option Value} {ps : Array Value} {Q : Value → Shared → Prop}
theorem gen_walkT (F : Fr g L s.heap m) (N : News g L s.heap all) (U : UpdF P (tabObj ps) all f) (hlim : g.NoLimit) (M : ∃ bm ob, BMod g mainGlobals mg bm ob) (hg : env.globals = mainGlobals) (hcode : env.code = .ref c)
    (hT : TabOk ps) (hcd : s.heap.get? P = some (tabObj ps) → s.heap.IsCode c P ps ∧ s.heap.TableAt c P ps) (hP : (P, tabObj ps) ∈ all)
    (hh : A.handled = none) (hco : scope.isCoroutine = false) (hclos : closureFor scope env = pure cl) (hcell : ∀ y ∈ scope.names, y.2 ≠ .cell) (h0 : scope.names.lookup (".0" : Str) = some NameKind.local)
    (hx : scope.names.lookup x = some .local) (hkind : scope.kind = .function) (hroom : A.depth < recursionLimit)
    (hd1 : (x == ("__debug__" : Str)) = false) (hd2 : (z == ("__debug__" : Str)) = false) (hd3 : (z == ("__classdict__" : Str)) = false) (hzk : scope.names.lookup z = some .free) (hzc : cl.lookup z = some cyb)
    (hy : (ay, listOf ys.toArray cy) ∈ all) (hyb : (cyb, oyb) ∈ all) (hyd : oyb.data = .cell (some (.float yb tb)))
    (hiter : ∀ Q' : Value → Shared → Prop, Q' (.ref ay) s → wpAny (model prog w) A (eval iter env) Q' E s)
    (hn : NumsAre ys ws) (hE : Ex yb Y) (hf : ∀ i, i < ys.length → Fits (ws.getD i 0 - Y))
    (h : ∀ a C I h' tk gs oa oC oI ps', TabOk ps' → gs.bare = true → Fr g L h' m → News g L h' ((a, oa) :: (C, oC) :: (I, oI) :: f (tabObj ps')) → (∀ p ∈ f (tabObj ps'), p.1 < a ∧ p.1 < C ∧ p.1 < I) →
      GenReady prog w A g a C I ay cyb oa oC oI (listOf ys.toArray cy) oyb s.gens.size ys.length (SubAt ws Y) (s.gens.push gs) s.drawn s.os tk → Q (.ref a) ⟨h', s.gens.push gs, s.drawn, tk, s.os⟩)
    (hs : ∀ x, genFold iter env x = pure x) :
    wpAny (model prog w) A (eval (.GeneratorExp (.BinOp (.Name x p1) .Sub (.Name z p2) p3) [⟨.Name x px, iter, [], 0⟩] scope pos) env) Q E s := by
  obtain ⟨bm, ob, M⟩ := M
  have hPget : s.heap.get? P = some (tabObj ps) := (N _ hP).1
  obtain ⟨hic, htab⟩ := hcd hPget
  have hyget := (N _ hy).1
  have hybget := (N _ hyb).1
  have lt_of : ∀ {b o}, s.heap.get? b = some o → b < s.heap.objs.size := fun e => Heap.lt_size e
  have hPs : P ≠ cStatics := fun e => by
    obtain ⟨_, hns, _⟩ := hlim
    obtain ⟨o, _, _, ho, _⟩ := hns
    have := (N _ hP).2.2
    rw [e, ho] at this; cases this
  have hPa : P ≠ ay := fun e => by
    have : some (tabObj ps) = some (listOf ys.toArray cy) := by rw [← hPget, e]; exact hyget
    cases this
  have hPk : P ≠ cyb := fun e => by
    have : tabObj ps = oyb := by
      have : some (tabObj ps) = some oyb := by rw [← hPget, e]; exact hybget
      exact Option.some.inj this
    rw [← this] at hyd; cases hyd
  refine gen_listT (ks := [cyb]) (F := SubAt ws Y) (P := P) (ps := ps) hh hco hclos hcell h0 hx hkind hroom hcode hic htab hT (by rw [hg]; exact M.keeps F.keep) (hlim.keeps F.keep) hPs ⟨_, hyget, rfl, _, rfl⟩ hiter
    (fun b hb => by rw [List.mem_singleton.mp hb]; exact lt_of hybget) (fun hm => hPk (List.mem_singleton.mp hm)) hPa ?_ ?_ hs
  · intro c' C A' E' i v t m₂ hA hD hv hns hm hk
    have hil : i < ys.length := by
      rcases Nat.lt_or_ge i ys.length with h | h
      · exact h
      · rw [List.getElem?_eq_none h] at hv; cases hv
    refine wpAny_BinOp (eval_local hd1 hkind hx hns hm (eval_free hd2 hkind hzk hzc ⟨_, hk cyb (List.mem_singleton.mpr rfl) _ hybget, hyd⟩ hd3 ?_))
    exact num_sub (hn.2 i v hv) hE (hf i hil) fun r t' hr => ⟨⟨r, t', rfl, hr⟩, t.heap, t.toks + 1, rfl, fun _ _ e => e⟩
  · intro a C I ps' h₅ tk gs oa oC oI hT' hgb hkeep hPn ha hC hI la lC lI naC naI nCI hG
    have hLlt : L < s.heap.objs.size := F.ns.lt
    have inb : ∀ p ∈ all, p.1 < s.heap.objs.size := fun p hp => Heap.lt_size (N p hp).1
    have hLP : L ≠ P := Ne.symm (N _ hP).2.1
    have none_of : ∀ b, @LE.le Nat _ s.heap.objs.size b → g.get? b = none := fun b hb => by
      cases e : g.get? b with
      | none => rfl
      | some o => exact absurd (Heap.lt_size (F.keep b o e)) (Nat.not_lt.mpr hb)
    obtain ⟨pre, post, e1, e2, d1, d2⟩ := U.split
    have keepb : ∀ b o, g.get? b = some o → h₅.get? b = some o := fun b o e => hkeep b o (fun eb => by
      have := (N _ hP).2.2
      rw [← eb, e] at this; cases this) (F.keep b o e)
    have inf : ∀ p ∈ f (tabObj ps'), ∃ q ∈ all, q.1 = p.1 := fun p hp => by
      rw [e2] at hp
      rcases List.mem_append.mp hp with hp | hp
      · exact ⟨p, by rw [e1]; exact List.mem_append_left _ hp, rfl⟩
      · rcases List.mem_cons.mp hp with rfl | hp
        · exact ⟨_, hP, rfl⟩
        · exact ⟨p, by rw [e1]; exact List.mem_append_right _ (List.mem_cons_of_mem _ hp), rfl⟩
    refine h a C I h₅ tk gs oa oC oI ps' hT' hgb ⟨F.ns.at' fun o e => hkeep L o hLP e, keepb, F.above⟩ ?_ (fun p hp => by
      obtain ⟨q, hq, e⟩ := inf p hp
      rw [← e]
      exact ⟨Nat.lt_of_lt_of_le (inb q hq) la, Nat.lt_of_lt_of_le (inb q hq) lC, Nat.lt_of_lt_of_le (inb q hq) lI⟩) (gen_ready hlim keepb ha hC hI (hkeep _ _ (Ne.symm hPa) hyget) (hkeep _ _ (Ne.symm hPk) hybget) hG)
    · intro p hp
      rcases List.mem_cons.mp hp with rfl | hp
      · exact ⟨ha, Nat.ne_of_gt (Nat.lt_of_lt_of_le hLlt la), none_of _ la⟩
      · rcases List.mem_cons.mp hp with rfl | hp
        · exact ⟨hC, Nat.ne_of_gt (Nat.lt_of_lt_of_le hLlt lC), none_of _ lC⟩
        · rcases List.mem_cons.mp hp with rfl | hp
          · exact ⟨hI, Nat.ne_of_gt (Nat.lt_of_lt_of_le hLlt lI), none_of _ lI⟩
          · rw [e2] at hp
            rcases List.mem_append.mp hp with hp | hp
            · have hm : p ∈ all := by rw [e1]; exact List.mem_append_left _ hp
              exact ⟨hkeep _ _ (d1 p hp) (N p hm).1, (N p hm).2⟩
            · rcases List.mem_cons.mp hp with rfl | hp
              · exact ⟨hPn, (N _ hP).2⟩
              · have hm : p ∈ all := by rw [e1]; exact List.mem_append_right _ (List.mem_cons_of_mem _ hp)
                exact ⟨hkeep _ _ (d2 p hp) (N p hm).1, (N p hm).2⟩
end
end Mine
end

section
open PySem PySem.W PySem.Calls PyProof.Rows
set_option maxRecDepth 100000
set_option maxHeartbeats 4000000
namespace Mine
theorem zz_LRFa : True := by
  w_top off
  k_with_none
  trivial
section
variable {prog : Program} {w : World} {A : Around} {E : Value → Shared → Prop} {s : Shared} {h₀ : Heap} {L a : Addr} {news : List (Addr × Obj)} {xs : List Value} {c : Nat}
theorem my_len {Q : Value → Shared → Prop} (N : News h₀ L s.heap news) (hm : (a, W.listOf xs.toArray c) ∈ news) (hf : xs.length < 200) (h : Q (.int xs.length (s.toks + 1)) { s with toks := s.toks + 1 + 1 }) :
    wpAny (model prog w) A (call (.builtin "len") [.ref a]) Q E s := by
  refine len_list (N.isList hm) (by simp; omega) ?_
  simpa using h
end
structure GenFact (f : Prop) : Prop where
  is : f
theorem below_ne {news : List (Addr × Obj)} {L c : Addr} (h : ∀ p ∈ news, p.1 < L) (hle : @LE.le Nat _ L c) : ∀ p ∈ news, p.1 ≠ c := fun p hp => Nat.ne_of_lt (Nat.lt_of_lt_of_le (h p hp) hle)
local macro_rules | `(tactic| k_all) => `(tactic| first | assumption | exact below_ne (by assumption) (by first | exact Nat.le_refl _ | exact Nat.le_add_right _ _ | omega))
theorem is_lr {h₀ h : Heap} {L t dx : Addr} {v1 v2 : Value} {rest : List (Addr × Obj)} (N : News h₀ L h ((t, lrObj 173 dx v1 v2) :: rest)) : IsLR h t := ⟨_, _, _, (N _ (.head _)).1⟩
theorem lt_of_all {d : Addr} : ∀ {l : List (Addr × Obj)}, AllLt d l → ∀ p ∈ l, p.1 < d
  | [], _, _, hm => by cases hm
  | q :: r, h, p, hm => by
    rcases List.mem_cons.mp hm with rfl | hm
    · exact h.1
    · exact lt_of_all h.2 p hm
theorem lt5 {a b c d e t : Addr} {news : List (Addr × Obj)} (h : a < t ∧ b < t ∧ c < t ∧ d < t ∧ e < t ∧ AllLt t news) : ∀ p ∈ news, p.1 < t := lt_of_all h.2.2.2.2.2
theorem news_subF {h₀ h : Heap} {L : Addr} {n₁ n₂ : List (Addr × Obj)} (N : News h₀ L h n₁) (hs : ∀ q ∈ n₂, q ∈ n₁) : News h₀ L h n₂ := fun q hq => N q (hs q hq)
theorem sub7 {α : Type} {a b c d e f g : α} {l : List α} : ∀ q ∈ a :: b :: g :: l, q ∈ a :: b :: c :: d :: e :: f :: g :: l := fun q hq => by
  rcases List.mem_cons.mp hq with rfl | hq
  · exact .head _
  · rcases List.mem_cons.mp hq with rfl | hq
    · exact .tail _ (.head _)
    · exact .tail _ (.tail _ (.tail _ (.tail _ (.tail _ (.tail _ hq)))))
theorem two_lt {n : Nat} (h : 2 ≤ n) : 0 < n := by omega
theorem zz_LRFa_2 : True := by
  k_with "my call builtin:len" =>
    (k_here; (with_reducible show wpAny _ _ (call (Value.builtin _) [Value.ref _]) _ _ _); (refine' my_len ?zz5k1 ?zz5k2 ?zz5k3 ?_; (case zz5k1 => k_asm); (case zz5k2 => k_ownIn); (case zz5k3 => assumption); k_whole))
  k_with "my binaryOp Add float" =>
    (k_here; (refine' num_add_zero ?zz6k1 ?zz6k2 ?_; (case zz6k1 => assumption); (case zz6k2 => exact ex_lit0)); intro rzz6' tzz6' r1zz6')
  k_with "my exec Try cons cons nil nil" =>
    (k_here; (refine wpAny_Try_except ?_); (try dsimp only))
  k_with "my ite" =>
    (k_here; first | (refine ite_pos (by (simp only [bne_iff_ne, beq_iff_eq, ne_eq, decide_eq_true_eq]; omega)) ?_) | (refine ite_neg (by (simp only [bne_iff_ne, beq_iff_eq, ne_eq, decide_eq_true_eq]; omega)) ?_))
  k_with "my call ref nil" =>
    (k_here; (refine' lr_make ?zz9k1 ?zz9k2 ?_ ?zz9k4; (case zz9k1 => k_asm); (case zz9k2 => k_asm); (case zz9k4 => k_asm); k_whole))
  k_with "my call ref cons cons" =>
    (k_here; (refine wpAny_call ?_); (refine' code_def ?zz10k1 ?zz10k2 ?zz10k3 ?zz10k4 ?zz10k5 ?zz10kA ?zz10kF ?zz10kK ?zz10k6 ?zz10k7 ?zz10k8 ?zz10k9 ?zz10kB ?_ ?zz10c2 ?zz10c3 ?zz10c4 ?zz10c5; (case zz10kA => exact rfl); (case zz10kF => exact rfl); (case zz10kK => exact rfl); (case zz10k1 => k_asm); (case zz10k2 => k_asm); (case zz10k3 => k_asm); (case zz10k4 => k_asm); (case zz10k5 => k_asm); (case zz10k6 => k_is); (case zz10k7 => k_is); (case zz10k8 => ktr_room); (case zz10k9 => exact BindsTo.of_eq rfl); (case zz10c5 => decide); (case zz10kB => exact locs rfl); (case zz10c2 => exact rfl); (case zz10c3 => exact rfl); (case zz10c4 => exact rfl); k_whole; intro gzz10' Lzz10' hzz10' FGzz10' Fzz10' Nzz10' Bzz10' Xzz10' Tzz10'; (try dsimp only); (try k_lift Bzz10'); (try k_fold)))
  k_with "my getMethod type:tuple" =>
    (k_here; refine' method_type ?zz11F ?zz11X ?zz11m (by decide +kernel) ?zz11e ?zz11h ?_; (case zz11F => k_asm); (case zz11X => k_asm); (case zz11m => exact meta_tuple); (case zz11e => k_dflt k_is); (case zz11h => k_handed))
  k_with "my call builtin:tuple.__new__" =>
    (k_here; (refine' lr_new ?zz12k1 ?zz12k2 ?zz12k3 ?_ ?zz12k4; (case zz12k1 => k_asm); (case zz12k2 => k_asm); (case zz12k3 => k_mem); (case zz12k4 => k_asm); k_whole; intro tzz12' dxzz12' hzz12' tkzz12' Fzz12' Nzz12' hkzz12' l1zz12 l2zz12; (try k_lt l1zz12); (try k_lt2 l2zz12)))
  k_with "my exec Raise some none" =>
    (k_here; (with_reducible show wpAny _ _ (exec (Stmt.Raise (some (Expr.Call (Expr.Name _ _) (_ :: _) [] _)) none _) (envOfC _ _ _ _ _)) _ _ _); k_dflt (refine' raise_any ?zz13O PySem.F.excBase_ValueError ?zz13h ?zz13n ?_ ?zz13a ?zz13b; (case zz13O => exact own_of_in (by k_asm) (by k_asm) (by k_is) (by k_exc)); (case zz13h => rfl); (case zz13n => (intro Qzz13 hQzz13; exact nameX_K (by k_asm) (by k_asm) (by k_asm) (by k_is) hQzz13)); (case zz13a => rfl); (case zz13b => rfl); k_whole))
  k_with "my leaving ref" =>
    (k_here; (with_reducible show wpAny _ _ (leaving (envOfC _ _ _ _ _) _) _ _ _); (refine' leave_raise_any ?zz14k1 ?zz14k0 ?zz14k2 ?zz14k3 ?zz14kf ?zz14kk ?_; (case zz14k0 => assumption); (case zz14k1 => assumption); (case zz14k2 => assumption); (case zz14k3 => k_asm); (case zz14kf => rfl); (case zz14kk => (show ScopeKind.function ≠ ScopeKind.module; decide)); k_whole; intro hzz14' tzz14' Rzz14' Uzz14'; (try dsimp only at Rzz14' Uzz14' ⊢)))
  k_with "my execs cons" =>
    (k_here; (rename Mine.Ex _ (preSum _ _) => ePzz15'); dsimp only)
  k_with "my execs cons" =>
    (k_here; (rename Mine.Ex _ (preSum _ _) => ePzz16'); k_dflt (refine tok_keep ?_); intro tkzz16' kzz16')
  k_with "my call builtin:math.fsum" =>
    (k_here; first
  | ((refine' fsum_x (by assumption) ?zz17h ?zz17h0 ?zz17F ?zz17N ?zz17m ?_; (case zz17h => rfl); (case zz17h0 => rfl); (case zz17F => k_asm); (case zz17N => k_asm); (case zz17m => k_ownIn)); intro hzz17' tkzz17' rzz17' tzz17' Fzz17' Nzz17' ezz17')
  | ((refine' fsum_y (by assumption) ?zz17h ?zz17h0 ?zz17F ?zz17N ?zz17m ?_; (case zz17h => rfl); (case zz17h0 => rfl); (case zz17F => k_asm); (case zz17N => k_asm); (case zz17m => k_ownIn)); intro hzz17' tkzz17' rzz17' tzz17' Fzz17' Nzz17' ezz17'))
  k_with "my binaryOp Div float int" =>
    (k_here; first
  | ((refine' div_x (by assumption) (two_lt (by assumption)) ?zz18r ?_; (case zz18r => assumption)); intro rzz18' tzz18' ezz18')
  | ((refine' div_y (by assumption) (two_lt (by assumption)) ?zz18r ?_; (case zz18r => assumption)); intro rzz18' tzz18' ezz18'))
  k_with "my eval ListComp" =>
    (k_here; k_dflt (refine LCg.ListComp_U (F₀ := by k_asm) (by with_unfolding_all rfl) (by decide) (by rfl) (by decide) (by rfl) ?_))
  k_with "my exec Assign cons ListComp" =>
    (k_here; k_dflt (refine LCg.Assign_ListComp_U (F₀ := by k_asm) (by rfl) (by with_unfolding_all rfl) (by with_unfolding_all rfl) (by decide) (by rfl) (by decide) (by rfl) (by rfl) (by rfl) ?_))
  k_with "my CompSrc" =>
    (k_here; k_dflt (
  (refine' src_sub ?zz21K ?zz21h2 ?zz21hh ?zz21F ?zz21N ?zz21m (fun izz21' vzz21' Izz21' oIzz21' Czz21' oCzz21' Dzz21' mzz21' yszz21' hzz21' tkzz21' Ezz21' hizz21' hvzz21' hCzz21' hxzz21' Fzz21' Nzz21' offzz21' nezz21' => ?_) (fun gzz21' yszz21' hSzz21' hlzz21' => ?_); (case zz21K => assumption); (case zz21h2 => assumption); (case zz21hh => rfl); (case zz21F => k_asm); (case zz21N => k_asm); (case zz21m => k_ownIn); (all_goals (try (simp only [LCg.Off3, and_true] at offzz21'))))))
  k_with "my binaryOp Sub float" =>
    (k_here; first
  | ((refine' sub_x (by assumption) ?zz22i ?zz22v ?zz22E ?_; (case zz22i => assumption); (case zz22v => assumption); (case zz22E => assumption)); intro rzz22' tzz22' ezz22')
  | ((refine' inter_ex (by assumption) ?zz22y ?zz22r ?zz22p ?_; (case zz22y => assumption); (case zz22r => assumption); (case zz22p => exact Nat.succ_pos _)); intro rzz22' tzz22' ezz22' kzz22'))
  k_with "my binaryOp Sub float float" =>
    (k_here; ((refine' inter_ex (by assumption) ?zz23y ?zz23r ?zz23p ?_; (case zz23y => assumption); (case zz23r => assumption); (case zz23p => exact Nat.succ_pos _)); intro rzz23' tzz23' ezz23' kzz23'))
  k_with "my CompEnd" =>
    (refine' compEnd_el ?zz24F ?zz24N ?zz24sub ?zz24off ?zz24S ?zz24r; (case zz24r => exact SubAt.mk ⟨_, _, rfl, by assumption⟩); (case zz24F => assumption); (case zz24N => assumption); (case zz24sub => kcf_all); (case zz24off => first | assumption | (simp only [LCg.Off3, and_true]; done) | (simp only [LCg.Off3, and_true]; assumption)); (case zz24S => first | lcg_src | assumption | exact Or.inr ⟨_, by k_ownIn, rfl, _, rfl⟩))
  k_with "my eval GeneratorExp" =>
    (k_here; k_dflt ((refine' gen_walkT (P := 179) (c := 181) ?zz25F ?zz25N ?zz25U ?zz25lim ?zz25M ?zz25g ?zz25code ?zz25tt ?zz25cd ?zz25P ?zz25hh ?zz25co ?zz25clos ?zz25cell ?zz25h0 ?zz25x ?zz25kind ?zz25room ?zz25d1 ?zz25d2 ?zz25d3 ?zz25zk ?zz25zc ?zz25y ?zz25yb ?zz25yd ?zz25iter ?zz25n ?zz25E ?zz25f ?_ ?zz25s; (case zz25F => k_asm); (case zz25N => k_asm); (case zz25U => k_updF); (case zz25lim => exact Top.nolimit (by assumption)); (case zz25M => exact bmod_of_top (by assumption)); (case zz25g => rfl); (case zz25code => rfl); (case zz25tt => assumption); (case zz25cd => exact fun hPzz25 => (lr_code (by assumption) hPzz25 (Frag.In.keeps (by k_asm) (Fr.keep (by assumption)))).2); (case zz25P => k_mem); (case zz25hh => rfl); (case zz25co => rfl); (case zz25clos => with_unfolding_all rfl); (case zz25cell => decide); (case zz25h0 => rfl); (case zz25x => rfl); (case zz25kind => rfl); (case zz25room => ktr_room); (case zz25d1 => rfl); (case zz25d2 => rfl); (case zz25d3 => rfl); (case zz25zk => rfl); (case zz25zc => rfl); (case zz25iter => (intro Qzz25' hQzz25'; exact eval_local rfl rfl rfl (Fr.ns (by assumption)) (by with_unfolding_all rfl) hQzz25')); (case zz25y => k_ownIn); (case zz25yb => k_mem); (case zz25yd => assumption); (case zz25n => exact FullOk.ny (by assumption)); (case zz25E => assumption); (case zz25f => exact dy_all (by assumption)); (case zz25s => exact fun _ => rfl)); intro azz25' Czz25' Izz25' hzz25' tkzz25' gszz25' oazz25' oCzz25' oIzz25' pszz25' hTzz25' hbzz25' Fzz25' Nzz25' ltzz25' Rzz25'))
  k_with "my call builtin:math.sumprod" =>
    (k_here; k_dflt (first
  | ((refine' sum_xx (by assumption) (two_lt (by assumption)) ?zz26S ?zz26A ?zz26F ?zz26N ?zz26m ?zz26p ?_; (case zz26S => assumption); (case zz26A => rfl); (case zz26F => k_asm); (case zz26N => k_asm); (case zz26m => k_mem); (case zz26p => first | exact TokOk.lt (by assumption) | exact Nat.succ_pos _)); intro hzz26' tkzz26' rzz26' tzz26' Fzz26' Nzz26' ezz26' kzz26')
  | ((refine' sum_xy (by assumption) (two_lt (by assumption)) ?zz26S ?zz26A ?zz26F ?zz26N ?zz26R ?zz26lim ?zz26tk ?zz26lt ?zz26y ?zz26yb ?zz26x ?_; (case zz26S => assumption); (case zz26A => rfl); (case zz26F => k_asm); (case zz26N => k_asm); (case zz26R => assumption); (case zz26lim => exact Top.nolimit (by assumption)); (case zz26tk => first | exact Nat.le_refl _ | omega); (case zz26lt => assumption); (case zz26y => k_ownIn); (case zz26yb => k_mem); (case zz26x => k_mem)); intro hzz26' gszz26' tkzz26' rzz26' tzz26' Fzz26' Nzz26' Gzz26' ezz26')))
  k_with "my binaryOp Add float float" =>
    (k_here; ((refine' add_zero_ex ?zz27x ?_; (case zz27x => assumption)); intro rzz27' tzz27' ezz27'))
  k_with "my binaryOp Div float float" =>
    (k_here; ((refine' slope_ex (by assumption) ?zz28x ?zz28v ?zz28p ?_; (case zz28x => assumption); (case zz28v => assumption); (case zz28p => assumption)); intro rzz28' tzz28' ezz28' kzz28'))
  k_with "my binaryOp Mult float float" =>
    (k_here; ((refine' mul_ex (by assumption) ?zz29x ?zz29v ?_; (case zz29x => assumption); (case zz29v => assumption)); intro rzz29' tzz29' ezz29'))
  trivial
/-- how the call of linear_regression binds its names -/
structure BindLr (w : World) (args : Args) (b : Bool) (ax ay : Addr) : Prop where
  is : ∀ (s : Shared) (oc : Value) (od : Option Addr) (fd : FuncData) (osl : Array (Option Value)), (Mine.hd.heap_39 w.params).lookup 182 = some ⟨oc, od, .func fd, osl⟩ → (Mine.hd.heap_39 w.params).In s.heap → BindsTo s fd args [(Str.ofString "x", .ref ax), (Str.ofString "y", .ref ay), (Str.ofString "proportional", .bool b)]
theorem bind_none {w : World} {h : Heap} {ax ay : Addr} : (Mine.hd.heap_39 w.params).In h → PySem.Challenge.rw_kq0023_01 = PySem.Challenge.rw_kq0023_01 ∧ BindLr w ⟨[.ref ax, .ref ay], []⟩ false ax ay := by
  k_fill
  intro X
  refine' have_eq (x := (Mine.hd.heap_39 w.params).lookup 182) ?e ?k
  case e => k_is
  intro hK
  refine ⟨rfl, ⟨fun s oc od fd osl e XX => ?_⟩⟩
  rw [hK] at e
  cases e
  refine' kp_binds ?kx ?ke
  case kx => exact XX
  case ke => exact fun _ => rfl
theorem bind_kw {w : World} {h : Heap} {ax ay : Addr} {b : Bool} : (Mine.hd.heap_39 w.params).In h → PySem.Challenge.rw_kq0023_01 = PySem.Challenge.rw_kq0023_01 ∧ BindLr w ⟨[.ref ax, .ref ay], [(Str.ofString "proportional", .bool b)]⟩ b ax ay := by
  k_fill
  intro X
  refine' have_eq (x := (Mine.hd.heap_39 w.params).lookup 182) ?e ?k
  case e => k_is
  intro hK
  refine ⟨rfl, ⟨fun s oc od fd osl e XX => ?_⟩⟩
  rw [hK] at e
  cases e
  exact BindsTo.of_eq rfl
theorem lr_fullG {w : World} {dp un : Nat} {gd : Option (List Code)} {cn : Str} {cs : Scope} {a : Addr} {ccd : Value} {cl : List (Str × Addr)} {outer : List Env} {A₀ : Around} {base h₀ : Heap} {L : Addr} {m : Str → Option Value} {s : Shared} {Q E : Value → Shared → Prop}
    {mean : ExcName → Option Value} {mg mb : Str → Option Value} {news : List (Addr × Obj)} {ps : Array Value} {ax ay : Addr} {args : Args} (hbl : BindLr w args false ax ay) {xs ys : List Value} {cx cy n : Nat} {us ws : List Int} {Xb Yb Sl M : Int} {pr qr : Nat → Int}
    (B : Below A₀ base outer h₀) (F : Fr h₀ L s.heap m) (N : News h₀ L s.heap ((179, tabObj ps) :: news)) (hT : TabOk ps) (T : Top Mine.vw (looseW Mine.vw [Str.ofString "_tuplegetter", Str.ofString "LinearRegression", Str.ofString "linear_regression"]) mean mg mb h₀) (hk : cs.kind = .function) (hd : dp + 5 < recursionLimit) (hu : un + 40 < cLine)
    (hx : (ax, listOf xs.toArray cx) ∈ news) (hy : (ay, listOf ys.toArray cy) ∈ news) (hxl : xs.length < 200) (hyl : ys.length < 200) (hlen : xs.length = ys.length) (hn2 : 2 ≤ xs.length) (hn : 2 ≤ n) (h200 : n < 200) (K : FullOk xs ys us ws n Xb Yb pr qr) (D : FullEnd n Xb Yb pr qr Sl M) (hgs : AllBare s.gens) (h9 : ∀ p ∈ news, p.1 ≠ 179)
    (hQ : ∀ t dx h' tk gs' r1 r2 t1 t2 ps', TabOk ps' → Fr h₀ L h' m → News h₀ L h' ((t, lrObj 173 dx (.float r1 t1) (.float r2 t2)) :: (dx, emptyDict) :: (179, tabObj ps') :: news) → (∀ p ∈ news, p.1 < dx) → dx < t → Mine.Ex r1 Sl → Mine.Ex r2 (Yb - M) → TokOk t1 → TokOk t2 → AllBare gs' → Q (.ref t) ⟨h', gs', s.drawn, tk, s.os⟩) :
    (Mine.hd.heap_39 w.params).In h₀ → wpAny (model PySem.Challenge.rw_kq0023_01.row.prog w) (ktrTop dp un gd cn cs L a ccd cl outer) (call (.ref 182) args.pos args.kw) Q E s := by
  k_fill
  intro X
  refine wpAny_call ?_
  refine' code_defC ?k1 ?k2 ?k3 ?k4 ?k5 ?kA ?kF ?kK ?k6 ?k7 ?k8 ?k9 ?kB ?kD ?_ ?c2 ?c3 ?c4; (case kA => exact rfl); (case kF => exact rfl); (case kK => exact hk); (case k1 => k_asm); (case k2 => k_asm); (case k3 => k_asm); (case k4 => k_asm); (case k5 => k_asm); (case k6 => k_is); (case k7 => k_is); (case k8 => ktr_room)
  case k9 => exact BindLr.is (by assumption) _ _ _ _ _ (by k_is) (by k_in)
  case kB => exact rfl
  case kD => decide +kernel
  case c2 => exact rfl
  case c3 => exact rfl
  case c4 => exact rfl
  intro g' L' h' tk' cells' FG' F' N' Y' B' X' T' l1
  have l0 : ∀ p ∈ news, p.1 < L' := fun p hp => l1 p (.tail _ hp)
  (try k_lt l1)
  k_cells Y'
  (try simp only [List.cons_append, List.nil_append] at N')
  (try dsimp only)
  (try k_fold)
  k_steps
  all_goals (try k_data)
  · exact is_lr (by assumption)
  · refine' hQ _ _ _ _ _ _ _ _ _ _ ?tb ?f ?n ?l ?l2 ?r1 ?r2 ?k1 ?k2 ?b
    case f => assumption
    case tb => assumption
    case n => exact news_subF (by assumption) sub7
    case l => exact lt5 (by assumption)
    case l2 => assumption
    case r1 => assumption
    case r2 => assumption
    case k1 => assumption
    case k2 => assumption
    case b => exact bare_after hgs (by assumption) (by assumption)
theorem lr_full {w : World} {dp un : Nat} {gd : Option (List Code)} {cn : Str} {cs : Scope} {a : Addr} {ccd : Value} {cl : List (Str × Addr)} {outer : List Env} {A₀ : Around} {base h₀ : Heap} {L : Addr} {m : Str → Option Value} {s : Shared} {Q E : Value → Shared → Prop}
    {mean : ExcName → Option Value} {mg mb : Str → Option Value} {news : List (Addr × Obj)} {ps : Array Value} {ax ay : Addr} {xs ys : List Value} {cx cy n : Nat} {us ws : List Int} {Xb Yb Sl M : Int} {pr qr : Nat → Int}
    (B : Below A₀ base outer h₀) (F : Fr h₀ L s.heap m) (N : News h₀ L s.heap ((179, tabObj ps) :: news)) (hT : TabOk ps) (T : Top Mine.vw (looseW Mine.vw [Str.ofString "_tuplegetter", Str.ofString "LinearRegression", Str.ofString "linear_regression"]) mean mg mb h₀) (hk : cs.kind = .function) (hd : dp + 5 < recursionLimit) (hu : un + 40 < cLine)
    (hx : (ax, listOf xs.toArray cx) ∈ news) (hy : (ay, listOf ys.toArray cy) ∈ news) (hxl : xs.length < 200) (hyl : ys.length < 200) (hlen : xs.length = ys.length) (hn2 : 2 ≤ xs.length) (hn : 2 ≤ n) (h200 : n < 200) (K : FullOk xs ys us ws n Xb Yb pr qr) (D : FullEnd n Xb Yb pr qr Sl M) (hgs : AllBare s.gens) (h9 : ∀ p ∈ news, p.1 ≠ 179)
    (hQ : ∀ t dx h' tk gs' r1 r2 t1 t2 ps', TabOk ps' → Fr h₀ L h' m → News h₀ L h' ((t, lrObj 173 dx (.float r1 t1) (.float r2 t2)) :: (dx, emptyDict) :: (179, tabObj ps') :: news) → (∀ p ∈ news, p.1 < dx) → dx < t → Mine.Ex r1 Sl → Mine.Ex r2 (Yb - M) → TokOk t1 → TokOk t2 → AllBare gs' → Q (.ref t) ⟨h', gs', s.drawn, tk, s.os⟩) :
    (Mine.hd.heap_39 w.params).In h₀ → wpAny (model PySem.Challenge.rw_kq0023_01.row.prog w) (ktrTop dp un gd cn cs L a ccd cl outer) (call (.ref 182) [.ref ax, .ref ay]) Q E s := fun X =>
  lr_fullG (args := ⟨[.ref ax, .ref ay], []⟩) (bind_none X).2 B F N hT T hk hd hu hx hy hxl hyl hlen hn2 hn h200 K D hgs h9 hQ X
theorem lr_fullK {w : World} {dp un : Nat} {gd : Option (List Code)} {cn : Str} {cs : Scope} {a : Addr} {ccd : Value} {cl : List (Str × Addr)} {outer : List Env} {A₀ : Around} {base h₀ : Heap} {L : Addr} {m : Str → Option Value} {s : Shared} {Q E : Value → Shared → Prop}
    {mean : ExcName → Option Value} {mg mb : Str → Option Value} {news : List (Addr × Obj)} {ps : Array Value} {ax ay : Addr} {xs ys : List Value} {cx cy n : Nat} {us ws : List Int} {Xb Yb Sl M : Int} {pr qr : Nat → Int}
    (B : Below A₀ base outer h₀) (F : Fr h₀ L s.heap m) (N : News h₀ L s.heap ((179, tabObj ps) :: news)) (hT : TabOk ps) (T : Top Mine.vw (looseW Mine.vw [Str.ofString "_tuplegetter", Str.ofString "LinearRegression", Str.ofString "linear_regression"]) mean mg mb h₀) (hk : cs.kind = .function) (hd : dp + 5 < recursionLimit) (hu : un + 40 < cLine)
    (hx : (ax, listOf xs.toArray cx) ∈ news) (hy : (ay, listOf ys.toArray cy) ∈ news) (hxl : xs.length < 200) (hyl : ys.length < 200) (hlen : xs.length = ys.length) (hn2 : 2 ≤ xs.length) (hn : 2 ≤ n) (h200 : n < 200) (K : FullOk xs ys us ws n Xb Yb pr qr) (D : FullEnd n Xb Yb pr qr Sl M) (hgs : AllBare s.gens) (h9 : ∀ p ∈ news, p.1 ≠ 179)
    (hQ : ∀ t dx h' tk gs' r1 r2 t1 t2 ps', TabOk ps' → Fr h₀ L h' m → News h₀ L h' ((t, lrObj 173 dx (.float r1 t1) (.float r2 t2)) :: (dx, emptyDict) :: (179, tabObj ps') :: news) → (∀ p ∈ news, p.1 < dx) → dx < t → Mine.Ex r1 Sl → Mine.Ex r2 (Yb - M) → TokOk t1 → TokOk t2 → AllBare gs' → Q (.ref t) ⟨h', gs', s.drawn, tk, s.os⟩) :
    (Mine.hd.heap_39 w.params).In h₀ → wpAny (model PySem.Challenge.rw_kq0023_01.row.prog w) (ktrTop dp un gd cn cs L a ccd cl outer) (call (.ref 182) [.ref ax, .ref ay] [(Str.ofString "proportional", .bool false)]) Q E s := fun X =>
  lr_fullG (args := ⟨[.ref ax, .ref ay], [(Str.ofString "proportional", .bool false)]⟩) (bind_kw X).2 B F N hT T hk hd hu hx hy hxl hyl hlen hn2 hn h200 K D hgs h9 hQ X
end Mine
end

section
open PySem PySem.W PySem.Calls PyProof.Rows
set_option maxRecDepth 100000
set_option maxHeartbeats 4000000
namespace Mine
theorem zz_LRGa : True := by
  w_top off
  k_with_none
  trivial
theorem raised_tail {base G h : Heap} {l : List Env} {e t : Addr} {cls : Value} {vs : List Value} {p q : Addr × Obj} {news : List (Addr × Obj)} (R : RaisedS base G l e cls t vs (p :: q :: news) h) : RaisedS base G l e cls t vs news h := raised_sub R fun _ h => .tail _ (.tail _ h)
theorem raised_tail3 {base G h : Heap} {l : List Env} {e t : Addr} {cls : Value} {vs : List Value} {p q r : Addr × Obj} {news : List (Addr × Obj)} (R : RaisedS base G l e cls t vs (p :: q :: r :: news) h) : RaisedS base G l e cls t vs news h := raised_sub R fun _ h => .tail _ (.tail _ (.tail _ h))
structure FlatEnd (n : Nat) (qr : Nat → Int) : Prop where
  z : preSum qr n = 0
theorem flat_div {prog : Program} {w : World} {A : Around} {E : Value → Shared → Prop} {s : Shared} {n : Nat} {qr : Nat → Int} {r x : UInt64} {t tb : Tok} {Q : Value → Shared → Prop} (Z : FlatEnd n qr) (hA : A.handled = none) (hv : Mine.Ex r (preSum qr n)) (h : ∀ h' tk e, Heap.NewExc s.heap h' e "ZeroDivisionError" → E (.ref e) { s with heap := h', toks := tk }) : wpAny (model prog w) A (binaryOp .Div (.float x tb) (.float r t)) Q E s :=
  num_div_zero hA (.float t (hv.to Z.z)) h
local macro_rules | `(tactic| k_all) => `(tactic| first | assumption | exact below_ne (by assumption) (by first | exact Nat.le_refl _ | exact Nat.le_add_right _ _ | omega))
theorem zz_LRGa_3 : True := by
  k_with "my call builtin:len" =>
    (k_here; (with_reducible show wpAny _ _ (call (Value.builtin _) [Value.ref _]) _ _ _); (refine' my_len ?zz30k1 ?zz30k2 ?zz30k3 ?_; (case zz30k1 => k_asm); (case zz30k2 => k_ownIn); (case zz30k3 => assumption); k_whole))
  k_with "my binaryOp Add float" =>
    (k_here; (refine' num_add_zero ?zz31k1 ?zz31k2 ?_; (case zz31k1 => assumption); (case zz31k2 => exact ex_lit0)); intro rzz31' tzz31' r1zz31')
  k_with "my exec Try cons cons nil nil" =>
    (k_here; (refine wpAny_Try_except ?_); (try dsimp only))
  k_with "my ite" =>
    (k_here; first | (refine ite_pos (by (simp only [bne_iff_ne, beq_iff_eq, ne_eq, decide_eq_true_eq]; omega)) ?_) | (refine ite_neg (by (simp only [bne_iff_ne, beq_iff_eq, ne_eq, decide_eq_true_eq]; omega)) ?_))
  k_with "my call ref nil" =>
    (k_here; (refine' lr_make ?zz34k1 ?zz34k2 ?_ ?zz34k4; (case zz34k1 => k_asm); (case zz34k2 => k_asm); (case zz34k4 => k_asm); k_whole))
  k_with "my call ref cons cons" =>
    (k_here; (refine wpAny_call ?_); (refine' code_def ?zz35k1 ?zz35k2 ?zz35k3 ?zz35k4 ?zz35k5 ?zz35kA ?zz35kF ?zz35kK ?zz35k6 ?zz35k7 ?zz35k8 ?zz35k9 ?zz35kB ?_ ?zz35c2 ?zz35c3 ?zz35c4 ?zz35c5; (case zz35kA => exact rfl); (case zz35kF => exact rfl); (case zz35kK => exact rfl); (case zz35k1 => k_asm); (case zz35k2 => k_asm); (case zz35k3 => k_asm); (case zz35k4 => k_asm); (case zz35k5 => k_asm); (case zz35k6 => k_is); (case zz35k7 => k_is); (case zz35k8 => ktr_room); (case zz35k9 => exact BindsTo.of_eq rfl); (case zz35c5 => decide); (case zz35kB => exact locs rfl); (case zz35c2 => exact rfl); (case zz35c3 => exact rfl); (case zz35c4 => exact rfl); k_whole; intro gzz35' Lzz35' hzz35' FGzz35' Fzz35' Nzz35' Bzz35' Xzz35' Tzz35'; (try dsimp only); (try k_lift Bzz35'); (try k_fold)))
  k_with "my getMethod type:tuple" =>
    (k_here; refine' method_type ?zz36F ?zz36X ?zz36m (by decide +kernel) ?zz36e ?zz36h ?_; (case zz36F => k_asm); (case zz36X => k_asm); (case zz36m => exact meta_tuple); (case zz36e => k_dflt k_is); (case zz36h => k_handed))
  k_with "my call builtin:tuple.__new__" =>
    (k_here; (refine' lr_new ?zz37k1 ?zz37k2 ?zz37k3 ?_ ?zz37k4; (case zz37k1 => k_asm); (case zz37k2 => k_asm); (case zz37k3 => k_mem); (case zz37k4 => k_asm); k_whole; intro tzz37' dxzz37' hzz37' tkzz37' Fzz37' Nzz37' hkzz37' l1zz37 l2zz37; (try k_lt l1zz37); (try k_lt2 l2zz37)))
  k_with "my exec Raise some none" =>
    (k_here; (with_reducible show wpAny _ _ (exec (Stmt.Raise (some (Expr.Call (Expr.Name _ _) (_ :: _) [] _)) none _) (envOfC _ _ _ _ _)) _ _ _); k_dflt (refine' raise_any ?zz38O PySem.F.excBase_ValueError ?zz38h ?zz38n ?_ ?zz38a ?zz38b; (case zz38O => exact own_of_in (by k_asm) (by k_asm) (by k_is) (by k_exc)); (case zz38h => rfl); (case zz38n => (intro Qzz38 hQzz38; exact nameX_K (by k_asm) (by k_asm) (by k_asm) (by k_is) hQzz38)); (case zz38a => rfl); (case zz38b => rfl); k_whole))
  k_with "my leaving ref" =>
    (k_here; (with_reducible show wpAny _ _ (leaving (envOfC _ _ _ _ _) _) _ _ _); (refine' leave_raise_any ?zz39k1 ?zz39k0 ?zz39k2 ?zz39k3 ?zz39kf ?zz39kk ?_; (case zz39k0 => assumption); (case zz39k1 => assumption); (case zz39k2 => assumption); (case zz39k3 => k_asm); (case zz39kf => rfl); (case zz39kk => (show ScopeKind.function ≠ ScopeKind.module; decide)); k_whole; intro hzz39' tzz39' Rzz39' Uzz39'; (try dsimp only at Rzz39' Uzz39' ⊢)))
  k_with "my execs cons" =>
    (k_here; (rename Mine.Ex _ (preSum _ _) => ePzz40'); dsimp only)
  k_with "my execs cons" =>
    (k_here; (rename Mine.Ex _ (preSum _ _) => ePzz41'); k_dflt (refine tok_keep ?_); intro tkzz41' kzz41')
  k_with "my call builtin:math.fsum" =>
    (k_here; first
  | ((refine' fsum_x (by assumption) ?zz42h ?zz42h0 ?zz42F ?zz42N ?zz42m ?_; (case zz42h => rfl); (case zz42h0 => rfl); (case zz42F => k_asm); (case zz42N => k_asm); (case zz42m => k_ownIn)); intro hzz42' tkzz42' rzz42' tzz42' Fzz42' Nzz42' ezz42')
  | ((refine' fsum_y (by assumption) ?zz42h ?zz42h0 ?zz42F ?zz42N ?zz42m ?_; (case zz42h => rfl); (case zz42h0 => rfl); (case zz42F => k_asm); (case zz42N => k_asm); (case zz42m => k_ownIn)); intro hzz42' tkzz42' rzz42' tzz42' Fzz42' Nzz42' ezz42'))
  k_with "my binaryOp Div float int" =>
    (k_here; first
  | ((refine' div_x (by assumption) (two_lt (by assumption)) ?zz43r ?_; (case zz43r => assumption)); intro rzz43' tzz43' ezz43')
  | ((refine' div_y (by assumption) (two_lt (by assumption)) ?zz43r ?_; (case zz43r => assumption)); intro rzz43' tzz43' ezz43'))
  k_with "my eval ListComp" =>
    (k_here; k_dflt (refine LCg.ListComp_U (F₀ := by k_asm) (by with_unfolding_all rfl) (by decide) (by rfl) (by decide) (by rfl) ?_))
  k_with "my exec Assign cons ListComp" =>
    (k_here; k_dflt (refine LCg.Assign_ListComp_U (F₀ := by k_asm) (by rfl) (by with_unfolding_all rfl) (by with_unfolding_all rfl) (by decide) (by rfl) (by decide) (by rfl) (by rfl) (by rfl) ?_))
  k_with "my CompSrc" =>
    (k_here; k_dflt (
  (refine' src_sub ?zz46K ?zz46h2 ?zz46hh ?zz46F ?zz46N ?zz46m (fun izz46' vzz46' Izz46' oIzz46' Czz46' oCzz46' Dzz46' mzz46' yszz46' hzz46' tkzz46' Ezz46' hizz46' hvzz46' hCzz46' hxzz46' Fzz46' Nzz46' offzz46' nezz46' => ?_) (fun gzz46' yszz46' hSzz46' hlzz46' => ?_); (case zz46K => assumption); (case zz46h2 => assumption); (case zz46hh => rfl); (case zz46F => k_asm); (case zz46N => k_asm); (case zz46m => k_ownIn); (all_goals (try (simp only [LCg.Off3, and_true] at offzz46'))))))
  k_with "my binaryOp Sub float" =>
    (k_here; first
  | ((refine' sub_x (by assumption) ?zz47i ?zz47v ?zz47E ?_; (case zz47i => assumption); (case zz47v => assumption); (case zz47E => assumption)); intro rzz47' tzz47' ezz47')
  | ((refine' inter_ex (by assumption) ?zz47y ?zz47r ?zz47p ?_; (case zz47y => assumption); (case zz47r => assumption); (case zz47p => exact Nat.succ_pos _)); intro rzz47' tzz47' ezz47' kzz47'))
  k_with "my binaryOp Sub float float" =>
    (k_here; ((refine' inter_ex (by assumption) ?zz48y ?zz48r ?zz48p ?_; (case zz48y => assumption); (case zz48r => assumption); (case zz48p => exact Nat.succ_pos _)); intro rzz48' tzz48' ezz48' kzz48'))
  k_with "my CompEnd" =>
    (refine' compEnd_el ?zz49F ?zz49N ?zz49sub ?zz49off ?zz49S ?zz49r; (case zz49r => exact SubAt.mk ⟨_, _, rfl, by assumption⟩); (case zz49F => assumption); (case zz49N => assumption); (case zz49sub => kcf_all); (case zz49off => first | assumption | (simp only [LCg.Off3, and_true]; done) | (simp only [LCg.Off3, and_true]; assumption)); (case zz49S => first | lcg_src | assumption | exact Or.inr ⟨_, by k_ownIn, rfl, _, rfl⟩))
  k_with "my eval GeneratorExp" =>
    (k_here; k_dflt ((refine' gen_walkT (P := 179) (c := 181) ?zz50F ?zz50N ?zz50U ?zz50lim ?zz50M ?zz50g ?zz50code ?zz50tt ?zz50cd ?zz50P ?zz50hh ?zz50co ?zz50clos ?zz50cell ?zz50h0 ?zz50x ?zz50kind ?zz50room ?zz50d1 ?zz50d2 ?zz50d3 ?zz50zk ?zz50zc ?zz50y ?zz50yb ?zz50yd ?zz50iter ?zz50n ?zz50E ?zz50f ?_ ?zz50s; (case zz50F => k_asm); (case zz50N => k_asm); (case zz50U => k_updF); (case zz50lim => exact Top.nolimit (by assumption)); (case zz50M => exact bmod_of_top (by assumption)); (case zz50g => rfl); (case zz50code => rfl); (case zz50tt => assumption); (case zz50cd => exact fun hPzz50 => (lr_code (by assumption) hPzz50 (Frag.In.keeps (by k_asm) (Fr.keep (by assumption)))).2); (case zz50P => k_mem); (case zz50hh => rfl); (case zz50co => rfl); (case zz50clos => with_unfolding_all rfl); (case zz50cell => decide); (case zz50h0 => rfl); (case zz50x => rfl); (case zz50kind => rfl); (case zz50room => ktr_room); (case zz50d1 => rfl); (case zz50d2 => rfl); (case zz50d3 => rfl); (case zz50zk => rfl); (case zz50zc => rfl); (case zz50iter => (intro Qzz50' hQzz50'; exact eval_local rfl rfl rfl (Fr.ns (by assumption)) (by with_unfolding_all rfl) hQzz50')); (case zz50y => k_ownIn); (case zz50yb => k_mem); (case zz50yd => assumption); (case zz50n => exact FullOk.ny (by assumption)); (case zz50E => assumption); (case zz50f => exact dy_all (by assumption)); (case zz50s => exact fun _ => rfl)); intro azz50' Czz50' Izz50' hzz50' tkzz50' gszz50' oazz50' oCzz50' oIzz50' pszz50' hTzz50' hbzz50' Fzz50' Nzz50' ltzz50' Rzz50'))
  k_with "my call builtin:math.sumprod" =>
    (k_here; k_dflt (first
  | ((refine' sum_xx (by assumption) (two_lt (by assumption)) ?zz51S ?zz51A ?zz51F ?zz51N ?zz51m ?zz51p ?_; (case zz51S => assumption); (case zz51A => rfl); (case zz51F => k_asm); (case zz51N => k_asm); (case zz51m => k_mem); (case zz51p => first | exact TokOk.lt (by assumption) | exact Nat.succ_pos _)); intro hzz51' tkzz51' rzz51' tzz51' Fzz51' Nzz51' ezz51' kzz51')
  | ((refine' sum_xy (by assumption) (two_lt (by assumption)) ?zz51S ?zz51A ?zz51F ?zz51N ?zz51R ?zz51lim ?zz51tk ?zz51lt ?zz51y ?zz51yb ?zz51x ?_; (case zz51S => assumption); (case zz51A => rfl); (case zz51F => k_asm); (case zz51N => k_asm); (case zz51R => assumption); (case zz51lim => exact Top.nolimit (by assumption)); (case zz51tk => first | exact Nat.le_refl _ | omega); (case zz51lt => assumption); (case zz51y => k_ownIn); (case zz51yb => k_mem); (case zz51x => k_mem)); intro hzz51' gszz51' tkzz51' rzz51' tzz51' Fzz51' Nzz51' Gzz51' ezz51')))
  k_with "my binaryOp Add float float" =>
    (k_here; ((refine' add_zero_ex ?zz52x ?_; (case zz52x => assumption)); intro rzz52' tzz52' ezz52'))
  k_with "my binaryOp Div float float" =>
    (k_here; ((refine' slope_ex (by assumption) ?zz53x ?zz53v ?zz53p ?_; (case zz53x => assumption); (case zz53v => assumption); (case zz53p => assumption)); intro rzz53' tzz53' ezz53' kzz53'))
  k_with "my binaryOp Mult float float" =>
    (k_here; ((refine' mul_ex (by assumption) ?zz54x ?zz54v ?_; (case zz54x => assumption); (case zz54v => assumption)); intro rzz54' tzz54' ezz54'))
  k_with "my binaryOp Div float float" =>
    (k_here; k_dflt ((refine' flat_div ?zz55k0 ?zz55k1 ?zz55k2 ?_; (case zz55k0 => assumption); (case zz55k1 => rfl); (case zz55k2 => assumption)); intro hzz55' tkzz55' zzz55' hzzz55'))
  k_with "my noteFrame ref" =>
    (k_here; (with_reducible show wpAny _ _ (noteFrame _ (envOfC _ _ _ _ _)) _ _ _); k_dflt (refine' flat_any ?zz56K ?zz56F ?zz56N ?zz56hx ?zz56hf ?zz56hk ?zz56XB ?zz56TB ?zz56ex ?zz56q PySem.F.excBase_ValueError ?zz56hz ?zz56hs ?zz56hm ?zz56he ?_; (case zz56K => assumption); (case zz56hx => assumption); (case zz56F => assumption); (case zz56N => k_asm); (case zz56hf => rfl); (case zz56hk => (show ScopeKind.function ≠ ScopeKind.module; decide)); (case zz56XB => assumption); (case zz56TB => assumption); (case zz56ex => k_is); (case zz56q => k_exc); (case zz56hz => (intro gzz56 Azz56 szz56 Ezz56 Qzz56 Fzz56 Xzz56 Tzz56 hzz56; exact nameX_B Fzz56 Xzz56 Tzz56 (by k_is) (by boot_by_name) (by decide) hzz56)); (case zz56hs => (intro gzz56 Azz56 szz56 Ezz56 Qzz56 Fzz56 Xzz56 Tzz56 hzz56; exact nameX_K Fzz56 Xzz56 Tzz56 (by k_is) hzz56)); (case zz56hm => (intro Azz56 szz56 Ezz56 Qzz56 hzz56; exact spliced_more (Calls.Constant_str (spliced_none (hzz56 _ _))))); (case zz56he => rfl); k_whole))
  trivial
theorem lr_flat3G {w : World} {dp un : Nat} {gd : Option (List Code)} {cn : Str} {cs : Scope} {a : Addr} {ccd : Value} {cl : List (Str × Addr)} {outer : List Env} {A₀ : Around} {base h₀ : Heap} {L : Addr} {m : Str → Option Value} {s : Shared} {Q E : Value → Shared → Prop}
    {mean : ExcName → Option Value} {mg mb : Str → Option Value} {news : List (Addr × Obj)} {ps : Array Value} {ax ay : Addr} {args : Args} (hbl : BindLr w args false ax ay) {xs ys : List Value} {cx cy n : Nat} {us ws : List Int} {Xb Yb : Int} {pr qr : Nat → Int}
    (B : Below A₀ base outer h₀) (F : Fr h₀ L s.heap m) (N : News h₀ L s.heap ((179, tabObj ps) :: news)) (hT : TabOk ps) (T : Top Mine.vw (looseW Mine.vw [Str.ofString "_tuplegetter", Str.ofString "LinearRegression", Str.ofString "linear_regression"]) mean mg mb h₀) (hk : cs.kind = .function) (hd : dp + 5 < recursionLimit) (hu : un + 40 < cLine)
    (hx : (ax, listOf xs.toArray cx) ∈ news) (hy : (ay, listOf ys.toArray cy) ∈ news) (hxl : xs.length < 200) (hyl : ys.length < 200) (hlen : xs.length = ys.length) (hn2 : 2 ≤ xs.length) (hn : 2 ≤ n) (h200 : n < 200) (K : FullOk xs ys us ws n Xb Yb pr qr) (Z : FlatEnd n qr) (hgs : AllBare s.gens) (h9 : ∀ p ∈ news, p.1 ≠ 179)
    (XB : (Mine.hd.heap_39 w.params).In base) (TB : Top Mine.vw (looseW Mine.vw [Str.ofString "_tuplegetter", Str.ofString "LinearRegression", Str.ofString "linear_regression"]) mean mg mb base)
    (hE : ∀ e t g' h' tk tk' gs' ps', TabOk ps' → Fr h₀ L g' m → RaisedS base g' (envX cn cs L a ccd cl :: outer) e (.ref 102) t [.str (Str.ofString "x is constant") tk] ((179, tabObj ps') :: news) h' → g'.UpToSlots h' → AllBare gs' → E (.ref e) ⟨h', gs', s.drawn, tk', s.os⟩) :
    (Mine.hd.heap_39 w.params).In h₀ → wpAny (model PySem.Challenge.rw_kq0023_01.row.prog w) (ktrTop dp un gd cn cs L a ccd cl outer) (call (.ref 182) args.pos args.kw) Q E s := by
  k_fill
  intro X
  refine wpAny_call ?_
  refine' code_defC ?k1 ?k2 ?k3 ?k4 ?k5 ?kA ?kF ?kK ?k6 ?k7 ?k8 ?k9 ?kB ?kD ?_ ?c2 ?c3 ?c4; (case kA => exact rfl); (case kF => exact rfl); (case kK => exact hk); (case k1 => k_asm); (case k2 => k_asm); (case k3 => k_asm); (case k4 => k_asm); (case k5 => k_asm); (case k6 => k_is); (case k7 => k_is); (case k8 => ktr_room)
  case k9 => exact BindLr.is (by assumption) _ _ _ _ _ (by k_is) (by k_in)
  case kB => exact rfl
  case kD => decide +kernel
  case c2 => exact rfl
  case c3 => exact rfl
  case c4 => exact rfl
  intro g' L' h' tk' cells' FG' F' N' Y' B' X' T' l1
  have l0 : ∀ p ∈ news, p.1 < L' := fun p hp => l1 p (.tail _ hp)
  (try k_lt l1)
  k_cells Y'
  (try simp only [List.cons_append, List.nil_append] at N')
  (try dsimp only)
  (try k_fold)
  k_steps
  all_goals (try k_data)
  exact hE _ _ _ _ _ _ _ _ (by assumption) FG' (raised_tail3 (by assumption)) (by assumption) (bare_after hgs (by assumption) (by assumption))
theorem lr_flat3 {w : World} {dp un : Nat} {gd : Option (List Code)} {cn : Str} {cs : Scope} {a : Addr} {ccd : Value} {cl : List (Str × Addr)} {outer : List Env} {A₀ : Around} {base h₀ : Heap} {L : Addr} {m : Str → Option Value} {s : Shared} {Q E : Value → Shared → Prop}
    {mean : ExcName → Option Value} {mg mb : Str → Option Value} {news : List (Addr × Obj)} {ps : Array Value} {ax ay : Addr} {xs ys : List Value} {cx cy n : Nat} {us ws : List Int} {Xb Yb : Int} {pr qr : Nat → Int}
    (B : Below A₀ base outer h₀) (F : Fr h₀ L s.heap m) (N : News h₀ L s.heap ((179, tabObj ps) :: news)) (hT : TabOk ps) (T : Top Mine.vw (looseW Mine.vw [Str.ofString "_tuplegetter", Str.ofString "LinearRegression", Str.ofString "linear_regression"]) mean mg mb h₀) (hk : cs.kind = .function) (hd : dp + 5 < recursionLimit) (hu : un + 40 < cLine)
    (hx : (ax, listOf xs.toArray cx) ∈ news) (hy : (ay, listOf ys.toArray cy) ∈ news) (hxl : xs.length < 200) (hyl : ys.length < 200) (hlen : xs.length = ys.length) (hn2 : 2 ≤ xs.length) (hn : 2 ≤ n) (h200 : n < 200) (K : FullOk xs ys us ws n Xb Yb pr qr) (Z : FlatEnd n qr) (hgs : AllBare s.gens) (h9 : ∀ p ∈ news, p.1 ≠ 179)
    (XB : (Mine.hd.heap_39 w.params).In base) (TB : Top Mine.vw (looseW Mine.vw [Str.ofString "_tuplegetter", Str.ofString "LinearRegression", Str.ofString "linear_regression"]) mean mg mb base)
    (hE : ∀ e t g' h' tk tk' gs' ps', TabOk ps' → Fr h₀ L g' m → RaisedS base g' (envX cn cs L a ccd cl :: outer) e (.ref 102) t [.str (Str.ofString "x is constant") tk] ((179, tabObj ps') :: news) h' → g'.UpToSlots h' → AllBare gs' → E (.ref e) ⟨h', gs', s.drawn, tk', s.os⟩) :
    (Mine.hd.heap_39 w.params).In h₀ → wpAny (model PySem.Challenge.rw_kq0023_01.row.prog w) (ktrTop dp un gd cn cs L a ccd cl outer) (call (.ref 182) [.ref ax, .ref ay]) Q E s := fun X =>
  lr_flat3G (args := ⟨[.ref ax, .ref ay], []⟩) (bind_none X).2 B F N hT T hk hd hu hx hy hxl hyl hlen hn2 hn h200 K Z hgs h9 XB TB hE X
theorem lr_flatK {w : World} {dp un : Nat} {gd : Option (List Code)} {cn : Str} {cs : Scope} {a : Addr} {ccd : Value} {cl : List (Str × Addr)} {outer : List Env} {A₀ : Around} {base h₀ : Heap} {L : Addr} {m : Str → Option Value} {s : Shared} {Q E : Value → Shared → Prop}
    {mean : ExcName → Option Value} {mg mb : Str → Option Value} {news : List (Addr × Obj)} {ps : Array Value} {ax ay : Addr} {xs ys : List Value} {cx cy n : Nat} {us ws : List Int} {Xb Yb : Int} {pr qr : Nat → Int}
    (B : Below A₀ base outer h₀) (F : Fr h₀ L s.heap m) (N : News h₀ L s.heap ((179, tabObj ps) :: news)) (hT : TabOk ps) (T : Top Mine.vw (looseW Mine.vw [Str.ofString "_tuplegetter", Str.ofString "LinearRegression", Str.ofString "linear_regression"]) mean mg mb h₀) (hk : cs.kind = .function) (hd : dp + 5 < recursionLimit) (hu : un + 40 < cLine)
    (hx : (ax, listOf xs.toArray cx) ∈ news) (hy : (ay, listOf ys.toArray cy) ∈ news) (hxl : xs.length < 200) (hyl : ys.length < 200) (hlen : xs.length = ys.length) (hn2 : 2 ≤ xs.length) (hn : 2 ≤ n) (h200 : n < 200) (K : FullOk xs ys us ws n Xb Yb pr qr) (Z : FlatEnd n qr) (hgs : AllBare s.gens) (h9 : ∀ p ∈ news, p.1 ≠ 179)
    (XB : (Mine.hd.heap_39 w.params).In base) (TB : Top Mine.vw (looseW Mine.vw [Str.ofString "_tuplegetter", Str.ofString "LinearRegression", Str.ofString "linear_regression"]) mean mg mb base)
    (hE : ∀ e t g' h' tk tk' gs' ps', TabOk ps' → Fr h₀ L g' m → RaisedS base g' (envX cn cs L a ccd cl :: outer) e (.ref 102) t [.str (Str.ofString "x is constant") tk] ((179, tabObj ps') :: news) h' → g'.UpToSlots h' → AllBare gs' → E (.ref e) ⟨h', gs', s.drawn, tk', s.os⟩) :
    (Mine.hd.heap_39 w.params).In h₀ → wpAny (model PySem.Challenge.rw_kq0023_01.row.prog w) (ktrTop dp un gd cn cs L a ccd cl outer) (call (.ref 182) [.ref ax, .ref ay] [(Str.ofString "proportional", .bool false)]) Q E s := fun X =>
  lr_flat3G (args := ⟨[.ref ax, .ref ay], [(Str.ofString "proportional", .bool false)]⟩) (bind_kw X).2 B F N hT T hk hd hu hx hy hxl hyl hlen hn2 hn h200 K Z hgs h9 XB TB hE X
end Mine
end

section
open PySem PySem.W PySem.Calls PyProof.Rows
set_option maxRecDepth 100000
set_option maxHeartbeats 400000
namespace Mine
theorem zz_LRPa : True := by
  w_top off
  k_with_none
  trivial
section
variable {prog : Program} {w : World} {A : Around} {E : Value → Shared → Prop} {s : Shared} {h₀ : Heap} {L a : Addr} {news : List (Addr × Obj)} {xs : List Value} {c : Nat}
end
theorem zz_LRPa_4 : True := by
  k_with "my call builtin:len" =>
    (k_here; (with_reducible show wpAny _ _ (call (Value.builtin _) [Value.ref _]) _ _ _); (refine' my_len ?zz57k1 ?zz57k2 ?zz57k3 ?_; (case zz57k1 => k_asm); (case zz57k2 => k_ownIn); (case zz57k3 => assumption); k_whole))
  trivial
structure SlopeT : Prop where
def SumIs (xs ys : List Value) (S : Int) : Prop := ∀ (prog : Program) (w : World) (A : Around) (E : Value → Shared → Prop) (s : Shared) (ax ay : Addr) (Q : Value → Shared → Prop), A.handled = none → s.heap.IsList ax xs.toArray → s.heap.IsList ay ys.toArray →
  (∀ h' tk v, Kept s.heap h' → s.toks ≤ tk → NumV v S → Q v { s with heap := h', toks := tk }) → wpAny (model prog w) A (call (.builtin "math.sumprod") [.ref ax, .ref ay]) Q E s
section
variable {prog : Program} {w : World} {A : Around} {E : Value → Shared → Prop} {s : Shared} {h₀ : Heap} {L a b : Addr} {m : Str → Option Value} {news : List (Addr × Obj)} {xs ys : List Value} {c d : Nat} {S : Int}
theorem my_sumprod {Q : Value → Shared → Prop} (hs : SumIs xs ys S) (hA : A.handled = none) (F : Fr h₀ L s.heap m) (N : News h₀ L s.heap news) (hm : (a, W.listOf xs.toArray c) ∈ news) (hm2 : (b, W.listOf ys.toArray d) ∈ news)
    (h : ∀ h' tk v, Fr h₀ L h' m → News h₀ L h' news → NumV v S → (TokOk s.toks → TokOk tk) → Q v { s with heap := h', toks := tk }) :
    wpAny (model prog w) A (call (.builtin "math.sumprod") [.ref a, .ref b]) Q E s :=
  hs prog w A E s a b Q hA (N.isList hm) (N.isList hm2) fun h' tk v hk ht hv => h h' tk v (F.keeps hk) (N.grown hk) hv fun k => .pos (Nat.lt_of_lt_of_le k.lt ht)
end
theorem zz_LRPa_5 : True := by
  k_with "my call builtin:math.sumprod" =>
    (k_here; (refine' my_sumprod ?zz58ks ?zz58ka ?zz58k1 ?zz58k2 ?zz58k3 ?zz58k4 ?_; (case zz58k1 => k_asm); (case zz58k2 => k_asm); (case zz58k3 => k_ownIn); (case zz58k4 => k_ownIn); (case zz58ks => assumption); (case zz58ka => rfl); k_whole); intro hzz58' tkzz58' vzz58' Fzz58' Nzz58' v1zz58' k0zz58'; (try (have k1zz58' := k0zz58' (by assumption))); (try clear k0zz58'))
  k_with "my execs cons" =>
    (k_here; (rename SlopeT => sTzz59'); dsimp only)
  k_with "my execs cons" =>
    (k_here; (rename SlopeT => sTzz60'); k_dflt (refine tok_keep ?_); intro tkzz60' kzz60')
  k_with "my binaryOp Add float" =>
    (k_here; (refine' num_add_zero ?zz61k1 ?zz61k2 ?_; (case zz61k1 => assumption); (case zz61k2 => exact ex_lit0)); intro rzz61' tzz61' r1zz61')
  trivial
theorem num_div_tok {prog : Program} {w : World} {A : Around} {E : Value → Shared → Prop} {s : Shared} {Q : Value → Shared → Prop} {v : Value} {S V : Int} {x : UInt64} {tk : Tok} (hx : Mine.Ex x S) (hv : NumV v V) (h0 : V ≠ 0) (hp : TokOk s.toks) (h : ∀ r t, Quo r S V → TokOk t → Q (.float r t) { s with toks := s.toks + 1 }) : wpAny (model prog w) A (binaryOp .Div (.float x tk) v) Q E s := by
  cases hv with
  | int t e hf =>
    subst e
    exact AutoFloatOps.truediv_fi_2 (not_inf hf) (not_zero hf (mul_ne h0)) (h _ _ (hx.quo (Ex.ofInt hf) h0) hp)
  | float t hy => exact AutoFloatOps.truediv_1 (by rw [hy.notZero]; simpa using h0) (h _ _ (hx.quo hy h0) hp)
theorem zz_LRPa_6 : True := by
  k_with "my binaryOp Div float" =>
    (k_here; (refine' num_div_tok ?zz62k1 ?zz62k2 ?zz62k3 ?zz62k4 ?_; (case zz62k1 => assumption); (case zz62k2 => assumption); (case zz62k3 => assumption); (case zz62k4 => assumption)); intro rzz62' tzz62' r1zz62' kzz62')
  k_with "my exec Try cons cons nil nil" =>
    (k_here; (refine wpAny_Try_except ?_); (try dsimp only))
  k_with "my ite" =>
    (k_here; first | (refine ite_pos (by (simp only [bne_iff_ne, beq_iff_eq, ne_eq, decide_eq_true_eq]; omega)) ?_) | (refine ite_neg (by (simp only [bne_iff_ne, beq_iff_eq, ne_eq, decide_eq_true_eq]; omega)) ?_))
  k_with "my call ref nil" =>
    (k_here; (refine' lr_make ?zz65k1 ?zz65k2 ?_ ?zz65k4; (case zz65k1 => k_asm); (case zz65k2 => k_asm); (case zz65k4 => k_asm); k_whole))
  k_with "my call ref cons cons" =>
    (k_here; (refine wpAny_call ?_); (refine' code_def ?zz66k1 ?zz66k2 ?zz66k3 ?zz66k4 ?zz66k5 ?zz66kA ?zz66kF ?zz66kK ?zz66k6 ?zz66k7 ?zz66k8 ?zz66k9 ?zz66kB ?_ ?zz66c2 ?zz66c3 ?zz66c4 ?zz66c5; (case zz66kA => exact rfl); (case zz66kF => exact rfl); (case zz66kK => exact rfl); (case zz66k1 => k_asm); (case zz66k2 => k_asm); (case zz66k3 => k_asm); (case zz66k4 => k_asm); (case zz66k5 => k_asm); (case zz66k6 => k_is); (case zz66k7 => k_is); (case zz66k8 => ktr_room); (case zz66k9 => exact BindsTo.of_eq rfl); (case zz66c5 => decide); (case zz66kB => exact locs rfl); (case zz66c2 => exact rfl); (case zz66c3 => exact rfl); (case zz66c4 => exact rfl); k_whole; intro gzz66' Lzz66' hzz66' FGzz66' Fzz66' Nzz66' Bzz66' Xzz66' Tzz66'; (try dsimp only); (try k_lift Bzz66'); (try k_fold)))
  trivial
theorem meta_tuple : typeOf (.type "tuple") = pure (.type "type") := by kernel_rfl
theorem zz_LRPa_7 : True := by
  k_with "my getMethod type:tuple" =>
    (k_here; refine' method_type ?zz67F ?zz67X ?zz67m (by decide +kernel) ?zz67e ?zz67h ?_; (case zz67F => k_asm); (case zz67X => k_asm); (case zz67m => exact meta_tuple); (case zz67e => k_dflt k_is); (case zz67h => k_handed))
  k_with "my call builtin:tuple.__new__" =>
    (k_here; (refine' lr_new ?zz68k1 ?zz68k2 ?zz68k3 ?_ ?zz68k4; (case zz68k1 => k_asm); (case zz68k2 => k_asm); (case zz68k3 => k_mem); (case zz68k4 => k_asm); k_whole; intro tzz68' dxzz68' hzz68' tkzz68' Fzz68' Nzz68' hkzz68' l1zz68 l2zz68; (try k_lt l1zz68); (try k_lt2 l2zz68)))
  k_with "my exec Raise some none" =>
    (k_here; (with_reducible show wpAny _ _ (exec (Stmt.Raise (some (Expr.Call (Expr.Name _ _) (_ :: _) [] _)) none _) (envOfC _ _ _ _ _)) _ _ _); k_dflt (refine' raise_any ?zz69O PySem.F.excBase_ValueError ?zz69h ?zz69n ?_ ?zz69a ?zz69b; (case zz69O => exact own_of_in (by k_asm) (by k_asm) (by k_is) (by k_exc)); (case zz69h => rfl); (case zz69n => (intro Qzz69 hQzz69; exact nameX_K (by k_asm) (by k_asm) (by k_asm) (by k_is) hQzz69)); (case zz69a => rfl); (case zz69b => rfl); k_whole))
  k_with "my leaving ref" =>
    (k_here; (with_reducible show wpAny _ _ (leaving (envOfC _ _ _ _ _) _) _ _ _); (refine' leave_raise_any ?zz70k1 ?zz70k0 ?zz70k2 ?zz70k3 ?zz70kf ?zz70kk ?_; (case zz70k0 => assumption); (case zz70k1 => assumption); (case zz70k2 => assumption); (case zz70k3 => k_asm); (case zz70kf => rfl); (case zz70kk => (show ScopeKind.function ≠ ScopeKind.module; decide)); k_whole; intro hzz70' tzz70' Rzz70' Uzz70'; (try dsimp only at Rzz70' Uzz70' ⊢)))
  trivial
theorem lr_len {w : World} {dp un : Nat} {gd : Option (List Code)} {cn : Str} {cs : Scope} {a : Addr} {ccd : Value} {cl : List (Str × Addr)} {outer : List Env} {A₀ : Around} {base h₀ : Heap} {L : Addr} {m : Str → Option Value} {s : Shared} {Q E : Value → Shared → Prop}
    {mean : ExcName → Option Value} {mg mb : Str → Option Value} {news : List (Addr × Obj)} {ax ay : Addr} {xs ys : List Value} {cx cy : Nat} {pb : Bool}
    (B : Below A₀ base outer h₀) (F : Fr h₀ L s.heap m) (N : News h₀ L s.heap news) (T : Top Mine.vw (looseW Mine.vw [Str.ofString "_tuplegetter", Str.ofString "LinearRegression", Str.ofString "linear_regression"]) mean mg mb h₀) (hk : cs.kind = .function) (hd : dp + 5 < recursionLimit) (hu : un + 40 < cLine)
    (hx : (ax, listOf xs.toArray cx) ∈ news) (hy : (ay, listOf ys.toArray cy) ∈ news) (hxl : xs.length < 200) (hyl : ys.length < 200)
    (hlen : xs.length ≠ ys.length) (hE : ∀ e t g' h' tk tk', Fr h₀ L g' m → RaisedS base g' (envX cn cs L a ccd cl :: outer) e (.ref 102) t [.str (Str.ofString "linear regression requires that both inputs have same number of data points") tk] news h' → g'.UpToSlots h' → E (.ref e) { s with heap := h', toks := tk' }) :
    (Mine.hd.heap_39 w.params).In h₀ → wpAny (model PySem.Challenge.rw_kq0023_01.row.prog w) (ktrTop dp un gd cn cs L a ccd cl outer) (call (.ref 182) [.ref ax, .ref ay] [(Str.ofString "proportional", .bool pb)]) Q E s := by
  k_fill
  intro X
  refine wpAny_call ?_
  refine' code_defC ?k1 ?k2 ?k3 ?k4 ?k5 ?kA ?kF ?kK ?k6 ?k7 ?k8 ?k9 ?kB ?kD ?_ ?c2 ?c3 ?c4; (case kA => exact rfl); (case kF => exact rfl); (case kK => exact hk); (case k1 => k_asm); (case k2 => k_asm); (case k3 => k_asm); (case k4 => k_asm); (case k5 => k_asm); (case k6 => k_is); (case k7 => k_is); (case k8 => ktr_room)
  case k9 => first | exact BindsTo.of_eq rfl | exact binds_K (by k_in) rfl (by k_is) rfl rfl rfl | (refine' kp_binds ?kx ?ke; (case kx => k_in); (case ke => exact fun _ => rfl))
  case kB => exact rfl
  case kD => decide +kernel
  case c2 => exact rfl
  case c3 => exact rfl
  case c4 => exact rfl
  intro g' L' h' tk' cells' FG' F' N' Y' B' X' T' l1
  k_cells Y'
  (try simp only [List.cons_append, List.nil_append] at N')
  (try dsimp only)
  (try k_fold)
  k_steps
  all_goals (try k_data)
  exact hE _ _ _ _ _ _ FG' (raised_tail (by assumption)) (by assumption)
theorem lr_few {w : World} {dp un : Nat} {gd : Option (List Code)} {cn : Str} {cs : Scope} {a : Addr} {ccd : Value} {cl : List (Str × Addr)} {outer : List Env} {A₀ : Around} {base h₀ : Heap} {L : Addr} {m : Str → Option Value} {s : Shared} {Q E : Value → Shared → Prop}
    {mean : ExcName → Option Value} {mg mb : Str → Option Value} {news : List (Addr × Obj)} {ax ay : Addr} {xs ys : List Value} {cx cy : Nat} {pb : Bool}
    (B : Below A₀ base outer h₀) (F : Fr h₀ L s.heap m) (N : News h₀ L s.heap news) (T : Top Mine.vw (looseW Mine.vw [Str.ofString "_tuplegetter", Str.ofString "LinearRegression", Str.ofString "linear_regression"]) mean mg mb h₀) (hk : cs.kind = .function) (hd : dp + 5 < recursionLimit) (hu : un + 40 < cLine)
    (hx : (ax, listOf xs.toArray cx) ∈ news) (hy : (ay, listOf ys.toArray cy) ∈ news) (hxl : xs.length < 200) (hyl : ys.length < 200)
    (hlen : xs.length = ys.length) (hn : xs.length < 2) (hE : ∀ e t g' h' tk tk', Fr h₀ L g' m → RaisedS base g' (envX cn cs L a ccd cl :: outer) e (.ref 102) t [.str (Str.ofString "linear regression requires at least two data points") tk] news h' → g'.UpToSlots h' → E (.ref e) { s with heap := h', toks := tk' }) :
    (Mine.hd.heap_39 w.params).In h₀ → wpAny (model PySem.Challenge.rw_kq0023_01.row.prog w) (ktrTop dp un gd cn cs L a ccd cl outer) (call (.ref 182) [.ref ax, .ref ay] [(Str.ofString "proportional", .bool pb)]) Q E s := by
  k_fill
  intro X
  refine wpAny_call ?_
  refine' code_defC ?k1 ?k2 ?k3 ?k4 ?k5 ?kA ?kF ?kK ?k6 ?k7 ?k8 ?k9 ?kB ?kD ?_ ?c2 ?c3 ?c4; (case kA => exact rfl); (case kF => exact rfl); (case kK => exact hk); (case k1 => k_asm); (case k2 => k_asm); (case k3 => k_asm); (case k4 => k_asm); (case k5 => k_asm); (case k6 => k_is); (case k7 => k_is); (case k8 => ktr_room)
  case k9 => first | exact BindsTo.of_eq rfl | exact binds_K (by k_in) rfl (by k_is) rfl rfl rfl | (refine' kp_binds ?kx ?ke; (case kx => k_in); (case ke => exact fun _ => rfl))
  case kB => exact rfl
  case kD => decide +kernel
  case c2 => exact rfl
  case c3 => exact rfl
  case c4 => exact rfl
  intro g' L' h' tk' cells' FG' F' N' Y' B' X' T' l1
  k_cells Y'
  (try simp only [List.cons_append, List.nil_append] at N')
  (try dsimp only)
  (try k_fold)
  k_steps
  all_goals (try k_data)
  exact hE _ _ _ _ _ _ FG' (raised_tail (by assumption)) (by assumption)
theorem news_drop3 {h₀ h : Heap} {L : Addr} {p p' a b c : Addr × Obj} {news : List (Addr × Obj)} (N : News h₀ L h (p :: p' :: a :: b :: c :: news)) : News h₀ L h (p :: p' :: news) := fun q hq => (List.mem_cons.mp hq).elim (fun e => N q (e ▸ .head _)) fun hq => (List.mem_cons.mp hq).elim (fun e => N q (e ▸ .tail _ (.head _))) fun hq => N q (.tail _ (.tail _ (.tail _ (.tail _ (.tail _ hq)))))
theorem lt4 {a b c t : Addr} {news : List (Addr × Obj)} (h : a < t ∧ b < t ∧ c < t ∧ AllLt t news) : ∀ p ∈ news, p.1 < t := lt_of_all h.2.2.2
theorem lr_t {w : World} {dp un : Nat} {gd : Option (List Code)} {cn : Str} {cs : Scope} {a : Addr} {ccd : Value} {cl : List (Str × Addr)} {outer : List Env} {A₀ : Around} {base h₀ : Heap} {L : Addr} {m : Str → Option Value} {s : Shared} {Q E : Value → Shared → Prop}
    {mean : ExcName → Option Value} {mg mb : Str → Option Value} {news : List (Addr × Obj)} {ax ay : Addr} {xs ys : List Value} {cx cy : Nat}
    (B : Below A₀ base outer h₀) (F : Fr h₀ L s.heap m) (N : News h₀ L s.heap news) (T : Top Mine.vw (looseW Mine.vw [Str.ofString "_tuplegetter", Str.ofString "LinearRegression", Str.ofString "linear_regression"]) mean mg mb h₀) (hk : cs.kind = .function) (hd : dp + 5 < recursionLimit) (hu : un + 40 < cLine)
    (hx : (ax, listOf xs.toArray cx) ∈ news) (hy : (ay, listOf ys.toArray cy) ∈ news) (hxl : xs.length < 200) (hyl : ys.length < 200)
    (hlen : xs.length = ys.length) (hn : 2 ≤ xs.length) {Sxy Sxx : Int} (hxy : SumIs xs ys Sxy) (hxx : SumIs xs xs Sxx) (hne : Sxx ≠ 0) (hQ : ∀ t dx h' tk r t1 t2, Fr h₀ L h' m → News h₀ L h' ((t, lrObj 173 dx (.float r t1) (.float 0 t2)) :: (dx, emptyDict) :: news) → (∀ p ∈ news, p.1 < dx) → dx < t → Quo r Sxy Sxx → TokOk t1 → TokOk t2 → Q (.ref t) { s with heap := h', toks := tk }) :
    (Mine.hd.heap_39 w.params).In h₀ → wpAny (model PySem.Challenge.rw_kq0023_01.row.prog w) (ktrTop dp un gd cn cs L a ccd cl outer) (call (.ref 182) [.ref ax, .ref ay] [(Str.ofString "proportional", .bool true)]) Q E s := by
  k_fill
  intro X
  have sT : SlopeT := ⟨⟩
  refine wpAny_call ?_
  refine' code_defC ?k1 ?k2 ?k3 ?k4 ?k5 ?kA ?kF ?kK ?k6 ?k7 ?k8 ?k9 ?kB ?kD ?_ ?c2 ?c3 ?c4; (case kA => exact rfl); (case kF => exact rfl); (case kK => exact hk); (case k1 => k_asm); (case k2 => k_asm); (case k3 => k_asm); (case k4 => k_asm); (case k5 => k_asm); (case k6 => k_is); (case k7 => k_is); (case k8 => ktr_room)
  case k9 => first | exact BindsTo.of_eq rfl | exact binds_K (by k_in) rfl (by k_is) rfl rfl rfl | (refine' kp_binds ?kx ?ke; (case kx => k_in); (case ke => exact fun _ => rfl))
  case kB => exact rfl
  case kD => decide +kernel
  case c2 => exact rfl
  case c3 => exact rfl
  case c4 => exact rfl
  intro g' L' h' tk' cells' FG' F' N' Y' B' X' T' l1
  k_cells Y'
  (try simp only [List.cons_append, List.nil_append] at N')
  (try dsimp only)
  (try k_fold)
  k_steps
  all_goals (try k_data)
  · exact is_lr (by assumption)
  · refine' hQ _ _ _ _ _ _ _ ?f ?n ?l ?l2 ?r ?k ?k2
    case l2 => assumption
    case f => assumption
    case n => exact news_drop3 (by assumption)
    case l => exact lt4 (by assumption)
    case r => assumption
    case k => assumption
    case k2 => assumption
theorem zz_LRPa_8 : True := by
  k_with "my binaryOp Div float" =>
    (k_here; (refine' num_div_zero ?zz71k1 ?zz71k2 ?_; (case zz71k1 => rfl); (case zz71k2 => assumption)); intro hzz71' tkzz71' zzz71' hzzz71')
  k_with "my noteFrame ref" =>
    (k_here; (with_reducible show wpAny _ _ (noteFrame _ (envOfC _ _ _ _ _)) _ _ _); k_dflt (refine' flat_any ?zz72K ?zz72F ?zz72N ?zz72hx ?zz72hf ?zz72hk ?zz72XB ?zz72TB ?zz72ex ?zz72q PySem.F.excBase_ValueError ?zz72hz ?zz72hs ?zz72hm ?zz72he ?_; (case zz72K => assumption); (case zz72hx => assumption); (case zz72F => assumption); (case zz72N => k_asm); (case zz72hf => rfl); (case zz72hk => (show ScopeKind.function ≠ ScopeKind.module; decide)); (case zz72XB => assumption); (case zz72TB => assumption); (case zz72ex => k_is); (case zz72q => k_exc); (case zz72hz => (intro gzz72 Azz72 szz72 Ezz72 Qzz72 Fzz72 Xzz72 Tzz72 hzz72; exact nameX_B Fzz72 Xzz72 Tzz72 (by k_is) (by boot_by_name) (by decide) hzz72)); (case zz72hs => (intro gzz72 Azz72 szz72 Ezz72 Qzz72 Fzz72 Xzz72 Tzz72 hzz72; exact nameX_K Fzz72 Xzz72 Tzz72 (by k_is) hzz72)); (case zz72hm => (intro Azz72 szz72 Ezz72 Qzz72 hzz72; exact spliced_more (Calls.Constant_str (spliced_none (hzz72 _ _))))); (case zz72he => rfl); k_whole))
  trivial
theorem lr_flat {w : World} {dp un : Nat} {gd : Option (List Code)} {cn : Str} {cs : Scope} {a : Addr} {ccd : Value} {cl : List (Str × Addr)} {outer : List Env} {A₀ : Around} {base h₀ : Heap} {L : Addr} {m : Str → Option Value} {s : Shared} {Q E : Value → Shared → Prop}
    {mean : ExcName → Option Value} {mg mb : Str → Option Value} {news : List (Addr × Obj)} {ax ay : Addr} {xs ys : List Value} {cx cy : Nat}
    (B : Below A₀ base outer h₀) (F : Fr h₀ L s.heap m) (N : News h₀ L s.heap news) (T : Top Mine.vw (looseW Mine.vw [Str.ofString "_tuplegetter", Str.ofString "LinearRegression", Str.ofString "linear_regression"]) mean mg mb h₀) (hk : cs.kind = .function) (hd : dp + 5 < recursionLimit) (hu : un + 40 < cLine)
    (hx : (ax, listOf xs.toArray cx) ∈ news) (hy : (ay, listOf ys.toArray cy) ∈ news) (hxl : xs.length < 200) (hyl : ys.length < 200)
    (XB : (Mine.hd.heap_39 w.params).In base) (TB : Top Mine.vw (looseW Mine.vw [Str.ofString "_tuplegetter", Str.ofString "LinearRegression", Str.ofString "linear_regression"]) mean mg mb base)
    (hlen : xs.length = ys.length) (hn : 2 ≤ xs.length) {Sxy : Int} (hxy : SumIs xs ys Sxy) (hxx : SumIs xs xs 0) (hE : ∀ e t g' h' tk tk', Fr h₀ L g' m → RaisedS base g' (envX cn cs L a ccd cl :: outer) e (.ref 102) t [.str (Str.ofString "x is constant") tk] news h' → g'.UpToSlots h' → E (.ref e) { s with heap := h', toks := tk' }) :
    (Mine.hd.heap_39 w.params).In h₀ → wpAny (model PySem.Challenge.rw_kq0023_01.row.prog w) (ktrTop dp un gd cn cs L a ccd cl outer) (call (.ref 182) [.ref ax, .ref ay] [(Str.ofString "proportional", .bool true)]) Q E s := by
  k_fill
  intro X
  refine wpAny_call ?_
  refine' code_defC ?k1 ?k2 ?k3 ?k4 ?k5 ?kA ?kF ?kK ?k6 ?k7 ?k8 ?k9 ?kB ?kD ?_ ?c2 ?c3 ?c4; (case kA => exact rfl); (case kF => exact rfl); (case kK => exact hk); (case k1 => k_asm); (case k2 => k_asm); (case k3 => k_asm); (case k4 => k_asm); (case k5 => k_asm); (case k6 => k_is); (case k7 => k_is); (case k8 => ktr_room)
  case k9 => first | exact BindsTo.of_eq rfl | exact binds_K (by k_in) rfl (by k_is) rfl rfl rfl | (refine' kp_binds ?kx ?ke; (case kx => k_in); (case ke => exact fun _ => rfl))
  case kB => exact rfl
  case kD => decide +kernel
  case c2 => exact rfl
  case c3 => exact rfl
  case c4 => exact rfl
  intro g' L' h' tk' cells' FG' F' N' Y' B' X' T' l1
  k_cells Y'
  (try simp only [List.cons_append, List.nil_append] at N')
  (try dsimp only)
  (try k_fold)
  k_steps
  all_goals (try k_data)
  exact hE _ _ _ _ _ _ FG' (raised_tail (by assumption)) (by assumption)
end Mine
end

section
open PySem PySem.W PySem.Calls PyProof.Rows PySem.Spec
set_option maxRecDepth 100000
set_option maxHeartbeats 1000000
namespace Mine
section
variable {prog : Program} {w : World} {A₀ A : Around} {s : Shared} {base h₀ : Heap} {L : Addr} {m : Str → Option Value} {env : Env} {news : List (Addr × Obj)} {K : Frag} {p : Program} {loose : List Str} {mean : ExcName → Option Value} {mg mb : Str → Option Value}
    {R : Result → Shared → Prop} {name qual : Str} {params : Arguments} {body : List Stmt} {scope : Scope} {dV kV doc pm cdv ct oc : Value} {an od : Option Addr} {osl : Array (Option Value)} {f : Addr} {args : Args} {binds : List (Str × Value)}
/-- what a def called with a frame of any kind ahead of it finds below it -/
theorem enter_any (B : Below A₀ base [] h₀) (F : Fr h₀ L s.heap m) (N : News h₀ L s.heap news) (hA : A.frames = some [env]) (hf : env.frame = some L) (hk : env.scope.kind = .function) :
    ∃ oL es ep, (hideAll s.heap (news.map (·.1))).get? L = some oL ∧ oL.data = .dict es ep ∧ (∀ (sl : Array (Option Value)) h', h'.get? L = some { oL with slots := sl } → Heap.Ns h' L m) ∧
      h₀.StaysIn (hideAll s.heap (news.map (·.1))) ∧ Below A base [env] (hideAll s.heap (news.map (·.1))) := by
  have off : ∀ b o, h₀.get? b = some o → b ∉ news.map (·.1) := fun b o e q => by
    obtain ⟨r, hr, rfl⟩ := List.mem_map.mp q
    rw [(N r hr).2.2] at e; cases e
  have offL : L ∉ news.map (·.1) := fun q => by
    obtain ⟨r, hr, e⟩ := List.mem_map.mp q
    exact (N r hr).2.1 e
  have stay : h₀.StaysIn (hideAll s.heap (news.map (·.1))) := fun b o e => hideAll_get _ (F.keep b o e) (off b o e)
  obtain ⟨oL, es, ep, e1, e2, e3, e4⟩ := F.ns
  have BX := pushX B F hf hk
  refine ⟨oL, es, ep, hideAll_get _ e1 offL, e2, fun sl h' e => ⟨_, es, ep, e, e2, e3, e4⟩, stay, hA, fun b o e => stay b o (B.stays b o e), funFrames_hideAll BX.frames fun en hen b hb hfb => ?_⟩
  rw [List.mem_singleton.mp hen, hf] at hfb
  exact offL ((Option.some.inj hfb : L = b) ▸ hb)
theorem code_any0 (B : Below A₀ base [] h₀) (F : Fr h₀ L s.heap m) (X₀ : K.In h₀) (N : News h₀ L s.heap news) (T : Top p loose mean mg mb h₀) (hA : A.frames = some [env]) (hf : env.frame = some L) (hke : env.scope.kind = .function)
    (ho : K.lookup f = some ⟨oc, od, .func (fnOf name qual params body scope dV kV doc pm an cdv ct), osl⟩) (hcd : codeIn K cdv qual = true) (hroom : A.depth < recursionLimit)
    (hbind : BindsTo s (fnOf name qual params body scope dV kV doc pm an cdv ct) args binds) (hloc : ∀ y ∈ binds, scope.names.lookup y.1 = some .local)
    (h : ∀ g L' h₁, Fr h₀ L g m → Fr g L' h₁ (fun y => binds.reverse.lookup y) → News g L' h₁ news → Below A base [env] g → K.In g → Top p loose mean mg mb g → KtsDicts ([env].filterMap (·.frame)) g → (∀ p ∈ news, p.1 < L') →
      wpAny (model prog w) (A.deeper (envOf qual scope L' f cdv)) (execs body (envOf qual scope L' f cdv))
        (fun fl s' => LeaveS0 ([env].filterMap (·.frame)) h₀ L m g R (match fl with | .ret v => v | _ => .none) s')
        (fun e s' => wpAny (model prog w) (A.deeper (envOf qual scope L' f cdv)) (leaving (envOf qual scope L' f cdv) e) (fun _ s'' => R (.error e) s'') (fun e' s'' => R (.error e') s'') s')
        { s with heap := h₁, toks := s.toks + binds.length })
    (hco : scope.isCoroutine = false) (hgen : scope.isGenerator = false) (hk : scope.kind = .function) (hcell : ∀ x ∈ scope.names, x.2 ≠ .cell) : codeAny (model prog w) A (.call (.ref f) args) R s := by
  obtain ⟨oL, es, ep, gL, gd, gN, gS, gB⟩ := enter_any B F N hA hf hke
  have X := X₀.keeps F.keep
  have fs : [env].filterMap (·.frame) = [L] := by simp [hf]
  refine codeAny_call_def (fd := fnOf name qual params body scope dV kV doc pm an cdv ct) (body := body) (binds := binds) hroom (X _ _ ho) rfl (T.nolimit.keeps F.keep) (codeRec_of X hcd) rfl hbind hcell hloc (fun h₁ hns hk₁ => ?_) hco hgen hk
  have below : ∀ q ∈ news, q.1 < s.heap.objs.size := fun q hq => Heap.lt_size (N q hq).1
  refine wpAny_mono (h _ s.heap.objs.size h₁ ⟨gN _ _ gL, gS, F.above⟩ ⟨hns, fun b o e => hk₁ b o (of_hideAll _ e), Nat.le_of_eq (hideAll_size _ _)⟩
    (fun q hq => ⟨hk₁ _ _ (N q hq).1, Nat.ne_of_lt (below q hq), hideAll_none _ (List.mem_map_of_mem hq)⟩) gB (X₀.keeps gS) (T.keeps gS) (fun b hb => by rw [fs, List.mem_singleton] at hb; subst hb; exact ⟨oL, es, ep, gL, gd⟩) below) (fun fl s' hl => ?_) fun _ _ y => y
  obtain ⟨g', L', m', news', TT, F', N', k⟩ := hl
  rw [fs] at TT
  obtain ⟨sl, eL⟩ := TT.up gL
  have back : ∀ b o, h₀.get? b = some o → g'.get? b = some o := fun b o e => TT.other b o (gS b o e) fun q => by
    rw [List.mem_singleton.mp q, kts_self F] at e; cases e
  refine k ⟨gN sl _ (F'.keep _ _ eL), fun b o e => F'.keep b o (back b o e), F.above⟩ fun q hq => ⟨(N' q hq).1, fun z => ?_, ?_⟩
  · have := (N' q hq).2.2
    rw [z, eL] at this; cases this
  · cases e : h₀.get? q.1 with
    | none => rfl
    | some o => have := (N' q hq).2.2; rw [back _ _ e] at this; cases this
end
end Mine
end

section
open PySem PySem.W PySem.Calls PyProof.Rows
set_option maxRecDepth 100000
set_option maxHeartbeats 1000000
namespace Mine
theorem zz_LN1a : True := by
  w_top off
  k_with_none
  trivial
theorem zz_LN1a_9 : True := by
  k_with "my exec Try cons cons nil nil" =>
    (k_here; (refine wpAny_Try_except ?_); (try dsimp only))
  k_with "my call type:str" =>
    (k_here; (with_reducible show wpAny _ _ (call (Value.type "str") [Value.ref _]) _ _ _); k_dflt (refine' str_got ?zz74F ?zz74X ?zz74N ?zz74G ?zz74U ?zz74hs ?zz74hm ?_; (case zz74G => assumption); (case zz74N => assumption); (case zz74F => k_asm); (case zz74X => k_asm); (case zz74hs => k_is); (case zz74hm => k_is); (case zz74U => ktr_units); k_whole))
  k_with "my call ref cons" =>
    (k_here; k_dflt (refine' lr_len ?zz75B ?zz75F ?zz75N ?zz75T ?zz75hk ?zz75hd ?zz75hu ?zz75hx ?zz75hy ?zz75hxl ?zz75hyl ?zz75hlen ?_ ?zz75X; (case zz75X => k_asm); (case zz75B => assumption); (case zz75F => k_asm); (case zz75N => k_asm); (case zz75T => assumption); (case zz75hk => rfl); (case zz75hd => ktr_room); (case zz75hu => ktr_units); (case zz75hx => k_ownIn); (case zz75hy => k_ownIn); (case zz75hxl => assumption); (case zz75hyl => assumption); (case zz75hlen => assumption); k_whole; intro ezz75 tzz75 gzz75' hzz75' tkzz75 tkzz75' FGzz75' Rzz75' Uzz75'))
  trivial
theorem l1_len {w : World} {dp un : Nat} {gd : Option (List Code)} {cn : Str} {cs : Scope} {a : Addr} {ccd : Value} {cl : List (Str × Addr)} {A₀ : Around} {base h₀ : Heap} {L : Addr} {m : Str → Option Value} {s : Shared} {Q E : Value → Shared → Prop}
    {mean : ExcName → Option Value} {mg mb : Str → Option Value} {news : List (Addr × Obj)} {pb : Bool} {ax ay : Addr} {xs ys : List Value} {cx cy : Nat}
    (B : Below A₀ base [] h₀) (F : Fr h₀ L s.heap m) (N : News h₀ L s.heap news) (T : Top Mine.vw (looseW Mine.vw [Str.ofString "_tuplegetter", Str.ofString "LinearRegression", Str.ofString "linear_regression"]) mean mg mb h₀) (hk : cs.kind = .function) (hd : dp + 9 < recursionLimit) (hu : un + 60 < cLine)
    (hx : (ax, listOf xs.toArray cx) ∈ news) (hy : (ay, listOf ys.toArray cy) ∈ news) (hxl : xs.length < 200) (hyl : ys.length < 200)
    (XB : (Mine.hd.heap_39 w.params).In base) (TB : Top Mine.vw (looseW Mine.vw [Str.ofString "_tuplegetter", Str.ofString "LinearRegression", Str.ofString "linear_regression"]) mean mg mb base)
    (hlen : xs.length ≠ ys.length) (hQ : ∀ h' tk a c tk', Fr h₀ L h' m → News h₀ L h' ((a, listOf #[.str (Str.ofString "linear regression requires that both inputs have same number of data points") tk'] c) :: news) → Q (.ref a) { s with heap := h', toks := tk }) :
    (Mine.hd.heap_39 w.params).In h₀ → wpAny (model PySem.Challenge.rw_kq0023_01.row.prog w) (ktrTop dp un gd cn cs L a ccd cl []) (call (.ref 189) [.ref ax, .ref ay, .bool pb]) Q E s := by
  k_fill
  intro X
  refine wpAny_call ?_
  refine' code_any0 ?k1 ?k2 ?k3 ?k4 ?k5 ?kA ?kF ?kK ?k6 ?k7 ?k8 ?k9 ?kB ?_ ?c2 ?c3 ?c4 ?c5; (case kA => exact rfl); (case kF => exact rfl); (case kK => exact hk); (case k2 => k_asm); (case k1 => k_asm); (case k3 => k_asm); (case k4 => k_asm); (case k5 => k_asm); (case k6 => k_is); (case k7 => k_is); (case k8 => ktr_room); (case k9 => exact BindsTo.of_eq rfl); (case kB => exact locs rfl); (case c2 => exact rfl); (case c3 => exact rfl); (case c4 => exact rfl); (case c5 => decide)
  intro g' L' h' FG' F' N' B' X' T' D' l1
  (try dsimp only)
  (try k_fold)
  k_steps
  all_goals (try k_data)
  refine' hQ _ _ _ _ _ ?f ?n
  case f => assumption
  case n => assumption
theorem zz_LN1a_10 : True := by
  k_with "my call ref cons" =>
    (k_here; k_dflt (refine' lr_few ?zz76B ?zz76F ?zz76N ?zz76T ?zz76hk ?zz76hd ?zz76hu ?zz76hx ?zz76hy ?zz76hxl ?zz76hyl ?zz76hlen ?zz76hn ?_ ?zz76X; (case zz76X => k_asm); (case zz76B => assumption); (case zz76F => k_asm); (case zz76N => k_asm); (case zz76T => assumption); (case zz76hk => rfl); (case zz76hd => ktr_room); (case zz76hu => ktr_units); (case zz76hx => k_ownIn); (case zz76hy => k_ownIn); (case zz76hxl => assumption); (case zz76hyl => assumption); (case zz76hlen => assumption); (case zz76hn => assumption); k_whole; intro ezz76 tzz76 gzz76' hzz76' tkzz76 tkzz76' FGzz76' Rzz76' Uzz76'))
  trivial
theorem l1_few {w : World} {dp un : Nat} {gd : Option (List Code)} {cn : Str} {cs : Scope} {a : Addr} {ccd : Value} {cl : List (Str × Addr)} {A₀ : Around} {base h₀ : Heap} {L : Addr} {m : Str → Option Value} {s : Shared} {Q E : Value → Shared → Prop}
    {mean : ExcName → Option Value} {mg mb : Str → Option Value} {news : List (Addr × Obj)} {pb : Bool} {ax ay : Addr} {xs ys : List Value} {cx cy : Nat}
    (B : Below A₀ base [] h₀) (F : Fr h₀ L s.heap m) (N : News h₀ L s.heap news) (T : Top Mine.vw (looseW Mine.vw [Str.ofString "_tuplegetter", Str.ofString "LinearRegression", Str.ofString "linear_regression"]) mean mg mb h₀) (hk : cs.kind = .function) (hd : dp + 9 < recursionLimit) (hu : un + 60 < cLine)
    (hx : (ax, listOf xs.toArray cx) ∈ news) (hy : (ay, listOf ys.toArray cy) ∈ news) (hxl : xs.length < 200) (hyl : ys.length < 200)
    (XB : (Mine.hd.heap_39 w.params).In base) (TB : Top Mine.vw (looseW Mine.vw [Str.ofString "_tuplegetter", Str.ofString "LinearRegression", Str.ofString "linear_regression"]) mean mg mb base)
    (hlen : xs.length = ys.length) (hn : xs.length < 2) (hQ : ∀ h' tk a c tk', Fr h₀ L h' m → News h₀ L h' ((a, listOf #[.str (Str.ofString "linear regression requires at least two data points") tk'] c) :: news) → Q (.ref a) { s with heap := h', toks := tk }) :
    (Mine.hd.heap_39 w.params).In h₀ → wpAny (model PySem.Challenge.rw_kq0023_01.row.prog w) (ktrTop dp un gd cn cs L a ccd cl []) (call (.ref 189) [.ref ax, .ref ay, .bool pb]) Q E s := by
  k_fill
  intro X
  refine wpAny_call ?_
  refine' code_any0 ?k1 ?k2 ?k3 ?k4 ?k5 ?kA ?kF ?kK ?k6 ?k7 ?k8 ?k9 ?kB ?_ ?c2 ?c3 ?c4 ?c5; (case kA => exact rfl); (case kF => exact rfl); (case kK => exact hk); (case k2 => k_asm); (case k1 => k_asm); (case k3 => k_asm); (case k4 => k_asm); (case k5 => k_asm); (case k6 => k_is); (case k7 => k_is); (case k8 => ktr_room); (case k9 => exact BindsTo.of_eq rfl); (case kB => exact locs rfl); (case c2 => exact rfl); (case c3 => exact rfl); (case c4 => exact rfl); (case c5 => decide)
  intro g' L' h' FG' F' N' B' X' T' D' l1
  (try dsimp only)
  (try k_fold)
  k_steps
  all_goals (try k_data)
  refine' hQ _ _ _ _ _ ?f ?n
  case f => assumption
  case n => assumption
theorem zz_LN1a_11 : True := by
  k_with "my call ref cons" =>
    (k_here; k_dflt (refine' lr_flat ?zz77B ?zz77F ?zz77N ?zz77T ?zz77hk ?zz77hd ?zz77hu ?zz77hx ?zz77hy ?zz77hxl ?zz77hyl ?zz77XB ?zz77TB ?zz77hlen ?zz77hn ?zz77hxy ?zz77hxx ?_ ?zz77X; (case zz77X => k_asm); (case zz77B => assumption); (case zz77F => k_asm); (case zz77N => k_asm); (case zz77T => assumption); (case zz77hk => rfl); (case zz77hd => ktr_room); (case zz77hu => ktr_units); (case zz77hx => k_ownIn); (case zz77hy => k_ownIn); (case zz77hxl => assumption); (case zz77hyl => assumption); (case zz77hlen => assumption); (case zz77XB => assumption); (case zz77TB => assumption); (case zz77hn => assumption); (case zz77hxy => assumption); (case zz77hxx => assumption); k_whole; intro ezz77 tzz77 gzz77' hzz77' tkzz77 tkzz77' FGzz77' Rzz77' Uzz77'))
  trivial
theorem l1_flat {w : World} {dp un : Nat} {gd : Option (List Code)} {cn : Str} {cs : Scope} {a : Addr} {ccd : Value} {cl : List (Str × Addr)} {A₀ : Around} {base h₀ : Heap} {L : Addr} {m : Str → Option Value} {s : Shared} {Q E : Value → Shared → Prop}
    {mean : ExcName → Option Value} {mg mb : Str → Option Value} {news : List (Addr × Obj)}  {ax ay : Addr} {xs ys : List Value} {cx cy : Nat}
    (B : Below A₀ base [] h₀) (F : Fr h₀ L s.heap m) (N : News h₀ L s.heap news) (T : Top Mine.vw (looseW Mine.vw [Str.ofString "_tuplegetter", Str.ofString "LinearRegression", Str.ofString "linear_regression"]) mean mg mb h₀) (hk : cs.kind = .function) (hd : dp + 9 < recursionLimit) (hu : un + 60 < cLine)
    (hx : (ax, listOf xs.toArray cx) ∈ news) (hy : (ay, listOf ys.toArray cy) ∈ news) (hxl : xs.length < 200) (hyl : ys.length < 200)
    (XB : (Mine.hd.heap_39 w.params).In base) (TB : Top Mine.vw (looseW Mine.vw [Str.ofString "_tuplegetter", Str.ofString "LinearRegression", Str.ofString "linear_regression"]) mean mg mb base)
    (hlen : xs.length = ys.length) (hn : 2 ≤ xs.length) {Sxy : Int} (hxy : SumIs xs ys Sxy) (hxx : SumIs xs xs 0) (hQ : ∀ h' tk a c tk', Fr h₀ L h' m → News h₀ L h' ((a, listOf #[.str (Str.ofString "x is constant") tk'] c) :: news) → Q (.ref a) { s with heap := h', toks := tk }) :
    (Mine.hd.heap_39 w.params).In h₀ → wpAny (model PySem.Challenge.rw_kq0023_01.row.prog w) (ktrTop dp un gd cn cs L a ccd cl []) (call (.ref 189) [.ref ax, .ref ay, .bool true]) Q E s := by
  k_fill
  intro X
  refine wpAny_call ?_
  refine' code_any0 ?k1 ?k2 ?k3 ?k4 ?k5 ?kA ?kF ?kK ?k6 ?k7 ?k8 ?k9 ?kB ?_ ?c2 ?c3 ?c4 ?c5; (case kA => exact rfl); (case kF => exact rfl); (case kK => exact hk); (case k2 => k_asm); (case k1 => k_asm); (case k3 => k_asm); (case k4 => k_asm); (case k5 => k_asm); (case k6 => k_is); (case k7 => k_is); (case k8 => ktr_room); (case k9 => exact BindsTo.of_eq rfl); (case kB => exact locs rfl); (case c2 => exact rfl); (case c3 => exact rfl); (case c4 => exact rfl); (case c5 => decide)
  intro g' L' h' FG' F' N' B' X' T' D' l1
  (try dsimp only)
  (try k_fold)
  k_steps
  all_goals (try k_data)
  refine' hQ _ _ _ _ _ ?f ?n
  case f => assumption
  case n => assumption
theorem zz_LN1a_12 : True := by
  k_with "my call ref cons" =>
    (k_here; k_dflt (refine' lr_flat3 ?zz78B ?zz78F ?zz78N ?zz78hT ?zz78T ?zz78hk ?zz78hd ?zz78hu ?zz78hx ?zz78hy ?zz78hxl ?zz78hyl ?zz78hlen ?zz78hn2 ?zz78hn ?zz78h200 ?zz78K ?zz78Z ?zz78hgs ?zz78h9 ?zz78XB ?zz78TB ?_ ?zz78X; (case zz78X => k_asm); (case zz78B => assumption); (case zz78F => k_asm); (case zz78N => k_asm); (case zz78hT => assumption); (case zz78T => assumption); (case zz78hk => rfl); (case zz78hd => ktr_room); (case zz78hu => ktr_units); (case zz78hx => k_ownIn); (case zz78hy => k_ownIn); (case zz78hxl => assumption); (case zz78hyl => assumption); (case zz78hlen => assumption); (case zz78K => assumption); (case zz78Z => assumption); (case zz78hn2 => assumption); (case zz78hn => assumption); (case zz78h200 => assumption); (case zz78hgs => assumption); (case zz78h9 => assumption); (case zz78XB => assumption); (case zz78TB => assumption); k_whole; intro ezz78 tzz78 gzz78' hzz78' tkzz78 tkzz78' gszz78' pszz78' hTzz78' FGzz78' Rzz78' Uzz78' Bzz78'))
  trivial
theorem l1_flat3 {w : World} {dp un : Nat} {gd : Option (List Code)} {cn : Str} {cs : Scope} {a : Addr} {ccd : Value} {cl : List (Str × Addr)} {A₀ : Around} {base h₀ : Heap} {L : Addr} {m : Str → Option Value} {s : Shared} {Q E : Value → Shared → Prop}
    {mean : ExcName → Option Value} {mg mb : Str → Option Value} {news : List (Addr × Obj)} {ps : Array Value} {ax ay : Addr} {xs ys : List Value} {cx cy : Nat}
    (B : Below A₀ base [] h₀) (F : Fr h₀ L s.heap m) (N : News h₀ L s.heap ((179, tabObj ps) :: news)) (hT : TabOk ps) (T : Top Mine.vw (looseW Mine.vw [Str.ofString "_tuplegetter", Str.ofString "LinearRegression", Str.ofString "linear_regression"]) mean mg mb h₀) (hk : cs.kind = .function) (hd : dp + 9 < recursionLimit) (hu : un + 60 < cLine)
    (hx : (ax, listOf xs.toArray cx) ∈ news) (hy : (ay, listOf ys.toArray cy) ∈ news) (hxl : xs.length < 200) (hyl : ys.length < 200)
    (XB : (Mine.hd.heap_39 w.params).In base) (TB : Top Mine.vw (looseW Mine.vw [Str.ofString "_tuplegetter", Str.ofString "LinearRegression", Str.ofString "linear_regression"]) mean mg mb base)
    (hlen : xs.length = ys.length) {U W : List Int} {n : Nat} {Xb Yb : Int} {pr qr : Nat → Int} (hn2 : 2 ≤ xs.length) (hn : 2 ≤ n) (h200 : n < 200) (K : FullOk xs ys U W n Xb Yb pr qr) (Z : FlatEnd n qr) (hgs : AllBare s.gens) (h9 : ∀ p ∈ news, p.1 ≠ 179) (hQ : ∀ h' tk a c tk' gs' ps', TabOk ps' → Fr h₀ L h' m → News h₀ L h' ((a, listOf #[.str (Str.ofString "x is constant") tk'] c) :: (179, tabObj ps') :: news) → AllBare gs' → Q (.ref a) ⟨h', gs', s.drawn, tk, s.os⟩) :
    (Mine.hd.heap_39 w.params).In h₀ → wpAny (model PySem.Challenge.rw_kq0023_01.row.prog w) (ktrTop dp un gd cn cs L a ccd cl []) (call (.ref 189) [.ref ax, .ref ay, .none]) Q E s := by
  k_fill
  intro X
  refine wpAny_call ?_
  refine' code_any0 ?k1 ?k2 ?k3 ?k4 ?k5 ?kA ?kF ?kK ?k6 ?k7 ?k8 ?k9 ?kB ?_ ?c2 ?c3 ?c4 ?c5; (case kA => exact rfl); (case kF => exact rfl); (case kK => exact hk); (case k2 => k_asm); (case k1 => k_asm); (case k3 => k_asm); (case k4 => k_asm); (case k5 => k_asm); (case k6 => k_is); (case k7 => k_is); (case k8 => ktr_room); (case k9 => exact BindsTo.of_eq rfl); (case kB => exact locs rfl); (case c2 => exact rfl); (case c3 => exact rfl); (case c4 => exact rfl); (case c5 => decide)
  intro g' L' h' FG' F' N' B' X' T' D' l1
  (try dsimp only)
  (try k_fold)
  k_steps
  all_goals (try k_data)
  refine' hQ _ _ _ _ _ _ _ ?tt ?f ?n ?b
  case tt => assumption
  case f => assumption
  case n => assumption
  case b => assumption
theorem zz_LN1a_13 : True := by
  k_with "my call ref cons" =>
    (k_here; k_dflt (refine' lr_flatK ?zz79B ?zz79F ?zz79N ?zz79hT ?zz79T ?zz79hk ?zz79hd ?zz79hu ?zz79hx ?zz79hy ?zz79hxl ?zz79hyl ?zz79hlen ?zz79hn2 ?zz79hn ?zz79h200 ?zz79K ?zz79Z ?zz79hgs ?zz79h9 ?zz79XB ?zz79TB ?_ ?zz79X; (case zz79X => k_asm); (case zz79B => assumption); (case zz79F => k_asm); (case zz79N => k_asm); (case zz79hT => assumption); (case zz79T => assumption); (case zz79hk => rfl); (case zz79hd => ktr_room); (case zz79hu => ktr_units); (case zz79hx => k_ownIn); (case zz79hy => k_ownIn); (case zz79hxl => assumption); (case zz79hyl => assumption); (case zz79hlen => assumption); (case zz79K => assumption); (case zz79Z => assumption); (case zz79hn2 => assumption); (case zz79hn => assumption); (case zz79h200 => assumption); (case zz79hgs => assumption); (case zz79h9 => assumption); (case zz79XB => assumption); (case zz79TB => assumption); k_whole; intro ezz79 tzz79 gzz79' hzz79' tkzz79 tkzz79' gszz79' pszz79' hTzz79' FGzz79' Rzz79' Uzz79' Bzz79'))
  trivial
theorem l1_flatK {w : World} {dp un : Nat} {gd : Option (List Code)} {cn : Str} {cs : Scope} {a : Addr} {ccd : Value} {cl : List (Str × Addr)} {A₀ : Around} {base h₀ : Heap} {L : Addr} {m : Str → Option Value} {s : Shared} {Q E : Value → Shared → Prop}
    {mean : ExcName → Option Value} {mg mb : Str → Option Value} {news : List (Addr × Obj)} {ps : Array Value} {ax ay : Addr} {xs ys : List Value} {cx cy : Nat}
    (B : Below A₀ base [] h₀) (F : Fr h₀ L s.heap m) (N : News h₀ L s.heap ((179, tabObj ps) :: news)) (hT : TabOk ps) (T : Top Mine.vw (looseW Mine.vw [Str.ofString "_tuplegetter", Str.ofString "LinearRegression", Str.ofString "linear_regression"]) mean mg mb h₀) (hk : cs.kind = .function) (hd : dp + 9 < recursionLimit) (hu : un + 60 < cLine)
    (hx : (ax, listOf xs.toArray cx) ∈ news) (hy : (ay, listOf ys.toArray cy) ∈ news) (hxl : xs.length < 200) (hyl : ys.length < 200)
    (XB : (Mine.hd.heap_39 w.params).In base) (TB : Top Mine.vw (looseW Mine.vw [Str.ofString "_tuplegetter", Str.ofString "LinearRegression", Str.ofString "linear_regression"]) mean mg mb base)
    (hlen : xs.length = ys.length) {U W : List Int} {n : Nat} {Xb Yb : Int} {pr qr : Nat → Int} (hn2 : 2 ≤ xs.length) (hn : 2 ≤ n) (h200 : n < 200) (K : FullOk xs ys U W n Xb Yb pr qr) (Z : FlatEnd n qr) (hgs : AllBare s.gens) (h9 : ∀ p ∈ news, p.1 ≠ 179) (hQ : ∀ h' tk a c tk' gs' ps', TabOk ps' → Fr h₀ L h' m → News h₀ L h' ((a, listOf #[.str (Str.ofString "x is constant") tk'] c) :: (179, tabObj ps') :: news) → AllBare gs' → Q (.ref a) ⟨h', gs', s.drawn, tk, s.os⟩) :
    (Mine.hd.heap_39 w.params).In h₀ → wpAny (model PySem.Challenge.rw_kq0023_01.row.prog w) (ktrTop dp un gd cn cs L a ccd cl []) (call (.ref 189) [.ref ax, .ref ay, .bool false]) Q E s := by
  k_fill
  intro X
  refine wpAny_call ?_
  refine' code_any0 ?k1 ?k2 ?k3 ?k4 ?k5 ?kA ?kF ?kK ?k6 ?k7 ?k8 ?k9 ?kB ?_ ?c2 ?c3 ?c4 ?c5; (case kA => exact rfl); (case kF => exact rfl); (case kK => exact hk); (case k2 => k_asm); (case k1 => k_asm); (case k3 => k_asm); (case k4 => k_asm); (case k5 => k_asm); (case k6 => k_is); (case k7 => k_is); (case k8 => ktr_room); (case k9 => exact BindsTo.of_eq rfl); (case kB => exact locs rfl); (case c2 => exact rfl); (case c3 => exact rfl); (case c4 => exact rfl); (case c5 => decide)
  intro g' L' h' FG' F' N' B' X' T' D' l1
  (try dsimp only)
  (try k_fold)
  k_steps
  all_goals (try k_data)
  refine' hQ _ _ _ _ _ _ _ ?tt ?f ?n ?b
  case tt => assumption
  case f => assumption
  case n => assumption
  case b => assumption
end Mine
end

section
open PySem PySem.W PySem.Calls PyProof.Rows
set_option maxRecDepth 100000
set_option maxHeartbeats 1000000
namespace Mine
theorem zz_LN1b : True := by
  w_top off
  k_with_none
  trivial
theorem zz_LN1b_14 : True := by
  k_with "my exec Try cons cons nil nil" =>
    (k_here; (refine wpAny_Try_except ?_); (try dsimp only))
  k_with "my assign Tuple" =>
    (k_here; k_dflt (refine' own_assign ?zz81F ?zz81N ?zz81X ?zz81hh ?zz81hm ?zz81hc ?zz81hd ?zz81hi ?zz81ht ?zz81hn ?zz81hs ?_; (case zz81F => k_asm); (case zz81N => k_asm); (case zz81X => k_asm); (case zz81hm => k_mem); (case zz81hh => rfl); (case zz81hc => rfl); (case zz81hd => rfl); (case zz81hi => k_is); (case zz81ht => k_is); (case zz81hn => rfl); (case zz81hs => rfl); k_whole); intro hzz81' Fzz81' Nzz81')
  k_with "my getAttr ref" =>
    (k_here; (first | ((with_reducible show wpAny _ _ (getAttr (Value.ref _) (PySem.Str.ofString "slope") _) _ _ _); k_dflt (refine' get_slope ?zz82B ?zz82F ?zz82N ?zz82T ?zz82hk ?zz82hd ?zz82hu ?zz82ht ?zz82hdx ?zz82hv ?_ ?zz82X; (case zz82X => assumption); (case zz82B => assumption); (case zz82F => k_asm); (case zz82N => k_asm); (case zz82T => assumption); (case zz82hk => rfl); (case zz82hd => first | ktr_room | decide); (case zz82hu => first | ktr_units | decide); (case zz82ht => k_mem); (case zz82hdx => k_mem); (case zz82hv => exact rfl); k_whole; intro hzz82' tkzz82' Fzz82' Nzz82')) | ((with_reducible show wpAny _ _ (getAttr (Value.ref _) (PySem.Str.ofString "intercept") _) _ _ _); k_dflt (refine' get_intercept ?zz82B ?zz82F ?zz82N ?zz82T ?zz82hk ?zz82hd ?zz82hu ?zz82ht ?zz82hdx ?zz82hv ?_ ?zz82X; (case zz82X => assumption); (case zz82B => assumption); (case zz82F => k_asm); (case zz82N => k_asm); (case zz82T => assumption); (case zz82hk => rfl); (case zz82hd => first | ktr_room | decide); (case zz82hu => first | ktr_units | decide); (case zz82ht => k_mem); (case zz82hdx => k_mem); (case zz82hv => exact rfl); k_whole; intro hzz82' tkzz82' Fzz82' Nzz82'))))
  trivial
theorem sub4 {α : Type} {a b c : α} {l : List α} : ∀ q ∈ a :: l, q ∈ a :: b :: c :: l := fun q hq => by
  rcases List.mem_cons.mp hq with rfl | hq
  · exact .head _
  · exact .tail _ (.tail _ (.tail _ hq))
theorem zz_LN1b_15 : True := by
  k_with "my call ref cons" =>
    (k_here; k_dflt (refine' lr_full ?zz83B ?zz83F ?zz83N ?zz83hT ?zz83T ?zz83hk ?zz83hd ?zz83hu ?zz83hx ?zz83hy ?zz83hxl ?zz83hyl ?zz83hlen ?zz83hn2 ?zz83hn ?zz83h200 ?zz83K ?zz83D ?zz83hgs ?zz83h9 ?_ ?zz83X; (case zz83X => k_asm); (case zz83B => assumption); (case zz83F => k_asm); (case zz83N => k_asm); (case zz83hT => assumption); (case zz83T => assumption); (case zz83hk => rfl); (case zz83hd => ktr_room); (case zz83hu => ktr_units); (case zz83hx => k_ownIn); (case zz83hy => k_ownIn); (case zz83hxl => assumption); (case zz83hyl => assumption); (case zz83hlen => assumption); (case zz83K => assumption); (case zz83D => assumption); (case zz83hn2 => assumption); (case zz83hn => assumption); (case zz83h200 => assumption); (case zz83hgs => assumption); (case zz83h9 => assumption); k_whole; intro tzz83' dxzz83' hzz83' tkzz83' gszz83' r1zz83' r2zz83' t1zz83' t2zz83' pszz83' hTzz83' Fzz83' Nzz83' lazz83' lbzz83' e1zz83' e2zz83' k1zz83' k2zz83' bzz83'))
  trivial
theorem l1_full {w : World} {dp un : Nat} {gd : Option (List Code)} {cn : Str} {cs : Scope} {a : Addr} {ccd : Value} {cl : List (Str × Addr)} {A₀ : Around} {base h₀ : Heap} {L : Addr} {m : Str → Option Value} {s : Shared} {Q E : Value → Shared → Prop}
    {mean : ExcName → Option Value} {mg mb : Str → Option Value} {news : List (Addr × Obj)} {ps : Array Value} {ax ay : Addr} {xs ys : List Value} {cx cy : Nat}
    (B : Below A₀ base [] h₀) (F : Fr h₀ L s.heap m) (N : News h₀ L s.heap ((179, tabObj ps) :: news)) (hT : TabOk ps) (T : Top Mine.vw (looseW Mine.vw [Str.ofString "_tuplegetter", Str.ofString "LinearRegression", Str.ofString "linear_regression"]) mean mg mb h₀) (hk : cs.kind = .function) (hd : dp + 9 < recursionLimit) (hu : un + 60 < cLine)
    (hx : (ax, listOf xs.toArray cx) ∈ news) (hy : (ay, listOf ys.toArray cy) ∈ news) (hxl : xs.length < 200) (hyl : ys.length < 200)
    (XB : (Mine.hd.heap_39 w.params).In base) (TB : Top Mine.vw (looseW Mine.vw [Str.ofString "_tuplegetter", Str.ofString "LinearRegression", Str.ofString "linear_regression"]) mean mg mb base)
    (hlen : xs.length = ys.length) {U W : List Int} {n : Nat} {Xb Yb : Int} {pr qr : Nat → Int} (hn2 : 2 ≤ xs.length) (hn : 2 ≤ n) (h200 : n < 200) (K : FullOk xs ys U W n Xb Yb pr qr) {Sl M : Int} (D : FullEnd n Xb Yb pr qr Sl M) (hgs : AllBare s.gens) (h9 : ∀ p ∈ news, p.1 ≠ 179) (hQ : ∀ h' tk a c r1 t1 r2 t2 gs' ps', TabOk ps' → Fr h₀ L h' m → News h₀ L h' ((a, listOf #[.bool true, .bool true, .float r1 t1, .float r2 t2, .float r1 t1, .float r2 t2] c) :: (179, tabObj ps') :: news) → Mine.Ex r1 Sl → Mine.Ex r2 (Yb - M) → TokOk t1 → TokOk t2 → AllBare gs' → Q (.ref a) ⟨h', gs', s.drawn, tk, s.os⟩) :
    (Mine.hd.heap_39 w.params).In h₀ → wpAny (model PySem.Challenge.rw_kq0023_01.row.prog w) (ktrTop dp un gd cn cs L a ccd cl []) (call (.ref 189) [.ref ax, .ref ay, .none]) Q E s := by
  k_fill
  intro X
  refine wpAny_call ?_
  refine' code_any0 ?k1 ?k2 ?k3 ?k4 ?k5 ?kA ?kF ?kK ?k6 ?k7 ?k8 ?k9 ?kB ?_ ?c2 ?c3 ?c4 ?c5; (case kA => exact rfl); (case kF => exact rfl); (case kK => exact hk); (case k2 => k_asm); (case k1 => k_asm); (case k3 => k_asm); (case k4 => k_asm); (case k5 => k_asm); (case k6 => k_is); (case k7 => k_is); (case k8 => ktr_room); (case k9 => exact BindsTo.of_eq rfl); (case kB => exact locs rfl); (case c2 => exact rfl); (case c3 => exact rfl); (case c4 => exact rfl); (case c5 => decide)
  intro g' L' h' FG' F' N' B' X' T' D' l1
  (try dsimp only)
  (try k_fold)
  k_steps
  all_goals (try k_data)
  refine' hQ _ _ _ _ _ _ _ _ _ _ ?tt ?f ?n ?e1 ?e2 ?k1 ?k2 ?g
  case tt => assumption
  case f => assumption
  case n => exact news_subF (by assumption) sub4
  case e1 => assumption
  case e2 => assumption
  case k1 => assumption
  case k2 => assumption
  case g => assumption
theorem zz_LN1b_16 : True := by
  k_with "my call ref cons" =>
    (k_here; k_dflt (refine' lr_fullK ?zz84B ?zz84F ?zz84N ?zz84hT ?zz84T ?zz84hk ?zz84hd ?zz84hu ?zz84hx ?zz84hy ?zz84hxl ?zz84hyl ?zz84hlen ?zz84hn2 ?zz84hn ?zz84h200 ?zz84K ?zz84D ?zz84hgs ?zz84h9 ?_ ?zz84X; (case zz84X => k_asm); (case zz84B => assumption); (case zz84F => k_asm); (case zz84N => k_asm); (case zz84hT => assumption); (case zz84T => assumption); (case zz84hk => rfl); (case zz84hd => ktr_room); (case zz84hu => ktr_units); (case zz84hx => k_ownIn); (case zz84hy => k_ownIn); (case zz84hxl => assumption); (case zz84hyl => assumption); (case zz84hlen => assumption); (case zz84K => assumption); (case zz84D => assumption); (case zz84hn2 => assumption); (case zz84hn => assumption); (case zz84h200 => assumption); (case zz84hgs => assumption); (case zz84h9 => assumption); k_whole; intro tzz84' dxzz84' hzz84' tkzz84' gszz84' r1zz84' r2zz84' t1zz84' t2zz84' pszz84' hTzz84' Fzz84' Nzz84' lazz84' lbzz84' e1zz84' e2zz84' k1zz84' k2zz84' bzz84'))
  trivial
theorem l1_fullK {w : World} {dp un : Nat} {gd : Option (List Code)} {cn : Str} {cs : Scope} {a : Addr} {ccd : Value} {cl : List (Str × Addr)} {A₀ : Around} {base h₀ : Heap} {L : Addr} {m : Str → Option Value} {s : Shared} {Q E : Value → Shared → Prop}
    {mean : ExcName → Option Value} {mg mb : Str → Option Value} {news : List (Addr × Obj)} {ps : Array Value} {ax ay : Addr} {xs ys : List Value} {cx cy : Nat}
    (B : Below A₀ base [] h₀) (F : Fr h₀ L s.heap m) (N : News h₀ L s.heap ((179, tabObj ps) :: news)) (hT : TabOk ps) (T : Top Mine.vw (looseW Mine.vw [Str.ofString "_tuplegetter", Str.ofString "LinearRegression", Str.ofString "linear_regression"]) mean mg mb h₀) (hk : cs.kind = .function) (hd : dp + 9 < recursionLimit) (hu : un + 60 < cLine)
    (hx : (ax, listOf xs.toArray cx) ∈ news) (hy : (ay, listOf ys.toArray cy) ∈ news) (hxl : xs.length < 200) (hyl : ys.length < 200)
    (XB : (Mine.hd.heap_39 w.params).In base) (TB : Top Mine.vw (looseW Mine.vw [Str.ofString "_tuplegetter", Str.ofString "LinearRegression", Str.ofString "linear_regression"]) mean mg mb base)
    (hlen : xs.length = ys.length) {U W : List Int} {n : Nat} {Xb Yb : Int} {pr qr : Nat → Int} (hn2 : 2 ≤ xs.length) (hn : 2 ≤ n) (h200 : n < 200) (K : FullOk xs ys U W n Xb Yb pr qr) {Sl M : Int} (D : FullEnd n Xb Yb pr qr Sl M) (hgs : AllBare s.gens) (h9 : ∀ p ∈ news, p.1 ≠ 179) (hQ : ∀ h' tk a c r1 t1 r2 t2 gs' ps', TabOk ps' → Fr h₀ L h' m → News h₀ L h' ((a, listOf #[.bool true, .bool true, .float r1 t1, .float r2 t2, .float r1 t1, .float r2 t2] c) :: (179, tabObj ps') :: news) → Mine.Ex r1 Sl → Mine.Ex r2 (Yb - M) → TokOk t1 → TokOk t2 → AllBare gs' → Q (.ref a) ⟨h', gs', s.drawn, tk, s.os⟩) :
    (Mine.hd.heap_39 w.params).In h₀ → wpAny (model PySem.Challenge.rw_kq0023_01.row.prog w) (ktrTop dp un gd cn cs L a ccd cl []) (call (.ref 189) [.ref ax, .ref ay, .bool false]) Q E s := by
  k_fill
  intro X
  refine wpAny_call ?_
  refine' code_any0 ?k1 ?k2 ?k3 ?k4 ?k5 ?kA ?kF ?kK ?k6 ?k7 ?k8 ?k9 ?kB ?_ ?c2 ?c3 ?c4 ?c5; (case kA => exact rfl); (case kF => exact rfl); (case kK => exact hk); (case k2 => k_asm); (case k1 => k_asm); (case k3 => k_asm); (case k4 => k_asm); (case k5 => k_asm); (case k6 => k_is); (case k7 => k_is); (case k8 => ktr_room); (case k9 => exact BindsTo.of_eq rfl); (case kB => exact locs rfl); (case c2 => exact rfl); (case c3 => exact rfl); (case c4 => exact rfl); (case c5 => decide)
  intro g' L' h' FG' F' N' B' X' T' D' l1
  (try dsimp only)
  (try k_fold)
  k_steps
  all_goals (try k_data)
  refine' hQ _ _ _ _ _ _ _ _ _ _ ?tt ?f ?n ?e1 ?e2 ?k1 ?k2 ?g
  case tt => assumption
  case f => assumption
  case n => exact news_subF (by assumption) sub4
  case e1 => assumption
  case e2 => assumption
  case k1 => assumption
  case k2 => assumption
  case g => assumption
theorem zz_LN1b_17 : True := by
  k_with "my call ref cons" =>
    (k_here; k_dflt (refine' lr_t ?zz85B ?zz85F ?zz85N ?zz85T ?zz85hk ?zz85hd ?zz85hu ?zz85hx ?zz85hy ?zz85hxl ?zz85hyl ?zz85hlen ?zz85hn ?zz85hxy ?zz85hxx ?zz85hne ?_ ?zz85X; (case zz85X => k_asm); (case zz85B => assumption); (case zz85F => k_asm); (case zz85N => k_asm); (case zz85T => assumption); (case zz85hk => rfl); (case zz85hd => ktr_room); (case zz85hu => ktr_units); (case zz85hx => k_ownIn); (case zz85hy => k_ownIn); (case zz85hxl => assumption); (case zz85hyl => assumption); (case zz85hlen => assumption); (case zz85hn => assumption); (case zz85hxy => assumption); (case zz85hxx => assumption); (case zz85hne => assumption); k_whole; intro tzz85' dxzz85' hzz85' tkzz85' rzz85' t1zz85' t2zz85' Fzz85' Nzz85' la1zz85 la2zz85 q1zz85 k1zz85 k2zz85; (try k_lt la1zz85); (try k_lt2 la2zz85)))
  trivial
theorem l1_t {w : World} {dp un : Nat} {gd : Option (List Code)} {cn : Str} {cs : Scope} {a : Addr} {ccd : Value} {cl : List (Str × Addr)} {A₀ : Around} {base h₀ : Heap} {L : Addr} {m : Str → Option Value} {s : Shared} {Q E : Value → Shared → Prop}
    {mean : ExcName → Option Value} {mg mb : Str → Option Value} {news : List (Addr × Obj)}  {ax ay : Addr} {xs ys : List Value} {cx cy : Nat}
    (B : Below A₀ base [] h₀) (F : Fr h₀ L s.heap m) (N : News h₀ L s.heap news) (T : Top Mine.vw (looseW Mine.vw [Str.ofString "_tuplegetter", Str.ofString "LinearRegression", Str.ofString "linear_regression"]) mean mg mb h₀) (hk : cs.kind = .function) (hd : dp + 9 < recursionLimit) (hu : un + 60 < cLine)
    (hx : (ax, listOf xs.toArray cx) ∈ news) (hy : (ay, listOf ys.toArray cy) ∈ news) (hxl : xs.length < 200) (hyl : ys.length < 200)
    (XB : (Mine.hd.heap_39 w.params).In base) (TB : Top Mine.vw (looseW Mine.vw [Str.ofString "_tuplegetter", Str.ofString "LinearRegression", Str.ofString "linear_regression"]) mean mg mb base)
    (hlen : xs.length = ys.length) (hn : 2 ≤ xs.length) {Sxy Sxx : Int} (hxy : SumIs xs ys Sxy) (hxx : SumIs xs xs Sxx) (hne : Sxx ≠ 0) (hQ : ∀ h' tk a c r1 t1 t2, Fr h₀ L h' m → News h₀ L h' ((a, listOf #[.bool true, .bool true, .float r1 t1, .float 0 t2, .float r1 t1, .float 0 t2] c) :: news) → Quo r1 Sxy Sxx → TokOk t1 → TokOk t2 → Q (.ref a) { s with heap := h', toks := tk }) :
    (Mine.hd.heap_39 w.params).In h₀ → wpAny (model PySem.Challenge.rw_kq0023_01.row.prog w) (ktrTop dp un gd cn cs L a ccd cl []) (call (.ref 189) [.ref ax, .ref ay, .bool true]) Q E s := by
  k_fill
  intro X
  refine wpAny_call ?_
  refine' code_any0 ?k1 ?k2 ?k3 ?k4 ?k5 ?kA ?kF ?kK ?k6 ?k7 ?k8 ?k9 ?kB ?_ ?c2 ?c3 ?c4 ?c5; (case kA => exact rfl); (case kF => exact rfl); (case kK => exact hk); (case k2 => k_asm); (case k1 => k_asm); (case k3 => k_asm); (case k4 => k_asm); (case k5 => k_asm); (case k6 => k_is); (case k7 => k_is); (case k8 => ktr_room); (case k9 => exact BindsTo.of_eq rfl); (case kB => exact locs rfl); (case c2 => exact rfl); (case c3 => exact rfl); (case c4 => exact rfl); (case c5 => decide)
  intro g' L' h' FG' F' N' B' X' T' D' l1
  (try dsimp only)
  (try k_fold)
  k_steps
  all_goals (try k_data)
  refine' hQ _ _ _ _ _ _ _ ?f ?n ?q ?k ?k2
  case f => assumption
  case n => exact news_subF (by assumption) sub4
  case q => assumption
  case k => assumption
  case k2 => assumption
end Mine
end

section
open PySem PySem.W PySem.Calls PyProof.Rows PySem.Spec
set_option maxRecDepth 100000
set_option maxHeartbeats 1000000
namespace Mine
section
variable {prog : Program} {w : World} {A : Around} {E : Value → Shared → Prop} {s : Shared} {h₀ : Heap} {L : Addr} {m : Str → Option Value} {news : List (Addr × Obj)} {xs : List Value} {l : Addr} {c : Nat} {value slice : Expr}
theorem fits200 {xs : List Value} (h : xs.length < 200) : xs.toArray.size ≤ sizeLine := by
  have z : 200 ≤ sizeLine := by decide
  rw [List.size_toArray]; omega
theorem cut_from {k : Nat} {t : Tok} {Q : Value → Shared → Prop} (F : Fr h₀ L s.heap m) (N : News h₀ L s.heap news) (hm : (l, listOf xs.toArray c) ∈ news) (hf : xs.length < 200)
    (hs : subscripted slice false (.ref l) (.ref s.heap.objs.size) = operate [.ref s.heap.objs.size, .ref l] (getItem (.ref l) (.ref s.heap.objs.size))) (ht : ∀ r, letTemporaryGo value (.ref l) r = pure ())
    (h : ∀ a h', Fr h₀ L h' m → News h₀ L h' ((a, listOf (xs.drop k).toArray 0) :: news) → (∀ p ∈ news, p.1 < a) → Q (.ref a) { s with heap := h' }) :
    wpAny (model prog w) A (subscriptTail value slice (.ref l) (.ref s.heap.objs.size)) Q E { s with heap := s.heap.push { cls := .type "slice", data := .fields #[.int (k : Int) t, .none, .none] } } := by
  refine slice_list F N (N.isList hm) (.int _ _) .none (fun h' F' N' => h _ h' F' ?_ fun p hp => Nat.lt_succ_of_lt (Heap.lt_size (N p hp).1)) hs ht (fits200 hf)
  rw [slicePick_from' xs.toArray k] at N'
  exact N'
end
end Mine
end

section
open PySem PySem.W PySem.Calls PyProof.Rows PySem.Spec
set_option maxRecDepth 100000
set_option maxHeartbeats 1000000
namespace Mine
def RangeStep (h₀ : Heap) (L : Addr) (I : Addr) (oI : Obj) (Jn : (Str → Option Value) → List (Addr × Obj) → Prop) (s : Shared) (f : Flow) (s' : Shared) : Prop :=
  f = .next ∧ ∃ h' tk' m₂ news₂, s' = ⟨h', s.gens, s.drawn, tk', s.os⟩ ∧ Fr h₀ L h' m₂ ∧ News h₀ L h' ((I, oI) :: news₂) ∧ (∀ p ∈ news₂, @Ne Nat p.1 I) ∧ Jn m₂ news₂
section
variable {prog : Program} {w : World} {A : Around} {E : Value → Shared → Prop} {s : Shared} {h₀ : Heap} {m : Str → Option Value} {env : Env} {x : Str} {body : List Stmt} {Q : Flow → Shared → Prop} {news : List (Addr × Obj)} {r : Addr} {t u v : Tok} {n : Nat}
end
end Mine
end

section
open PySem PySem.W PySem.Calls PyProof.Rows
set_option maxRecDepth 100000
set_option maxHeartbeats 1000000
namespace Mine
/-- a short factor -/
structure Sm (n : Int) : Prop where
  bits : Builtin.Int.intBits n ≤ 64
structure SmAll (us : List Int) : Prop where
  small : ∀ k ∈ us, k.natAbs < 2 ^ 40
theorem SmAll.sm {us : List Int} (h : SmAll us) {k : Int} (hk : k ∈ us) : Sm k := ⟨PySem.intBits_le_64 (by have := h.small k hk; omega) (by have := h.small k hk; omega)⟩
theorem SmAll.at {us : List Int} (h : SmAll us) (i : Nat) : Sm (us.getD i 0) := by
  rcases Nat.lt_or_ge i us.length with c | c
  · rw [List.getD_eq_getElem?_getD, List.getElem?_eq_getElem c]; exact h.sm (List.getElem_mem c)
  · rw [List.getD_eq_getElem?_getD, List.getElem?_eq_none c]; exact ⟨by decide⟩
structure ElF (f : Int → Int) (k : Int) (y : Value) : Prop where
  is : ∃ t, y = .int (f k) t
theorem ints_of {f : Int → Int} : ∀ {ks : List Int} {ys : List Value}, RelI (ElF f) ks ys → IntsAre ys (ks.map f)
  | _, _, .nil => .nil
  | _, _, .cons h t => by
    obtain ⟨u, rfl⟩ := h.is
    exact .cons _ _ (ints_of t)
theorem rng_line {n : Nat} (h : n < 200) : n ≤ sizeLine := by
  have z : 200 ≤ sizeLine := by decide
  omega
section
variable {prog : Program} {w : World} {A : Around} {h₀ : Heap} {L : Addr} {m : Str → Option Value} {env : Env} {elt : Expr} {x : Str} {scope : Scope} {cl : List (Str × Addr)} {s₁ : Shared} {Fin : Shared → List Value → List (Addr × Obj) → Prop} {news : List (Addr × Obj)} {vs us : List Int} {ys xs : List Value} {ay r : Addr} {c : Nat} {t u v : Tok}
end
section
variable {M : Model} {prog : Program} {w : World} {A : Around} {E : Value → Shared → Prop} {s : Shared} {h₀ : Heap} {L a c : Addr} {cn : Str} {cs : Scope} {ccd : Value} {cl : List (Str × Addr)} {news : List (Addr × Obj)} {o : Obj} {v : Value} {x : Str} {m : Str → Option Value} {ys : List Value} {ks : List Int}
theorem mul_l {x y : Int} {t u : Tok} {Q : Value → Shared → Prop} (h : Sm x) (hQ : Q (.int (x * y) s.toks) { s with toks := s.toks + 1 }) : wpAny (model prog w) A (binaryOp .Mult (.int x t) (.int y u)) Q E s := PyProof.Rows.mul_int hQ (IntMulOk.of_left h.bits)
end
end Mine
end

section
open PySem PySem.W
namespace Mine
theorem map_us_small (w : List Int) : SmAll (w.map fun k' => k'.fmod 101 - 50) := ⟨fun k hk => by
  obtain ⟨z, _, rfl⟩ := List.mem_map.mp hk
  have a := Int.fmod_nonneg_of_pos z (b := 101) (by decide)
  have b := Int.fmod_lt_of_pos z (b := 101) (by decide)
  show (z.fmod 101 - 50).natAbs < 2 ^ 40
  omega⟩
structure BdAll (B : Nat) (us : List Int) : Prop where
  bd : ∀ k ∈ us, k.natAbs ≤ B
theorem bd_sum {B : Nat} : ∀ {us : List Int}, BdAll B us → us.sum.natAbs ≤ B * us.length
  | [], _ => by simp
  | a :: l, h => by
    have h1 := h.bd a (.head _)
    have h2 := bd_sum (us := l) ⟨fun k hk => h.bd k (.tail _ hk)⟩
    rw [List.sum_cons, List.length_cons, Nat.mul_add]
    omega
theorem bd_us (w : List Int) : BdAll 51 (w.map fun k' => k'.fmod 101 - 50) := ⟨fun k hk => by
  obtain ⟨z, _, rfl⟩ := List.mem_map.mp hk
  have a := Int.fmod_nonneg_of_pos z (b := 101) (by decide)
  have b := Int.fmod_lt_of_pos z (b := 101) (by decide)
  show (z.fmod 101 - 50).natAbs ≤ 51
  omega⟩
theorem bd_map {α : Type} {B : Nat} {f : α → Int} {l : List α} (h : ∀ x ∈ l, (f x).natAbs ≤ B) : BdAll B (l.map f) := ⟨fun k hk => by
  obtain ⟨z, hz, rfl⟩ := List.mem_map.mp hk
  exact h z hz⟩
theorem bd_at {B : Nat} {us : List Int} (h : BdAll B us) (i : Nat) : (us.getD i 0).natAbs ≤ B := by
  rcases Nat.lt_or_ge i us.length with c | c
  · rw [List.getD_eq_getElem?_getD, List.getElem?_eq_getElem c]; exact h.bd _ (List.getElem_mem c)
  · rw [List.getD_eq_getElem?_getD, List.getElem?_eq_none c]; exact Nat.zero_le _
theorem sm_of {n : Int} (h : n.natAbs < 2 ^ 40) : Sm n := ⟨PySem.intBits_le_64 (by omega) (by omega)⟩
theorem mul_le {a b : Int} {A B : Nat} (ha : a.natAbs ≤ A) (hb : b.natAbs ≤ B) : (a * b).natAbs ≤ A * B := by
  rw [Int.natAbs_mul]; exact Nat.mul_le_mul ha hb
end Mine
end

section
open PySem PySem.W PySem.Calls PyProof.Rows Float64
set_option maxRecDepth 100000
set_option maxHeartbeats 1000000
set_option exponentiation.threshold 3000
namespace Mine
theorem ps_lin (f g : Nat → Int) (a b c : Int) : ∀ j, preSum (fun i => a * f i + b * g i + c) j = a * preSum f j + b * preSum g j + c * j
  | 0 => by simp [preSum]
  | j + 1 => by
    show preSum (fun i => a * f i + b * g i + c) j + (a * f j + b * g j + c) = a * (preSum f j + f j) + b * (preSum g j + g j) + c * ((j + 1 : Nat) : Int)
    rw [ps_lin f g a b c j]
    push_cast
    grind
theorem ps_scale (f : Nat → Int) (K : Int) : ∀ j, preSum (fun i => f i * K) j = preSum f j * K
  | 0 => by simp [preSum]
  | j + 1 => by
    show preSum (fun i => f i * K) j + f j * K = (preSum f j + f j) * K
    rw [ps_scale f K j]; grind
theorem ps_bound {f : Nat → Int} {B n : Nat} (h : ∀ i, i < n → (f i).natAbs ≤ B) : ∀ j, j ≤ n → (preSum f j).natAbs ≤ j * B
  | 0, _ => by simp [preSum]
  | j + 1, hj => by
    have h1 := ps_bound h j (by omega)
    have h2 := h j (by omega)
    show (preSum f j + f j).natAbs ≤ (j + 1) * B
    rw [Nat.add_mul, Nat.one_mul]
    omega
theorem ps_sq {d : Nat → Int} : ∀ {n : Nat}, 0 ≤ preSum (fun i => d i * d i) n ∧ (preSum (fun i => d i * d i) n = 0 → ∀ i, i < n → d i = 0)
  | 0 => ⟨Int.le_refl _, fun _ i hi => by omega⟩
  | n + 1 => by
    obtain ⟨h1, h2⟩ := ps_sq (d := d) (n := n)
    have h3 : 0 ≤ d n * d n := by rcases Int.le_total 0 (d n) with c | c
                                  · exact Int.mul_nonneg c c
                                  · exact Int.mul_nonneg_of_nonpos_of_nonpos c c
    refine ⟨Int.add_nonneg h1 h3, fun e i hi => ?_⟩
    have e' : preSum (fun i => d i * d i) n + d n * d n = 0 := e
    rcases Nat.lt_succ_iff_lt_or_eq.mp hi with c | rfl
    · exact h2 (by omega) i c
    · have : d i * d i = 0 := by omega
      rcases Int.mul_eq_zero.mp this with h | h <;> exact h
theorem getD_map {f : Int → Int} {us : List Int} {i : Nat} (h : i < us.length) : (us.map f).getD i 0 = f (us.getD i 0) := by
  rw [List.getD_eq_getElem?_getD, List.getD_eq_getElem?_getD, List.getElem?_map, List.getElem?_eq_getElem h]; rfl
theorem sum_ps {us : List Int} {n : Nat} (h : us.length = n) : us.sum = preSum (fun i => us.getD i 0) n := by
  rw [preSum_list, List.take_of_length_le (by omega)]
theorem getD_set {l : List Int} {a : Nat} {x : Int} (h : a < l.length) (i : Nat) : (l.set a x).getD i 0 = if i = a then x else l.getD i 0 := by
  rw [List.getD_eq_getElem?_getD, List.getD_eq_getElem?_getD, List.getElem?_set]
  by_cases e : a = i
  · subst e; simp [h]
  · simp [e, Ne.symm e]
theorem ps_upd {f g : Nat → Int} {a : Nat} {d : Int} (hne : ∀ i, i ≠ a → g i = f i) (ha : g a = f a + d) : ∀ n, preSum g n = preSum f n + if a < n then d else 0
  | 0 => by simp [preSum]
  | n + 1 => by
    show preSum g n + g n = preSum f n + f n + _
    rw [ps_upd hne ha n]
    by_cases e : n = a
    · subst e; rw [ha, if_neg (Nat.lt_irrefl _), if_pos (Nat.lt_succ_self _)]; omega
    · rw [hne n e]
      by_cases c : a < n
      · rw [if_pos c, if_pos (by omega)]; omega
      · rw [if_neg c, if_neg (by omega)]; omega
end Mine
end

section
open PySem PySem.W PySem.Calls PyProof.Rows
set_option maxRecDepth 100000
set_option maxHeartbeats 1000000
namespace Mine
theorem zz_A1 : True := by
  w_top off
  k_with_none
  trivial
def StopA (P : Prop) : Prop := P
theorem stopA_ {P : Prop} (h : StopA P) : P := h
theorem zz_A1_18 : True := by
  k_with "my execs cons" =>
    ((with_reducible show wpAny _ _ (execs (Stmt.Assign [Expr.Name (PySem.Str.ofString "times") _] _ _ :: _) _) _ _ _); refine stopA_ ?_)
  trivial
def levF (k : Int) : Int := if (if k < 0 then -k else k) < 2 ^ Int.toNat 8 then k else k.fmod (2 ^ Int.toNat 8)
def levL (scr : List Int) : List Int := (scr.map levF).set 0 ((scr.map levF).getD 0 0 - (scr.map levF).sum.fmod scr.length)
def aOf (scr : List Int) : Int := (scr.getD 0 0).fmod (2 ^ Int.toNat 11) - 2 ^ Int.toNat 10
def bOf (scr : List Int) : Int := (scr.getD (-1 + (scr.length : Int)).toNat 0).fmod (2 ^ Int.toNat 31) - 2 ^ Int.toNat 30
theorem a1 {w : World} {fa : Addr} {cd : Value} {h₀ : Heap} {mean : ExcName → Option Value} {mg mb : Str → Option Value} {s : Shared} {Q : Flow → Shared → Prop} {E : Value → Shared → Prop} {L aS : Addr} {m : Str → Option Value} {ws : List Value} {scr : List Int} {oA oB oS : Obj} {vA vB : Option Value} {tn : Tok}
    (B : Below callerA h₀ [] h₀) (F : Fr h₀ L s.heap (fun z => if z = Str.ofString "n" then some (.int (scr.length : Int) tn) else m z)) (N : News h₀ L s.heap [(aS, listOf ws.toArray 0), (179, tabObj #[]), (L + 1 + 1 + 1, oB), (L + 1 + 1, oA), (L + 1, oS)])
    (T : Top Mine.vw (looseW Mine.vw [Str.ofString "_tuplegetter", Str.ofString "LinearRegression", Str.ofString "linear_regression"]) mean mg mb h₀)
    (hne : (@LT.lt Nat _ 179 aS) ∧ (@LT.lt Nat _ (L + 1 + 1 + 1) aS) ∧ (@LT.lt Nat _ (L + 1 + 1) aS) ∧ (@LT.lt Nat _ (L + 1) aS)) (h9 : @LT.lt Nat _ 179 L) (hi : IntsAre ws scr) (lw : ws.length = scr.length) (h2 : 2 ≤ scr.length) (h40 : scr.length ≤ 40) (dS : oS.data = .cell (some (.ref aS))) (dA : oA.data = .cell vA) (dB : oB.data = .cell vB)
    (hQ : ∀ h' tk aL zl c oA' oB' tA tB, Fr h₀ L h' (fun z => if z = Str.ofString "level" then some (.ref aL) else if z = Str.ofString "n" then some (.int (scr.length : Int) tn) else m z) → News h₀ L h' [(aL, listOf (List.toArray zl) c), (aS, listOf ws.toArray 0), (179, tabObj #[]), (L + 1 + 1 + 1, oB'), (L + 1 + 1, oA'), (L + 1, oS)] →
      (@Ne Nat aS aL ∧ @Ne Nat 179 aL ∧ @Ne Nat (L + 1 + 1 + 1) aL ∧ @Ne Nat (L + 1 + 1) aL ∧ @Ne Nat (L + 1) aL) → IntsAre zl (levL scr) → oA'.data = .cell (some (.int (aOf scr) tA)) → oB'.data = .cell (some (.int (bOf scr) tB)) →
      wpAny (model PySem.Challenge.rw_kq0023_01.row.prog w) (callerA.deeper (envOfC (Str.ofString "law") lawScope L fa cd)) (execs (lawRest 7) (envOfC (Str.ofString "law") lawScope L fa cd)) Q E ⟨h', s.gens, s.drawn, tk, s.os⟩) :
    (Mine.hd.heap_39 w.params).In h₀ → wpAny (model PySem.Challenge.rw_kq0023_01.row.prog w) (callerA.deeper (envOfC (Str.ofString "law") lawScope L fa cd)) (execs (lawRest 3) (envOfC (Str.ofString "law") lawScope L fa cd)) Q E s := by
  k_fill
  intro X
  obtain ⟨n1, n2, n3, n4⟩ := hne
  dsimp only [lawRest, lawScope, lawFn, fnScope, fnBody, PySem.Challenge.pw_kq0023_01, List.getLastD, List.getLast, List.drop]
  k_steps
  all_goals (try k_data)
  unfold StopA
  rename News _ _ _ _ => NN
  rename Fr _ _ _ _ => FF
  exact hQ _ _ _ _ _ _ _ _ _ FF NN (by assumption) (by assumption) (by assumption) (by assumption)
end Mine
end

section
open PySem PySem.W PySem.Calls PyProof.Rows
set_option maxRecDepth 100000
set_option maxHeartbeats 1000000
namespace Mine
theorem zz_A2 : True := by
  w_top off
  k_with_none
  trivial
def StopB (P : Prop) : Prop := P
theorem stopB_ {P : Prop} (h : StopB P) : P := h
theorem zz_A2_19 : True := by
  k_with "my execs cons" =>
    ((with_reducible show wpAny _ _ (execs (Stmt.For _ _ _ _ _ :: _) _) _ _ _); refine stopB_ ?_)
  k_with "my binaryOp Mult int int" =>
    (k_here; refine mul_l (by assumption) ?_)
  trivial
def tmL (scr : List Int) : List Int := scr.map fun k => k.fmod 101 - 50
def xL (scr lev : List Int) : List Int := lev.map fun k => k + ((scr.getD 0 0).fdiv (2 ^ Int.toNat 11)).fmod (2 ^ Int.toNat 30)
def yL (a b : Int) (xs : List Int) : List Int := xs.map fun k => a * k + b
theorem a2 {w : World} {fa : Addr} {cd : Value} {h₀ : Heap} {mean : ExcName → Option Value} {mg mb : Str → Option Value} {s : Shared} {Q : Flow → Shared → Prop} {E : Value → Shared → Prop} {L aS aL : Addr} {m : Str → Option Value} {ws zl : List Value} {scr lev : List Int} {a b : Int} {n c : Nat} {oA oB oS : Obj} {tA tB tn : Tok}
    (B : Below callerA h₀ [] h₀) (F : Fr h₀ L s.heap (fun z => if z = Str.ofString "level" then some (.ref aL) else if z = Str.ofString "n" then some (.int (n : Int) tn) else m z)) (N : News h₀ L s.heap [(aL, listOf (List.toArray zl) c), (aS, listOf ws.toArray 0), (179, tabObj #[]), (L + 1 + 1 + 1, oB), (L + 1 + 1, oA), (L + 1, oS)])
    (T : Top Mine.vw (looseW Mine.vw [Str.ofString "_tuplegetter", Str.ofString "LinearRegression", Str.ofString "linear_regression"]) mean mg mb h₀)
    (hi : IntsAre ws scr) (hz : IntsAre zl lev) (lw : ws.length = n) (lz : zl.length = n) (ls : scr.length = n) (ll : lev.length = n) (h2 : 2 ≤ n) (h40 : n ≤ 40) (dS : oS.data = .cell (some (.ref aS))) (dA : oA.data = .cell (some (.int a tA))) (dB : oB.data = .cell (some (.int b tB))) (hsa : Sm a) (hsl : SmAll lev)
    (hQ : ∀ h' tk ax ay at' zx zy zt, Fr h₀ L h' (fun z => if z = Str.ofString "y" then some (.ref ay) else if z = Str.ofString "x" then some (.ref ax) else if z = Str.ofString "times" then some (.ref at') else if z = Str.ofString "level" then some (.ref aL) else if z = Str.ofString "n" then some (.int (n : Int) tn) else m z) →
      News h₀ L h' [(ay, LCg.lst zy), (ax, LCg.lst zx), (at', LCg.lst zt), (aL, listOf (List.toArray zl) c), (aS, listOf ws.toArray 0), (179, tabObj #[]), (L + 1 + 1 + 1, oB), (L + 1 + 1, oA), (L + 1, oS)] →
      (@Ne Nat at' ax ∧ @Ne Nat aL ax ∧ @Ne Nat aS ax ∧ @Ne Nat 179 ax ∧ @Ne Nat (L + 1 + 1 + 1) ax ∧ @Ne Nat (L + 1 + 1) ax ∧ @Ne Nat (L + 1) ax) → (@Ne Nat ax ay ∧ @Ne Nat at' ay ∧ @Ne Nat aL ay ∧ @Ne Nat aS ay ∧ @Ne Nat 179 ay ∧ @Ne Nat (L + 1 + 1 + 1) ay ∧ @Ne Nat (L + 1 + 1) ay ∧ @Ne Nat (L + 1) ay) →
      IntsAre zt (tmL scr) → IntsAre zx (xL scr lev) → IntsAre zy (yL a b (xL scr lev)) →
      wpAny (model PySem.Challenge.rw_kq0023_01.row.prog w) (callerA.deeper (envOfC (Str.ofString "law") lawScope L fa cd)) (execs (lawRest 10) (envOfC (Str.ofString "law") lawScope L fa cd)) Q E ⟨h', s.gens, s.drawn, tk, s.os⟩) :
    (Mine.hd.heap_39 w.params).In h₀ → wpAny (model PySem.Challenge.rw_kq0023_01.row.prog w) (callerA.deeper (envOfC (Str.ofString "law") lawScope L fa cd)) (execs (lawRest 7) (envOfC (Str.ofString "law") lawScope L fa cd)) Q E s := by
  k_fill
  intro X
  dsimp only [lawRest, lawScope, lawFn, fnScope, fnBody, PySem.Challenge.pw_kq0023_01, List.getLastD, List.getLast, List.drop]
  k_steps
  all_goals (try k_data)
  unfold StopB
  rename News _ _ _ _ => NN
  rename Fr _ _ _ _ => FF
  exact hQ _ _ _ _ _ _ _ _ FF NN (by assumption) (by assumption) (by assumption) (by assumption) (by assumption)
end Mine
end

section
open PySem PySem.W PySem.Calls PyProof.Rows PySem.Spec
set_option maxRecDepth 100000
set_option maxHeartbeats 1000000
namespace Mine
section
variable {prog : Program} {w : World} {A : Around} {E : Value → Shared → Prop} {s : Shared} {h₀ : Heap} {m : Str → Option Value} {env : Env} {x : Str} {body : List Stmt} {Q : Flow → Shared → Prop} {news : List (Addr × Obj)} {r : Addr} {t u v : Tok} {n : Nat}
/-- a loop over range(k, b) by what holds ahead of its i-th turn -/
theorem range_invF {k : Nat} (J : Nat → (Str → Option Value) → List (Addr × Obj) → Prop) (hh : A.handled = none) (F : Fr h₀ env.locals s.heap m) (N : News h₀ env.locals s.heap news) {b : Int} (hr : IsRange s.heap r (k : Int) b 1 t u v) (hb : b - k = n) (h2 : n < 200) (hk : k < 200) (h0 : J 0 m news)
    (turn : ∀ (i : Nat) t m₁ news₁ I oI h tk, i < n → J i m₁ news₁ → (∀ p ∈ news₁, @Ne Nat p.1 I) → Fr h₀ env.locals h (fun y => if y = x then some (.int ((k : Int) + (i : Int)) t) else m₁ y) → News h₀ env.locals h ((I, oI) :: news₁) →
      wpAny (model prog w) A (execs body env) (RangeStep h₀ env.locals I oI (J (i + 1)) ⟨h, s.gens, s.drawn, tk, s.os⟩) E ⟨h, s.gens, s.drawn, tk, s.os⟩)
    (done : ∀ h' tk m' news', Fr h₀ env.locals h' m' → News h₀ env.locals h' news' → J n m' news' → Q .next ⟨h', s.gens, s.drawn, tk, s.os⟩) :
    wpAny (model prog w) A (pyIter (.ref r)) (fun it s₂ => LoopAtV prog w A h₀ env x body Q E it s₂) E s := by
  refine wpAny_pyIter_range hr (small_one (by omega) (by omega) (by omega) (by omega)) ?_
  have lt := F.ns.lt
  have off : ∀ p ∈ news, p.1 ≠ s.heap.objs.size := fun p hp => Nat.ne_of_lt (Heap.lt_size (N p hp).1)
  refine ⟨s.heap.objs.size, [s.heap.objs.size], [s.heap.objs.size], n, _, _, m, news, J, rfl, LCg.range_walks hh k n, ?_, ?_, ?_, ?_, F.keeps fun _ _ e => Heap.get?_push_of_some _ e, N.grown fun _ _ e => Heap.get?_push_of_some _ e, h0, ?_, ?_⟩
  · simp; exact Nat.ne_of_lt lt
  · intro b hb
    rw [List.mem_singleton.mp hb]
    exact next_is_new F
  · intro p hp hm
    exact off p hp (List.mem_singleton.mp hm)
  · show IsRangeIter _ _ _ _ _
    rw [show Builtin.Range.rangeSize k b 1 = (n : Int) by rw [rangeSize_nat]; omega]
    simpa using Heap.get?_push_size _ rfl
  · rintro i v m₁ news₁ s₁ own ⟨h, tk, rfl⟩ hi ⟨tv, rfl⟩ hJ ho1 ho2 ho3 ho4 hst F₁ N₁
    obtain ⟨oI, hst'⟩ : ∃ oI, h.get? s.heap.objs.size = some oI := ⟨_, hst⟩
    have hown : (s.heap.objs.size, oI) ∈ own := ho4 _ (List.mem_singleton.mpr rfl) (next_is_new F) _ hst'
    have N₂ : News h₀ env.locals h ((s.heap.objs.size, oI) :: news₁) := fun p hp => by
      rcases List.mem_cons.mp hp with rfl | hp
      · exact N₁ _ (List.mem_append_left _ hown)
      · exact N₁ _ (List.mem_append_right _ hp)
    refine wpAny_mono (turn i tv m₁ news₁ s.heap.objs.size oI h tk hi hJ (fun p hp e => ho1 p hp (List.mem_singleton.mpr e)) F₁ N₂) (fun f s' hq => ?_) fun _ _ e => e
    obtain ⟨rfl, h', tk', m₂, news₂, rfl, F₃, N₃, off₃, hJ'⟩ := hq
    refine LoopStepV.next (LoopStepU.intro F₃ (fun p hp => ?_) (fun p hp hm => off₃ p hp (List.mem_singleton.mp hm)) hJ')
    rcases List.mem_append.mp hp with hp | hp
    · have e1 := List.mem_singleton.mp (ho2 p hp)
      have e2 := ho3 p hp
      rw [e1] at e2
      have e3 : some oI = some p.2 := hst'.symm.trans e2
      have : p = (s.heap.objs.size, oI) := Prod.ext e1 (Option.some.inj e3).symm
      rw [this]
      exact N₃ _ (.head _)
    · exact N₃ _ (.tail _ hp)
  · intro h' tk m' news' F' N' _ hJ'
    exact done h' tk m' news' F' N' hJ'
end
end Mine
end

section
open PySem PySem.W
set_option maxRecDepth 100000
namespace Mine
/-- one place of a list is raised -/
def upd (l : List Int) (a : Nat) (d : Int) : List Int := l.set a (l.getD a 0 + d)
def updS (l : List Int) (a : Nat) (d : Int) : List Int := l.set a (l.getD a 0 - d)
theorem updS_eq (l : List Int) (a : Nat) (d : Int) : updS l a d = upd l a (-d) := by
  unfold upd updS
  rw [Int.sub_eq_add_neg]
theorem upd_len (l : List Int) (a : Nat) (d : Int) : (upd l a d).length = l.length := List.length_set
theorem upd_at {l : List Int} {a : Nat} {d : Int} (h : a < l.length) (j : Nat) : (upd l a d).getD j 0 = l.getD j 0 + if j = a then d else 0 := by
  unfold upd
  rw [getD_set h]
  split
  · rename_i e; rw [e]
  · omega
theorem upd_dot {l : List Int} {a n : Nat} {d : Int} (h : l.length = n) (ha : a < n) (f : Nat → Int) : preSum (fun j => f j * (upd l a d).getD j 0) n = preSum (fun j => f j * l.getD j 0) n + f a * d := by
  rw [ps_upd (f := fun j => f j * l.getD j 0) (g := fun j => f j * (upd l a d).getD j 0) (a := a) (d := f a * d) (fun j hj => by rw [upd_at (by omega), if_neg hj, Int.add_zero]) (by rw [upd_at (by omega), if_pos rfl]; grind) n, if_pos ha]
theorem upd_sum {l : List Int} {a n : Nat} {d : Int} (h : l.length = n) (ha : a < n) : preSum (fun j => (upd l a d).getD j 0) n = preSum (fun j => l.getD j 0) n + d := by
  rw [ps_upd (f := fun j => l.getD j 0) (g := fun j => (upd l a d).getD j 0) (a := a) (d := d) (fun j hj => by rw [upd_at (by omega), if_neg hj, Int.add_zero]) (by rw [upd_at (by omega), if_pos rfl]) n, if_pos ha]
structure InvA (us y0 : List Int) (n B : Nat) (i : Nat) (ys : List Int) : Prop where
  len : ys.length = n
  sum : preSum (fun j => ys.getD j 0) n = preSum (fun j => y0.getD j 0) n
  dot : preSum (fun j => us.getD j 0 * ys.getD j 0) n = preSum (fun j => us.getD j 0 * y0.getD j 0) n
  bd : ∀ j, (ys.getD j 0 - y0.getD j 0).natAbs ≤ B * i
theorem inv_stepA {us y0 ts ys : List Int} {n BD i : Nat} {J : Int} (h : InvA us y0 n BD i ys) (hi : i < n - 2) (hJ : J = ((2 : Nat) : Int) + (i : Int)) (hB : ∀ i j k, j < n → k < n → (ts.getD i 0 * (us.getD j 0 - us.getD k 0)).natAbs ≤ BD) :
    InvA us y0 n BD (i + 1) (upd (upd (upd ys (J - 2).toNat (ts.getD J.toNat 0 * (us.getD (J - 1).toNat 0 - us.getD J.toNat 0))) (J - 1).toNat (ts.getD J.toNat 0 * (us.getD J.toNat 0 - us.getD (J - 2).toNat 0))) J.toNat (ts.getD J.toNat 0 * (us.getD (J - 2).toNat 0 - us.getD (J - 1).toNat 0))) := by
  have e0 : (J - 2).toNat = i := by omega
  have e1 : (J - 1).toNat = i + 1 := by omega
  have e2 : J.toNat = i + 2 := by omega
  rw [e0, e1, e2]
  have hl := h.len
  have b1 := hB (i + 2) (i + 1) (i + 2) (by omega) (by omega)
  have b2 := hB (i + 2) (i + 2) i (by omega) (by omega)
  have b3 := hB (i + 2) i (i + 1) (by omega) (by omega)
  have l1 : ∀ d, (upd ys i d).length = n := fun d => by rw [upd_len, hl]
  have l2 : ∀ d e, (upd (upd ys i d) (i + 1) e).length = n := fun d e => by rw [upd_len, l1]
  refine ⟨by rw [upd_len, l2], ?_, ?_, fun j => ?_⟩
  · rw [upd_sum (l2 _ _) (by omega), upd_sum (l1 _) (by omega), upd_sum hl (by omega), h.sum]
    grind
  · rw [upd_dot (l2 _ _) (by omega), upd_dot (l1 _) (by omega), upd_dot hl (by omega), h.dot]
    grind
  · rw [upd_at (by rw [l2]; omega), upd_at (by rw [l1]; omega), upd_at (by omega)]
    have hj := h.bd j
    rw [Nat.mul_add, Nat.mul_one]
    generalize BD * i = X at *
    split <;> split <;> split <;> omega
structure InvB (us y0 : List Int) (n B : Nat) (i : Nat) (ys : List Int) : Prop where
  len : ys.length = n
  dot : preSum (fun j => us.getD j 0 * ys.getD j 0) n = preSum (fun j => us.getD j 0 * y0.getD j 0) n
  bd : ∀ j, (ys.getD j 0 - y0.getD j 0).natAbs ≤ B * i
theorem inv_stepB {us y0 ts ys : List Int} {n BD i : Nat} {J : Int} (h : InvB us y0 n BD i ys) (hi : i < n - 1) (hJ : J = ((1 : Nat) : Int) + (i : Int)) (hB : ∀ i j, (ts.getD i 0 * us.getD j 0).natAbs ≤ BD) :
    InvB us y0 n BD (i + 1) (updS (upd ys (J - 1).toNat (ts.getD J.toNat 0 * us.getD J.toNat 0)) J.toNat (ts.getD J.toNat 0 * us.getD (J - 1).toNat 0)) := by
  have e1 : (J - 1).toNat = i := by omega
  have e2 : J.toNat = i + 1 := by omega
  rw [e1, e2, updS_eq]
  have hl := h.len
  have b1 := hB (i + 1) (i + 1)
  have b2 := hB (i + 1) i
  have l1 : ∀ d, (upd ys i d).length = n := fun d => by rw [upd_len, hl]
  refine ⟨by rw [upd_len, l1], ?_, fun j => ?_⟩
  · rw [upd_dot (l1 _) (by omega), upd_dot hl (by omega), h.dot]
    grind
  · rw [upd_at (by rw [l1]; omega), upd_at (by omega)]
    have hj := h.bd j
    rw [Nat.mul_add, Nat.mul_one]
    generalize BD * i = X at *
    split <;> split <;> omega
end Mine
end

section
open PySem PySem.W PySem.Calls PyProof.Rows
set_option maxRecDepth 100000
set_option maxHeartbeats 1000000
namespace Mine
theorem zz_A3 : True := by
  w_top off
  k_with_none
  trivial
def lawForA : Stmt := (lawRest 10).headD (.Pass default)
def StopC (P : Prop) : Prop := P
theorem stopC_ {P : Prop} (h : StopC P) : P := h
theorem map_k5 {m : Str → Option Value} {k a b c d e : Str} {v va vb vc vd ve : Value} (ha : m a = some va) (hb : m b = some vb) (hc : m c = some vc) (hd : m d = some vd) (he : m e = some ve) : (fun y => if y = k then some v else m y) = fun y => if y = k then some v else if y = a then some va else if y = b then some vb else if y = c then some vc else if y = d then some vd else if y = e then some ve else m y := by
  funext y
  by_cases h0 : y = k
  · rw [if_pos h0, if_pos h0]
  · rw [if_neg h0, if_neg h0]
    by_cases h1 : y = a
    · rw [if_pos h1, h1, ha]
    · rw [if_neg h1]
      by_cases h2 : y = b
      · rw [if_pos h2, h2, hb]
      · rw [if_neg h2]
        by_cases h3 : y = c
        · rw [if_pos h3, h3, hc]
        · rw [if_neg h3]
          by_cases h4 : y = d
          · rw [if_pos h4, h4, hd]
          · rw [if_neg h4]
            by_cases h5 : y = e
            · rw [if_pos h5, h5, he]
            · rw [if_neg h5]
theorem zz_A3_20 : True := by
  k_with "my exec For Name Call cons nil" =>
    (k_here; (rename Fr _ _ _ _ => lFzz89'); (with_unfolding_all refine' For_invVF lFzz89' ?zz89k1 ?zz89k2 ?_; (case zz89k1 => exact rfl); (case zz89k2 => exact rfl); k_whole))
  k_with "my pyIter ref" =>
    (refine stopC_ ?_)
  k_with "my RangeStep" =>
    (refine stopC_ ?_)
  k_with "my setItem ref int int" =>
    (k_here; k_dflt (refine' ksa_set ?zz92F ?zz92N ?zz92U ?zz92i ?zz92a ?zz92b ?zz92c ?_; (case zz92F => k_asm); (case zz92N => k_asm); (case zz92U => k_upd); (case zz92i => assumption); (case zz92a => omega); (case zz92b => omega); (case zz92c => omega); k_whole); intro hzz92' Fzz92' Nzz92' hizz92' hlzz92' hszz92')
  k_with "my binaryOp Mult int int" =>
    (k_here; refine mul_l (SmAll.at (by assumption) _) ?_)
  trivial
theorem loopA {w : World} {fa : Addr} {cd : Value} {h₀ : Heap} {mean : ExcName → Option Value} {mg mb : Str → Option Value} {s : Shared} {Q : Flow → Shared → Prop} {R1 R2 : Value → Shared → Prop} {L aS aL ax ay at' : Addr} {m : Str → Option Value} {ws zl zx zy zt : List Value} {lev us ts y0 : List Int} {n c : Nat} {oA oB oS : Obj} {tn : Tok} {BD : Nat}
    (B : Below callerA h₀ [] h₀) (F : Fr h₀ L s.heap (fun z => if z = Str.ofString "y" then some (.ref ay) else if z = Str.ofString "x" then some (.ref ax) else if z = Str.ofString "times" then some (.ref at') else if z = Str.ofString "level" then some (.ref aL) else if z = Str.ofString "n" then some (.int (n : Int) tn) else m z)) (N : News h₀ L s.heap [(ay, LCg.lst zy), (ax, LCg.lst zx), (at', LCg.lst zt), (aL, listOf (List.toArray zl) c), (aS, listOf ws.toArray 0), (179, tabObj #[]), (L + 1 + 1 + 1, oB), (L + 1 + 1, oA), (L + 1, oS)])
    (T : Top Mine.vw (looseW Mine.vw [Str.ofString "_tuplegetter", Str.ofString "LinearRegression", Str.ofString "linear_regression"]) mean mg mb h₀)
    (hne : (@Ne Nat ax ay ∧ @Ne Nat at' ay ∧ @Ne Nat aL ay ∧ @Ne Nat aS ay ∧ @Ne Nat 179 ay ∧ @Ne Nat (L + 1 + 1 + 1) ay ∧ @Ne Nat (L + 1 + 1) ay ∧ @Ne Nat (L + 1) ay))
    (ht : IntsAre zt ts) (hx : IntsAre zx us) (hy : IntsAre zy y0) (lt : ts.length = n) (lu : us.length = n) (ly : y0.length = n) (h2 : 2 ≤ n) (h40 : n ≤ 40) (hst : SmAll ts) (hB : ∀ i j k, j < n → k < n → (ts.getD i 0 * (us.getD j 0 - us.getD k 0)).natAbs ≤ BD)
    (hQ : ∀ h' tk zs ys c' m', Fr h₀ L h' m' → News h₀ L h' [(ay, listOf (List.toArray zs) c'), (ax, LCg.lst zx), (at', LCg.lst zt), (aL, listOf (List.toArray zl) c), (aS, listOf ws.toArray 0), (179, tabObj #[]), (L + 1 + 1 + 1, oB), (L + 1 + 1, oA), (L + 1, oS)] → IntsAre zs ys → InvA us y0 n BD (n - 2) ys →
      m' (Str.ofString "y") = some (.ref ay) → m' (Str.ofString "x") = some (.ref ax) → m' (Str.ofString "times") = some (.ref at') → m' (Str.ofString "level") = some (.ref aL) → m' (Str.ofString "n") = some (.int (n : Int) tn) → Q .next { s with heap := h', toks := tk }) :
    (Mine.hd.heap_39 w.params).In h₀ → wpAny (model PySem.Challenge.rw_kq0023_01.row.prog w) (callerA.deeper (envOfC (Str.ofString "law") lawScope L fa cd)) (exec lawForA (envOfC (Str.ofString "law") lawScope L fa cd)) Q (fun e s' => wpAny (model PySem.Challenge.rw_kq0023_01.row.prog w) (callerA.deeper (envOfC (Str.ofString "law") lawScope L fa cd)) (leaving (envOfC (Str.ofString "law") lawScope L fa cd) e) (fun _ s'' => R1 e s'') (fun e' s'' => R2 e' s'') s') s := by
  k_fill
  intro X
  dsimp only [lawForA, lawRest, lawScope, lawFn, fnScope, fnBody, PySem.Challenge.pw_kq0023_01, List.getLastD, List.getLast, List.drop, List.headD]
  k_steps
  unfold StopC
  rename IsRange _ _ _ _ _ _ _ _ => hR
  rename News _ _ _ _ => NN
  rename Fr _ _ _ _ => FF
  have elx : zx.length = n := by rw [hx.length]; exact lu
  have elt : zt.length = n := by rw [ht.length]; exact lt
  refine range_invF (k := 2) (n := n - 2) (fun i m₁ news₁ => m₁ (Str.ofString "y") = some (.ref ay) ∧ m₁ (Str.ofString "x") = some (.ref ax) ∧ m₁ (Str.ofString "times") = some (.ref at') ∧ m₁ (Str.ofString "level") = some (.ref aL) ∧ m₁ (Str.ofString "n") = some (.int (n : Int) tn) ∧ ∃ zs ys c', news₁ = (ay, listOf (List.toArray zs) c') :: [(ax, LCg.lst zx), (at', LCg.lst zt), (aL, listOf (List.toArray zl) c), (aS, listOf ws.toArray 0), (179, tabObj #[]), (L + 1 + 1 + 1, oB), (L + 1 + 1, oA), (L + 1, oS)] ∧ IntsAre zs ys ∧ InvA us y0 n BD i ys) rfl FF NN hR (by omega) (by omega) (by omega) ⟨rfl, rfl, rfl, rfl, rfl, zy, y0, _, rfl, hy, ⟨ly, rfl, rfl, fun j => by rw [Int.sub_self]; exact Nat.zero_le _⟩⟩ (fun i t m₁ news₁ I oI h tk hi' hJ off F₁ N₁ => ?_) (fun h' tk m' news' F' N' hJ => ?_)
  · obtain ⟨hm1, hm2, hm3, hm4, hm5, zs, ys, c', rfl, hz, hP⟩ := hJ
    rw [map_k5 hm1 hm2 hm3 hm4 hm5] at F₁
    have hlen := hP.len
    have hneI : @Ne Nat ay I := off _ (.head _)
    have hll := hz.length
    (try clear FF); (try clear NN)
    k_steps
    all_goals (try k_data)
    unfold StopC
    rename News _ _ _ _ => NN2
    rename Fr _ _ _ _ => FF2
    refine ⟨rfl, _, _, _, _, rfl, FF2, NN2, fun p hp => ?_, rfl, rfl, rfl, rfl, rfl, _, _, _, rfl, by assumption, inv_stepA hP hi' rfl hB⟩
    rcases List.mem_cons.mp hp with rfl | hp
    · exact hneI
    · exact off _ (.tail _ hp)
  · obtain ⟨hm1, hm2, hm3, hm4, hm5, zs, ys, c', rfl, hz, hP⟩ := hJ
    exact hQ _ _ _ _ _ _ F' N' hz hP hm1 hm2 hm3 hm4 hm5
end Mine
end

section
open PySem PySem.W PySem.Calls PyProof.Rows
set_option maxRecDepth 100000
set_option maxHeartbeats 1000000
namespace Mine
theorem zz_A4 : True := by
  w_top off
  k_with_none
  trivial
def StopD (P : Prop) : Prop := P
theorem stopD_ {P : Prop} (h : StopD P) : P := h
theorem zz_A4_21 : True := by
  k_with "my call ref cons" =>
    (k_here; (with_reducible show wpAny _ _ (call (Value.ref 189) _ _) _ _ _); k_dflt (refine' l1_len ?zz94B ?zz94F ?zz94N ?zz94T ?zz94hk ?zz94hd ?zz94hu ?zz94hx ?zz94hy ?zz94hxl ?zz94hyl ?zz94XB ?zz94TB ?zz94hlen ?_ ?zz94X; (case zz94X => k_asm); (case zz94B => assumption); (case zz94F => k_asm); (case zz94N => k_asm); (case zz94T => assumption); (case zz94hk => rfl); (case zz94hd => ktr_room); (case zz94hu => ktr_units); (case zz94hx => k_mem); (case zz94hy => k_mem); (case zz94XB => assumption); (case zz94TB => assumption); (case zz94hxl => first | omega | (simp only [List.length_drop]; omega)); (case zz94hyl => first | omega | (simp only [List.length_drop]; omega)); (case zz94hlen => (simp only [List.length_drop]; omega)); k_whole; intro hzz94' tkzz94' azz94' czz94' tzz94' Fzz94' Nzz94'))
  k_with "my subscriptTail Name Slice ref ref" =>
    (k_here; with_unfolding_all (refine' cut_from (s := ⟨_, _, _, _, _⟩) ?zz95F ?zz95N ?zz95m ?zz95f ?zz95hs ?zz95ht ?_; (case zz95F => k_asm); (case zz95N => k_asm); (case zz95m => k_mem); (case zz95f => omega); (case zz95hs => rfl); (case zz95ht => (intro _; rfl)); k_whole; intro azz95' hzz95' Fzz95' Nzz95' l1zz95; (try k_lt l1zz95)))
  k_with "my execs cons" =>
    ((with_reducible show wpAny _ _ (execs (Stmt.Assign [Expr.Name (PySem.Str.ofString "flat") _] _ _ :: _) _) _ _ _); refine stopD_ ?_)
  trivial
theorem k_nil {all : List (Addr × Obj)} : ∀ q ∈ ([] : List (Addr × Obj)), q ∈ all := fun q h => by cases h
theorem k_cons {all l : List (Addr × Obj)} {p : Addr × Obj} (h : p ∈ all) (t : ∀ q ∈ l, q ∈ all) : ∀ q ∈ p :: l, q ∈ all := fun q hq => by
  rcases List.mem_cons.mp hq with rfl | hq
  · exact h
  · exact t q hq
theorem a4 {w : World} {fa : Addr} {cd : Value} {h₀ : Heap} {mean : ExcName → Option Value} {mg mb : Str → Option Value} {s : Shared} {Q : Flow → Shared → Prop} {R1 R2 : Value → Shared → Prop} {L aS aL ax ay at' : Addr} {m : Str → Option Value} {ws zl zx zy zt : List Value} {n c cy : Nat} {oA oB oS : Obj} {tn : Tok}
    (B : Below callerA h₀ [] h₀) (F : Fr h₀ L s.heap (fun z => if z = Str.ofString "y" then some (.ref ay) else if z = Str.ofString "x" then some (.ref ax) else if z = Str.ofString "times" then some (.ref at') else if z = Str.ofString "level" then some (.ref aL) else if z = Str.ofString "n" then some (.int (n : Int) tn) else m z)) (N : News h₀ L s.heap [(ay, listOf (List.toArray zy) cy), (ax, LCg.lst zx), (at', LCg.lst zt), (aL, listOf (List.toArray zl) c), (aS, listOf ws.toArray 0), (179, tabObj #[]), (L + 1 + 1 + 1, oB), (L + 1 + 1, oA), (L + 1, oS)])
    (T : Top Mine.vw (looseW Mine.vw [Str.ofString "_tuplegetter", Str.ofString "LinearRegression", Str.ofString "linear_regression"]) mean mg mb h₀)
    (lx : zx.length = n) (ly : zy.length = n) (h2 : 2 ≤ n) (h40 : n ≤ 40)
    (hQ : ∀ h' tk m', Fr h₀ L h' m' → News h₀ L h' [(ay, listOf (List.toArray zy) cy), (ax, LCg.lst zx), (at', LCg.lst zt), (aL, listOf (List.toArray zl) c), (aS, listOf ws.toArray 0), (179, tabObj #[]), (L + 1 + 1 + 1, oB), (L + 1 + 1, oA), (L + 1, oS)] →
      m' (Str.ofString "y") = some (.ref ay) → m' (Str.ofString "x") = some (.ref ax) → m' (Str.ofString "times") = some (.ref at') → m' (Str.ofString "level") = some (.ref aL) → m' (Str.ofString "n") = some (.int (n : Int) tn) →
      wpAny (model PySem.Challenge.rw_kq0023_01.row.prog w) (callerA.deeper (envOfC (Str.ofString "law") lawScope L fa cd)) (execs (lawRest 13) (envOfC (Str.ofString "law") lawScope L fa cd)) Q (fun e s' => wpAny (model PySem.Challenge.rw_kq0023_01.row.prog w) (callerA.deeper (envOfC (Str.ofString "law") lawScope L fa cd)) (leaving (envOfC (Str.ofString "law") lawScope L fa cd) e) (fun _ s'' => R1 e s'') (fun e' s'' => R2 e' s'') s') ⟨h', s.gens, s.drawn, tk, s.os⟩) :
    (Mine.hd.heap_39 w.params).In h₀ → wpAny (model PySem.Challenge.rw_kq0023_01.row.prog w) (callerA.deeper (envOfC (Str.ofString "law") lawScope L fa cd)) (execs (lawRest 11) (envOfC (Str.ofString "law") lawScope L fa cd)) Q (fun e s' => wpAny (model PySem.Challenge.rw_kq0023_01.row.prog w) (callerA.deeper (envOfC (Str.ofString "law") lawScope L fa cd)) (leaving (envOfC (Str.ofString "law") lawScope L fa cd) e) (fun _ s'' => R1 e s'') (fun e' s'' => R2 e' s'') s') s := by
  k_fill
  intro X
  dsimp only [lawRest, lawScope, lawFn, fnScope, fnBody, PySem.Challenge.pw_kq0023_01, List.getLastD, List.getLast, List.drop]
  k_steps
  all_goals (try k_data)
  unfold StopD
  rename News _ _ _ _ => NN
  rename Fr _ _ _ _ => FF
  exact hQ _ _ _ FF (news_subF NN (by repeat (first | exact k_nil | (refine k_cons (by k_mem) ?_)))) rfl rfl rfl rfl rfl
end Mine
end

section
open PySem PySem.W PySem.Calls PyProof.Rows Float64
set_option maxRecDepth 100000
set_option maxHeartbeats 1000000
namespace Mine
structure Tny (k : Int) : Prop where
  is : k.natAbs < 2 ^ 1023
structure FlEl (f : Int → Int) (k : Int) (y : Value) : Prop where
  is : ∃ r t, y = .float r t ∧ Mine.Ex r (f k)
/-- h / d is exact and is h * P -/
structure DivP (h d P : Int) : Prop where
  tny : Tny h
  ex : ∀ r, Quo r h d → Mine.Ex r (h * P)
/-- (h / d + e * x), exact -/
structure AddP (h P e : Int) (vs : List Int) : Prop where
  fk : ∀ k ∈ vs, Fits (e * k * 2 ^ 1074)
  fs : ∀ k ∈ vs, Fits (h * P + e * k * 2 ^ 1074)
section
variable {prog : Program} {w : World} {A : Around} {E : Value → Shared → Prop} {s : Shared} {Q : Value → Shared → Prop} {h d P e k S : Int} {x : UInt64} {tk tk' : Tok} {vs : List Int}
theorem div_p (D : DivP h d P) (hA : A.handled = none) (hd : d ≠ 0) (hp : 0 < s.toks) (hQ : ∀ r t, Mine.Ex r (h * P) → TokOk t → Q (.float r t) { s with toks := s.toks + 1 }) : wpAny (model prog w) A (binaryOp .Div (.int h tk) (.int d tk')) Q E s :=
  PySem.Flt.div_ii_fits hA D.tny.is (fun h0 => absurd h0 hd) fun _ _ => hQ _ _ (D.ex _ (quo_ofFrac hd)) (.pos hp)
/-- a difference of two floats, exact -/
structure SubP (a b : Int) : Prop where
  f : Fits (a - b)
end
/-- an element that may be added to h * P -/
structure InP (h P k : Int) : Prop where
  a : Fits (2 * k * 2 ^ 1074)
  b : Fits (h * P + 2 * k * 2 ^ 1074)
  c : Fits (k * 2 ^ 1074)
  d : Fits (h * P - k * 2 ^ 1074)
structure AllP (h P : Int) (vs : List Int) : Prop where
  is : ∀ k ∈ vs, InP h P k
def twoF (h P : Int) (k : Int) : Int := h * P + 2 * k * 2 ^ 1074
def oneF (h P : Int) (k : Int) : Int := h * P - k * 2 ^ 1074
section
variable {prog : Program} {w : World} {A : Around} {E : Value → Shared → Prop} {s : Shared} {Q : Value → Shared → Prop} {h P k : Int} {x : UInt64} {tk tk' : Tok}
end
section
variable {prog : Program} {w : World} {A : Around} {h₀ : Heap} {L : Addr} {m : Str → Option Value} {env : Env} {elt : Expr} {x : Str} {scope : Scope} {cl : List (Str × Addr)} {s₁ : Shared} {Fin : Shared → List Value → List (Addr × Obj) → Prop} {news : List (Addr × Obj)} {vs : List Int} {ys : List Value} {ay : Addr} {c : Nat} {f : Int → Int} {h P : Int}
end
end Mine
end

section
open PySem PySem.W PySem.Calls PyProof.Rows PySem.Spec
set_option maxRecDepth 100000
set_option maxHeartbeats 1000000
namespace Mine
def nbIn (K : Frag) : Bool := match K.lookup cStatics with
  | some ⟨_, _, .dict es _, _⟩ => es.toList.all (fun e => match e.key with | .str _ _ => true | _ => false) && (nsFind es sharingNotToldKey).isNone
  | _ => false
theorem nb_of {K : Frag} {h : Heap} (X : K.In h) (e : nbIn K = true) : NoneBooked h := by
  unfold nbIn at e
  split at e
  · rename_i es n _ ho
    rw [Bool.and_eq_true] at e
    refine ⟨fun nm => nsFind es nm, ⟨_, es, _, X _ _ ho, rfl, fun x hx => ?_, fun _ => rfl⟩, Option.isNone_iff_eq_none.mp e.2⟩
    have := List.all_eq_true.mp e.1 x (Array.mem_toList_iff.mpr hx)
    cases hk : x.key <;> simp [hk] at this
    exact ⟨_, _, rfl⟩
  · cases e
section
variable {prog : Program} {w : World} {A : Around} {E : Value → Shared → Prop} {s : Shared}
theorem isSame_flt {M : Model} {a b : UInt64} {t u : Tok} {Q : Bool → Shared → Prop} (ht : t ≠ 0) (hu : u ≠ 0) (hb : NoneBooked s.heap) (hq : ∀ b, Q b s) : wpAny M A (isSame (.float a t) (.float b u)) Q E s := by
  show wpAny M A (isSame.created (a == b && !Float64.isNaN a) t u) Q E s
  have h0 : (t == 0 || u == 0) = false := by simp [ht, hu]
  unfold isSame.created
  refine wpAny_ite ?_
  split
  · rename_i h; rw [h0] at h; exact absurd h Bool.false_ne_true
  refine wpAny_ite ?_
  split
  · exact wpAny_pure (hq _)
  refine wpAny_ite ?_
  split
  · exact wpAny_pure (hq _)
  refine wpAny_bind (wpAny_sharingNotTold_none hb ?_)
  first | rw [if_neg Bool.false_ne_true] | simp only [Bool.false_eq_true, if_false]
  refine wpAny_bind (wpAny_sharingNotTold_none hb ?_)
  first | rw [if_neg Bool.false_ne_true] | simp only [Bool.false_eq_true, if_false]
  exact wpAny_bind (wpAny_rule (wpAny_bind (wpAny_askSetting (wpAny_pure (hq _)))))
theorem eqB_flt {a b : UInt64} {t u : Tok} {v : Int} {Q : Bool → Shared → Prop} (ht : t ≠ 0) (hu : u ≠ 0) (hb : NoneBooked s.heap) (h1 : Ex a v) (h2 : Ex b v) (h : Q true s) : wpAny (model prog w) A (eqBool (.float a t) (.float b u)) Q E s := by
  unfold eqBool
  refine wpAny_holding ?_
  show wpAny _ _ (if (Value.float a t == Value.float b u) = true then _ else _) Q E s
  by_cases hab : (Value.float a t == Value.float b u) = true
  · rw [if_pos hab]
    exact wpAny_bind (wpAny_rule (wpAny_pure h))
  · rw [if_neg hab]
    dsimp only
    refine wpAny_bind (isSame_flt ht hu hb fun c => ?_)
    cases c
    · simp only [Bool.false_eq_true, if_false]
      refine wpAny_bind ?_
      have key : wpAny (model prog w) A (compareOp .Eq (.float a t) (.float b u)) (fun v s' => wpAny (model prog w) A (truthOfDropped v) Q E s') E s := AutoFloatOps.eq_0 (by
        rw [h1.cmpEq h2, decide_eq_true rfl]
        exact wpAny_truthy_bool h)
      exact key
    · simp only [if_true]
      exact wpAny_pure h
end
end Mine
end

section
open PySem PySem.W PySem.Calls PyProof.Rows PySem.Spec
set_option maxRecDepth 100000
set_option maxHeartbeats 1000000
namespace Mine
theorem NoneBooked.keeps {h h' : Heap} (n : NoneBooked h) (k : ∀ b o, h.get? b = some o → h'.get? b = some o) : NoneBooked h' := by
  obtain ⟨mc, ⟨o, es, ep, e, r⟩, z⟩ := n
  exact ⟨mc, ⟨o, es, ep, k _ _ e, r⟩, z⟩
section
variable {prog : Program} {w : World} {A : Around} {E : Value → Shared → Prop} {s : Shared}
end
section
variable {h₀ h : Heap} {L a : Addr} {rest news : List (Addr × Obj)} {vs : Array Value} {ps : Array Value} {c : Nat}
end
structure SlopeIs (Sxy Sxx V : Int) : Prop where
  is : ∀ r, Quo r Sxy Sxx → Mine.Ex r V
end Mine
end

section
open PySem PySem.W PySem.Calls PyProof.Rows PySem.Spec Float64
set_option maxRecDepth 100000
set_option maxHeartbeats 1000000
namespace Mine
/-- each over d, exact -/
structure AllD (d P : Int) (vs : List Int) : Prop where
  is : ∀ k ∈ vs, DivP k d P
def mulF (P k : Int) : Int := k * P
section
variable {prog : Program} {w : World} {A : Around} {E : Value → Shared → Prop} {s : Shared} {Q : Value → Shared → Prop} {h d P : Int} {tk tk' : Tok}
theorem div_q (D : DivP h d P) (hA : A.handled = none) (hd : d ≠ 0) (hQ : ∀ r t, Mine.Ex r (mulF P h) → Q (.float r t) { s with toks := s.toks + 1 }) : wpAny (model prog w) A (binaryOp .Div (.int h tk) (.int d tk')) Q E s :=
  PySem.Flt.div_ii_fits hA D.tny.is (fun h0 => absurd h0 hd) fun _ _ => hQ _ _ (D.ex _ (quo_ofFrac hd))
end
section
variable {prog : Program} {w : World} {A : Around} {h₀ : Heap} {L : Addr} {m : Str → Option Value} {env : Env} {elt : Expr} {x : Str} {scope : Scope} {cl : List (Str × Addr)} {s₁ : Shared} {Fin : Shared → List Value → List (Addr × Obj) → Prop} {news : List (Addr × Obj)} {vs : List Int} {ys : List Value} {ay : Addr} {c : Nat} {d P : Int}
theorem src_d (hh : A.handled = none) (F : Fr h₀ L s₁.heap m) (N : News h₀ L s₁.heap news) (hm : (ay, listOf ys.toArray c) ∈ news) (hl : IntsAre ys vs) (hq : AllD d P vs) (h2 : ys.length < 200)
    (turn : ∀ (k : Int) t I oI C oC D' m₂ zs g tk (E' : Value → Shared → Prop), DivP k d P → LCg.NsObj oC m₂ → m₂ x = some (.int k t) → Fr h₀ L g m → News h₀ L g ((I, oI) :: (C, oC) :: (D', LCg.lst zs) :: news) → LCg.Off3 I C D' news → ((@Ne Nat I C) ∧ (@Ne Nat I D') ∧ (@Ne Nat C D')) →
      wpAny (model prog w) A (eval elt (compEnvC scope cl C env)) (LCg.CompEnd h₀ L m ⟨g, s₁.gens, s₁.drawn, tk, s₁.os⟩ I oI C oC D' (LCg.lst zs) (LCg.SrcAt h₀ ay ys.toArray) (fun y news' => CompEl news (FlEl (mulF P) k) y news')) E' ⟨g, s₁.gens, s₁.drawn, tk, s₁.os⟩)
    (fin : ∀ g zs, zs.length = ys.length → zs.length < 200 → RelI (FlEl (mulF P)) vs zs → Fin ⟨g, s₁.gens, s₁.drawn, s₁.toks, s₁.os⟩ zs news) :
    LCg.CompSrc prog w A h₀ L m env elt x scope cl Fin (.ref ay) s₁ := by
  have e : ys.length = vs.length := IntsAre.length hl
  refine LCg.CompSrc.ledger hh F N hm (by rw [List.size_toArray]; exact rng_line h2) fun g => ?_
  refine comp_ints (FlEl (mulF P)) hl (fun k t I oI C oC D' m₂ zs h tk E' hk => turn k t I oI C oC D' m₂ zs h tk E' (hq.is k hk)) fun zs hR => ?_
  exact fin g zs (by rw [RelI.length hR]; omega) (by rw [RelI.length hR]; omega) hR
end
section
variable {prog : Program} {w : World} {A : Around} {E : Value → Shared → Prop} {s : Shared} {h₀ : Heap} {L la lb : Addr} {news : List (Addr × Obj)} {a1 a2 b1 b2 b3 b4 : UInt64} {t1 t2 u1 u2 u3 u4 : Tok} {v1 v2 : Int} {c d : Nat} {Q : Value → Shared → Prop}
structure Six (a1 a2 b1 b2 b3 b4 : UInt64) (t1 t2 u1 u2 u3 u4 : Tok) (v1 v2 : Int) : Prop where
  e1 : Ex a1 v1
  e2 : Ex a2 v2
  f1 : Ex b1 v1
  f2 : Ex b2 v2
  f3 : Ex b3 v1
  f4 : Ex b4 v2
  z1 : TokOk t1
  z2 : TokOk t2
  y1 : TokOk u1
  y2 : TokOk u2
  y3 : TokOk u3
  y4 : TokOk u4
theorem ne_six (N : News h₀ L s.heap news) (hA : A.units < cLine) (ha : (la, listOf #[.bool true, .bool true, .float a1 t1, .float a2 t2, .float a1 t1, .float a2 t2] c) ∈ news) (hb : (lb, listOf #[.bool true, .bool true, .float b1 u1, .float b2 u2, .float b3 u3, .float b4 u4] d) ∈ news)
    (nb : NoneBooked s.heap) (S : Six a1 a2 b1 b2 b3 b4 t1 t2 u1 u2 u3 u4 v1 v2) (h : Q (.bool false) s) : wpAny (model prog w) A (compareOp .NotEq (.ref la) (.ref lb)) Q E s := by
  refine SeqAt.RcNeAt.lists (e := fun _ => true) (N.isList ha) (N.isList hb) rfl hA (fun j h1 h2 => ?_) prog w E Q ?_
  · intro prog w E Q hq
    have hj : j < 6 := h1
    match j, hj with
    | 0, _ => exact eqB_same _ rfl prog w _ E _ Q hq
    | 1, _ => exact eqB_same _ rfl prog w _ E _ Q hq
    | 2, _ => exact eqB_flt S.z1.ne S.y1.ne nb S.e1 S.f1 hq
    | 3, _ => exact eqB_flt S.z2.ne S.y2.ne nb S.e2 S.f2 hq
    | 4, _ => exact eqB_flt S.z1.ne S.y3.ne nb S.e1 S.f3 hq
    | 5, _ => exact eqB_flt S.z2.ne S.y4.ne nb S.e2 S.f4 hq
  · exact h
theorem eq_six (N : News h₀ L s.heap news) (hA : A.units < cLine) (ha : (la, listOf #[.bool true, .bool true, .float a1 t1, .float a2 t2, .float a1 t1, .float a2 t2] c) ∈ news) (hb : (lb, listOf #[.bool true, .bool true, .float b1 u1, .float b2 u2, .float b3 u3, .float b4 u4] d) ∈ news)
    (nb : NoneBooked s.heap) (S : Six a1 a2 b1 b2 b3 b4 t1 t2 u1 u2 u3 u4 v1 v2) (h : Q (.bool true) s) : wpAny (model prog w) A (compareOp .Eq (.ref la) (.ref lb)) Q E s := by
  refine SeqAt.eq_listAt (e := fun _ => true) (N.isList ha) (N.isList hb) rfl hA (fun j h1 h2 => ?_) ?_
  · intro prog w E Q hq
    have hj : j < 6 := h1
    match j, hj with
    | 0, _ => exact eqB_same _ rfl prog w _ E _ Q hq
    | 1, _ => exact eqB_same _ rfl prog w _ E _ Q hq
    | 2, _ => exact eqB_flt S.z1.ne S.y1.ne nb S.e1 S.f1 hq
    | 3, _ => exact eqB_flt S.z2.ne S.y2.ne nb S.e2 S.f2 hq
    | 4, _ => exact eqB_flt S.z1.ne S.y3.ne nb S.e1 S.f3 hq
    | 5, _ => exact eqB_flt S.z2.ne S.y4.ne nb S.e2 S.f4 hq
  · exact h
end
section
variable {h₀ h : Heap} {L P : Addr} {o : Obj} {all : List (Addr × Obj)} {f : Obj → List (Addr × Obj)}
/-- an object of the ledger put at its head -/
theorem tab_head (U : UpdF P o all f) : ∃ rest, (∀ p ∈ rest, p.1 ≠ P) ∧ (∀ q ∈ (P, o) :: rest, q ∈ all) ∧ (∀ q ∈ all, q.1 ≠ P → q ∈ rest) ∧ ∀ o', ∀ q ∈ f o', q ∈ (P, o') :: rest := by
  obtain ⟨pre, post, e1, e2, d1, d2⟩ := U.split
  refine ⟨pre ++ post, fun p hp => (List.mem_append.mp hp).elim (d1 p) (d2 p), fun q hq => ?_, fun q hq hn => ?_, fun o' q hq => ?_⟩
  · rw [e1]
    rcases List.mem_cons.mp hq with rfl | hq
    · exact List.mem_append_right _ (.head _)
    · exact (List.mem_append.mp hq).elim (List.mem_append_left _) fun h => List.mem_append_right _ (.tail _ h)
  · rw [e1] at hq
    rcases List.mem_append.mp hq with hq | hq
    · exact List.mem_append_left _ hq
    · rcases List.mem_cons.mp hq with rfl | hq
      · exact absurd rfl hn
      · exact List.mem_append_right _ hq
  · rw [e2] at hq
    rcases List.mem_append.mp hq with hq | hq
    · exact .tail _ (List.mem_append_left _ hq)
    · rcases List.mem_cons.mp hq with rfl | hq
      · exact .head _
      · exact .tail _ (List.mem_append_right _ hq)
theorem list_ne {a : Addr} {vs : Array Value} {c : Nat} {ps : Array Value} (N : News h₀ L h all) (ha : (a, listOf vs c) ∈ all) (hP : (P, tabObj ps) ∈ all) : a ≠ P := fun e => by
  have h1 := (N _ ha).1
  have h2 := (N _ hP).1
  rw [e, h2] at h1
  cases h1
theorem news_put {h' : Heap} {a : Addr × Obj} {rest : List (Addr × Obj)} {o' : Obj} (N : News h₀ L h' (a :: (P, o') :: rest)) (hf : ∀ q ∈ f o', q ∈ (P, o') :: rest) : News h₀ L h' (a :: f o') := fun q hq => by
  rcases List.mem_cons.mp hq with rfl | hq
  · exact N _ (.head _)
  · exact N _ (.tail _ (hf q hq))
end
end Mine
end

section
open PySem PySem.W PySem.Calls PyProof.Rows
set_option maxRecDepth 100000
set_option maxHeartbeats 1000000
namespace Mine
theorem u1_flat3 {w : World} {dp un : Nat} {gd : Option (List Code)} {cn : Str} {cs : Scope} {a : Addr} {ccd : Value} {cl : List (Str × Addr)} {A₀ : Around} {base h₀ : Heap} {L : Addr} {m : Str → Option Value} {s : Shared} {Q E : Value → Shared → Prop}
    {mean : ExcName → Option Value} {mg mb : Str → Option Value} {all : List (Addr × Obj)} {f : Obj → List (Addr × Obj)} {ps : Array Value} {ax ay : Addr} {xs ys : List Value} {cx cy : Nat}
    (B : Below A₀ base [] h₀) (F : Fr h₀ L s.heap m) (N : News h₀ L s.heap all) (U : UpdF 179 (tabObj ps) all f) (hT : TabOk ps) (T : Top Mine.vw (looseW Mine.vw [Str.ofString "_tuplegetter", Str.ofString "LinearRegression", Str.ofString "linear_regression"]) mean mg mb h₀) (hk : cs.kind = .function) (hd : dp + 9 < recursionLimit) (hu : un + 60 < cLine)
    (hx : (ax, listOf xs.toArray cx) ∈ all) (hy : (ay, listOf ys.toArray cy) ∈ all) (hxl : xs.length < 200) (hyl : ys.length < 200)
    (XB : (Mine.hd.heap_39 w.params).In base) (TB : Top Mine.vw (looseW Mine.vw [Str.ofString "_tuplegetter", Str.ofString "LinearRegression", Str.ofString "linear_regression"]) mean mg mb base)
    (hlen : xs.length = ys.length) {V W : List Int} {n : Nat} {Xb Yb : Int} {pr qr : Nat → Int} (hn2 : 2 ≤ xs.length) (hn : 2 ≤ n) (h200 : n < 200) (K : FullOk xs ys V W n Xb Yb pr qr) (Z : FlatEnd n qr) (hgs : AllBare s.gens)
    (hQ : ∀ h' tk a c tk' gs' ps', TabOk ps' → Fr h₀ L h' m → News h₀ L h' ((a, listOf #[.str (Str.ofString "x is constant") tk'] c) :: f (tabObj ps')) → AllBare gs' → Q (.ref a) ⟨h', gs', s.drawn, tk, s.os⟩) :
    (Mine.hd.heap_39 w.params).In h₀ → wpAny (model PySem.Challenge.rw_kq0023_01.row.prog w) (ktrTop dp un gd cn cs L a ccd cl []) (call (.ref 189) [.ref ax, .ref ay, .none]) Q E s := by
  intro X
  obtain ⟨rest, h9, hs, hr, hf⟩ := tab_head U
  have hP := hs _ (.head _)
  exact l1_flat3 B F (fun q hq => N q (hs q hq)) hT T hk hd hu (hr _ hx (list_ne N hx hP)) (hr _ hy (list_ne N hy hP)) hxl hyl XB TB hlen hn2 hn h200 K Z hgs h9 (fun h' tk a c tk' gs' ps' hT' F' N' hb => hQ h' tk a c tk' gs' ps' hT' F' (news_put N' (hf _)) hb) X
theorem u1_flatK {w : World} {dp un : Nat} {gd : Option (List Code)} {cn : Str} {cs : Scope} {a : Addr} {ccd : Value} {cl : List (Str × Addr)} {A₀ : Around} {base h₀ : Heap} {L : Addr} {m : Str → Option Value} {s : Shared} {Q E : Value → Shared → Prop}
    {mean : ExcName → Option Value} {mg mb : Str → Option Value} {all : List (Addr × Obj)} {f : Obj → List (Addr × Obj)} {ps : Array Value} {ax ay : Addr} {xs ys : List Value} {cx cy : Nat}
    (B : Below A₀ base [] h₀) (F : Fr h₀ L s.heap m) (N : News h₀ L s.heap all) (U : UpdF 179 (tabObj ps) all f) (hT : TabOk ps) (T : Top Mine.vw (looseW Mine.vw [Str.ofString "_tuplegetter", Str.ofString "LinearRegression", Str.ofString "linear_regression"]) mean mg mb h₀) (hk : cs.kind = .function) (hd : dp + 9 < recursionLimit) (hu : un + 60 < cLine)
    (hx : (ax, listOf xs.toArray cx) ∈ all) (hy : (ay, listOf ys.toArray cy) ∈ all) (hxl : xs.length < 200) (hyl : ys.length < 200)
    (XB : (Mine.hd.heap_39 w.params).In base) (TB : Top Mine.vw (looseW Mine.vw [Str.ofString "_tuplegetter", Str.ofString "LinearRegression", Str.ofString "linear_regression"]) mean mg mb base)
    (hlen : xs.length = ys.length) {V W : List Int} {n : Nat} {Xb Yb : Int} {pr qr : Nat → Int} (hn2 : 2 ≤ xs.length) (hn : 2 ≤ n) (h200 : n < 200) (K : FullOk xs ys V W n Xb Yb pr qr) (Z : FlatEnd n qr) (hgs : AllBare s.gens)
    (hQ : ∀ h' tk a c tk' gs' ps', TabOk ps' → Fr h₀ L h' m → News h₀ L h' ((a, listOf #[.str (Str.ofString "x is constant") tk'] c) :: f (tabObj ps')) → AllBare gs' → Q (.ref a) ⟨h', gs', s.drawn, tk, s.os⟩) :
    (Mine.hd.heap_39 w.params).In h₀ → wpAny (model PySem.Challenge.rw_kq0023_01.row.prog w) (ktrTop dp un gd cn cs L a ccd cl []) (call (.ref 189) [.ref ax, .ref ay, .bool false]) Q E s := by
  intro X
  obtain ⟨rest, h9, hs, hr, hf⟩ := tab_head U
  have hP := hs _ (.head _)
  exact l1_flatK B F (fun q hq => N q (hs q hq)) hT T hk hd hu (hr _ hx (list_ne N hx hP)) (hr _ hy (list_ne N hy hP)) hxl hyl XB TB hlen hn2 hn h200 K Z hgs h9 (fun h' tk a c tk' gs' ps' hT' F' N' hb => hQ h' tk a c tk' gs' ps' hT' F' (news_put N' (hf _)) hb) X
theorem u1_full {w : World} {dp un : Nat} {gd : Option (List Code)} {cn : Str} {cs : Scope} {a : Addr} {ccd : Value} {cl : List (Str × Addr)} {A₀ : Around} {base h₀ : Heap} {L : Addr} {m : Str → Option Value} {s : Shared} {Q E : Value → Shared → Prop}
    {mean : ExcName → Option Value} {mg mb : Str → Option Value} {all : List (Addr × Obj)} {f : Obj → List (Addr × Obj)} {ps : Array Value} {ax ay : Addr} {xs ys : List Value} {cx cy : Nat}
    (B : Below A₀ base [] h₀) (F : Fr h₀ L s.heap m) (N : News h₀ L s.heap all) (U : UpdF 179 (tabObj ps) all f) (hT : TabOk ps) (T : Top Mine.vw (looseW Mine.vw [Str.ofString "_tuplegetter", Str.ofString "LinearRegression", Str.ofString "linear_regression"]) mean mg mb h₀) (hk : cs.kind = .function) (hd : dp + 9 < recursionLimit) (hu : un + 60 < cLine)
    (hx : (ax, listOf xs.toArray cx) ∈ all) (hy : (ay, listOf ys.toArray cy) ∈ all) (hxl : xs.length < 200) (hyl : ys.length < 200)
    (XB : (Mine.hd.heap_39 w.params).In base) (TB : Top Mine.vw (looseW Mine.vw [Str.ofString "_tuplegetter", Str.ofString "LinearRegression", Str.ofString "linear_regression"]) mean mg mb base)
    (hlen : xs.length = ys.length) {V W : List Int} {n : Nat} {Xb Yb : Int} {pr qr : Nat → Int} (hn2 : 2 ≤ xs.length) (hn : 2 ≤ n) (h200 : n < 200) (K : FullOk xs ys V W n Xb Yb pr qr) {Sl M : Int} (D : FullEnd n Xb Yb pr qr Sl M) (hgs : AllBare s.gens)
    (hQ : ∀ h' tk a c r1 t1 r2 t2 gs' ps', TabOk ps' → Fr h₀ L h' m → News h₀ L h' ((a, listOf #[.bool true, .bool true, .float r1 t1, .float r2 t2, .float r1 t1, .float r2 t2] c) :: f (tabObj ps')) → Mine.Ex r1 Sl → Mine.Ex r2 (Yb - M) → TokOk t1 → TokOk t2 → AllBare gs' → Q (.ref a) ⟨h', gs', s.drawn, tk, s.os⟩) :
    (Mine.hd.heap_39 w.params).In h₀ → wpAny (model PySem.Challenge.rw_kq0023_01.row.prog w) (ktrTop dp un gd cn cs L a ccd cl []) (call (.ref 189) [.ref ax, .ref ay, .none]) Q E s := by
  intro X
  obtain ⟨rest, h9, hs, hr, hf⟩ := tab_head U
  have hP := hs _ (.head _)
  exact l1_full B F (fun q hq => N q (hs q hq)) hT T hk hd hu (hr _ hx (list_ne N hx hP)) (hr _ hy (list_ne N hy hP)) hxl hyl XB TB hlen hn2 hn h200 K D hgs h9 (fun h' tk a c r1 t1 r2 t2 gs' ps' hT' F' N' e1 e2 k1 k2 hb => hQ h' tk a c r1 t1 r2 t2 gs' ps' hT' F' (news_put N' (hf _)) e1 e2 k1 k2 hb) X
theorem u1_fullK {w : World} {dp un : Nat} {gd : Option (List Code)} {cn : Str} {cs : Scope} {a : Addr} {ccd : Value} {cl : List (Str × Addr)} {A₀ : Around} {base h₀ : Heap} {L : Addr} {m : Str → Option Value} {s : Shared} {Q E : Value → Shared → Prop}
    {mean : ExcName → Option Value} {mg mb : Str → Option Value} {all : List (Addr × Obj)} {f : Obj → List (Addr × Obj)} {ps : Array Value} {ax ay : Addr} {xs ys : List Value} {cx cy : Nat}
    (B : Below A₀ base [] h₀) (F : Fr h₀ L s.heap m) (N : News h₀ L s.heap all) (U : UpdF 179 (tabObj ps) all f) (hT : TabOk ps) (T : Top Mine.vw (looseW Mine.vw [Str.ofString "_tuplegetter", Str.ofString "LinearRegression", Str.ofString "linear_regression"]) mean mg mb h₀) (hk : cs.kind = .function) (hd : dp + 9 < recursionLimit) (hu : un + 60 < cLine)
    (hx : (ax, listOf xs.toArray cx) ∈ all) (hy : (ay, listOf ys.toArray cy) ∈ all) (hxl : xs.length < 200) (hyl : ys.length < 200)
    (XB : (Mine.hd.heap_39 w.params).In base) (TB : Top Mine.vw (looseW Mine.vw [Str.ofString "_tuplegetter", Str.ofString "LinearRegression", Str.ofString "linear_regression"]) mean mg mb base)
    (hlen : xs.length = ys.length) {V W : List Int} {n : Nat} {Xb Yb : Int} {pr qr : Nat → Int} (hn2 : 2 ≤ xs.length) (hn : 2 ≤ n) (h200 : n < 200) (K : FullOk xs ys V W n Xb Yb pr qr) {Sl M : Int} (D : FullEnd n Xb Yb pr qr Sl M) (hgs : AllBare s.gens)
    (hQ : ∀ h' tk a c r1 t1 r2 t2 gs' ps', TabOk ps' → Fr h₀ L h' m → News h₀ L h' ((a, listOf #[.bool true, .bool true, .float r1 t1, .float r2 t2, .float r1 t1, .float r2 t2] c) :: f (tabObj ps')) → Mine.Ex r1 Sl → Mine.Ex r2 (Yb - M) → TokOk t1 → TokOk t2 → AllBare gs' → Q (.ref a) ⟨h', gs', s.drawn, tk, s.os⟩) :
    (Mine.hd.heap_39 w.params).In h₀ → wpAny (model PySem.Challenge.rw_kq0023_01.row.prog w) (ktrTop dp un gd cn cs L a ccd cl []) (call (.ref 189) [.ref ax, .ref ay, .bool false]) Q E s := by
  intro X
  obtain ⟨rest, h9, hs, hr, hf⟩ := tab_head U
  have hP := hs _ (.head _)
  exact l1_fullK B F (fun q hq => N q (hs q hq)) hT T hk hd hu (hr _ hx (list_ne N hx hP)) (hr _ hy (list_ne N hy hP)) hxl hyl XB TB hlen hn2 hn h200 K D hgs h9 (fun h' tk a c r1 t1 r2 t2 gs' ps' hT' F' N' e1 e2 k1 k2 hb => hQ h' tk a c r1 t1 r2 t2 gs' ps' hT' F' (news_put N' (hf _)) e1 e2 k1 k2 hb) X
end Mine
end

section
open PySem PySem.W PySem.Calls PyProof.Rows
set_option maxRecDepth 100000
set_option maxHeartbeats 1000000
namespace Mine
theorem zz_A5 : True := by
  w_top off
  k_with_none
  trivial
def StopE (P : Prop) : Prop := P
theorem stopE_ {P : Prop} (h : StopE P) : P := h
theorem zz_A5_22 : True := by
  k_with "my execs cons" =>
    ((with_reducible show wpAny _ _ (execs (Stmt.For _ _ _ _ _ :: _) _) _ _ _); refine stopE_ ?_)
  k_with "my binaryOp Div int int" =>
    (k_here; k_dflt ((refine' div_p ?zz98D ?zz98h ?zz98b ?zz98p ?_; (case zz98D => assumption); (case zz98h => rfl); (case zz98b => decide); (case zz98p => exact Nat.succ_pos _)); intro rzz98' tzz98' qzz98' kzz98'))
  trivial
theorem a5 {w : World} {fa : Addr} {cd : Value} {h₀ : Heap} {mean : ExcName → Option Value} {mg mb : Str → Option Value} {s : Shared} {Q : Flow → Shared → Prop} {R1 R2 : Value → Shared → Prop} {L aS aL ax ay at' : Addr} {m : Str → Option Value} {ws zl zx zy zt : List Value} {us ys : List Int} {n c cy : Nat} {oA oB oS : Obj} {tn tA tB : Tok} {a b P1 P2 : Int}
    (B : Below callerA h₀ [] h₀) (F : Fr h₀ L s.heap (fun z => if z = Str.ofString "y" then some (.ref ay) else if z = Str.ofString "x" then some (.ref ax) else if z = Str.ofString "times" then some (.ref at') else if z = Str.ofString "level" then some (.ref aL) else if z = Str.ofString "n" then some (.int (n : Int) tn) else m z)) (N : News h₀ L s.heap [(ay, listOf (List.toArray zy) cy), (ax, LCg.lst zx), (at', LCg.lst zt), (aL, listOf (List.toArray zl) c), (aS, listOf ws.toArray 0), (179, tabObj #[]), (L + 1 + 1 + 1, oB), (L + 1 + 1, oA), (L + 1, oS)])
    (T : Top Mine.vw (looseW Mine.vw [Str.ofString "_tuplegetter", Str.ofString "LinearRegression", Str.ofString "linear_regression"]) mean mg mb h₀)
    (hx : IntsAre zx us) (hy : IntsAre zy ys) (lx : zx.length = n) (ly : zy.length = n) (lu : us.length = n) (h2 : 2 ≤ n) (h40 : n ≤ 40) (dA : oA.data = .cell (some (.int a tA))) (dB : oB.data = .cell (some (.int b tB))) (DA : DivP a 8 P1) (DB : DivP b 64 P2)
    (hF : ∀ h' tk af tf, (∀ u ∈ us, ∀ v ∈ us, u = v) → Fr h₀ L h' (fun z => if z = Str.ofString "due" then some (.ref af) else if z = Str.ofString "flat" then some (.ref af) else if z = Str.ofString "y" then some (.ref ay) else if z = Str.ofString "x" then some (.ref ax) else if z = Str.ofString "times" then some (.ref at') else if z = Str.ofString "level" then some (.ref aL) else if z = Str.ofString "n" then some (.int (n : Int) tn) else m z) → News h₀ L h' [(af, listOf #[.str (Str.ofString "x is constant") tf] 0), (ay, listOf (List.toArray zy) cy), (ax, LCg.lst zx), (at', LCg.lst zt), (aL, listOf (List.toArray zl) c), (aS, listOf ws.toArray 0), (179, tabObj #[]), (L + 1 + 1 + 1, oB), (L + 1 + 1, oA), (L + 1, oS)] → @Ne Nat 179 af → wpAny (model PySem.Challenge.rw_kq0023_01.row.prog w) (callerA.deeper (envOfC (Str.ofString "law") lawScope L fa cd)) (execs (lawRest 15) (envOfC (Str.ofString "law") lawScope L fa cd)) Q (fun e s' => wpAny (model PySem.Challenge.rw_kq0023_01.row.prog w) (callerA.deeper (envOfC (Str.ofString "law") lawScope L fa cd)) (leaving (envOfC (Str.ofString "law") lawScope L fa cd) e) (fun _ s'' => R1 e s'') (fun e' s'' => R2 e' s'') s') ⟨h', s.gens, s.drawn, tk, s.os⟩)
    (hL : ∀ h' tk af tf ad r1 t1 r2 t2 r3 t3 r4 t4, (∃ u ∈ us, ∃ v ∈ us, u ≠ v) → Fr h₀ L h' (fun z => if z = Str.ofString "due" then some (.ref ad) else if z = Str.ofString "flat" then some (.ref af) else if z = Str.ofString "y" then some (.ref ay) else if z = Str.ofString "x" then some (.ref ax) else if z = Str.ofString "times" then some (.ref at') else if z = Str.ofString "level" then some (.ref aL) else if z = Str.ofString "n" then some (.int (n : Int) tn) else m z) → News h₀ L h' [(ad, listOf #[.bool true, .bool true, .float r1 t1, .float r2 t2, .float r3 t3, .float r4 t4] 0), (af, listOf #[.str (Str.ofString "x is constant") tf] 0), (ay, listOf (List.toArray zy) cy), (ax, LCg.lst zx), (at', LCg.lst zt), (aL, listOf (List.toArray zl) c), (aS, listOf ws.toArray 0), (179, tabObj #[]), (L + 1 + 1 + 1, oB), (L + 1 + 1, oA), (L + 1, oS)] → @Ne Nat 179 ad → @Ne Nat 179 af →
      Mine.Ex r1 (a * P1) → TokOk t1 → Mine.Ex r2 (b * P2) → TokOk t2 → Mine.Ex r3 (a * P1) → TokOk t3 → Mine.Ex r4 (b * P2) → TokOk t4 → wpAny (model PySem.Challenge.rw_kq0023_01.row.prog w) (callerA.deeper (envOfC (Str.ofString "law") lawScope L fa cd)) (execs (lawRest 15) (envOfC (Str.ofString "law") lawScope L fa cd)) Q (fun e s' => wpAny (model PySem.Challenge.rw_kq0023_01.row.prog w) (callerA.deeper (envOfC (Str.ofString "law") lawScope L fa cd)) (leaving (envOfC (Str.ofString "law") lawScope L fa cd) e) (fun _ s'' => R1 e s'') (fun e' s'' => R2 e' s'') s') ⟨h', s.gens, s.drawn, tk, s.os⟩) :
    (Mine.hd.heap_39 w.params).In h₀ → wpAny (model PySem.Challenge.rw_kq0023_01.row.prog w) (callerA.deeper (envOfC (Str.ofString "law") lawScope L fa cd)) (execs (lawRest 13) (envOfC (Str.ofString "law") lawScope L fa cd)) Q (fun e s' => wpAny (model PySem.Challenge.rw_kq0023_01.row.prog w) (callerA.deeper (envOfC (Str.ofString "law") lawScope L fa cd)) (leaving (envOfC (Str.ofString "law") lawScope L fa cd) e) (fun _ s'' => R1 e s'') (fun e' s'' => R2 e' s'') s') s := by
  k_fill
  intro X
  dsimp only [lawRest, lawScope, lawFn, fnScope, fnBody, PySem.Challenge.pw_kq0023_01, List.getLastD, List.getLast, List.drop]
  k_steps
  all_goals (try k_data)
  · unfold StopE
    rename News _ _ _ _ => NN
    rename Fr _ _ _ _ => FF
    rename _ = (_ : Int) => heq
    rename ∀ (a : Int), a ∈ us → a ≤ _ => hmax
    rename ∀ (a : Int), a ∈ us → _ ≤ a => hmin
    refine hF _ _ _ _ (fun u hu v hv => ?_) FF NN (by k_ne)
    have h1 := hmax u hu
    have h2 := hmax v hv
    have h3 := hmin u hu
    have h4 := hmin v hv
    omega
  · unfold StopE
    rename News _ _ _ _ => NN
    rename Fr _ _ _ _ => FF
    rename _ ≠ (_ : Int) => heq
    exact hL _ _ _ _ _ _ _ _ _ _ _ _ _ ⟨_, by assumption, _, by assumption, heq⟩ FF NN (by k_ne) (by k_ne) (by assumption) (by assumption) (by assumption) (by assumption) (by assumption) (by assumption) (by assumption) (by assumption)
end Mine
end

section
open PySem PySem.W PySem.Calls PyProof.Rows
set_option maxRecDepth 100000
namespace Mine
section
variable {h₀ h : Heap} {L P a : Addr} {o : Obj} {all : List (Addr × Obj)} {ps : Array Value}
/-- another object than the table -/
theorem ne_data (N : News h₀ L h all) (hm : (a, o) ∈ all) (hP : (P, tabObj ps) ∈ all) (hd : o.data ≠ .fields ps) : a ≠ P := fun e => by
  have h1 := (N _ hm).1
  have h2 := (N _ hP).1
  rw [e, h2] at h1
  exact hd (congrArg Obj.data (Option.some.inj h1).symm)
theorem ne_cls {x : String} (N : News h₀ L h all) (hm : (a, o) ∈ all) (hP : (P, tabObj ps) ∈ all) (hd : o.cls = .type x) : a ≠ P := fun e => by
  have h1 := (N _ hm).1
  have h2 := (N _ hP).1
  rw [e, h2] at h1
  have h3 := congrArg Obj.cls (Option.some.inj h1)
  have h4 : Value.none = Value.type x := h3.trans hd
  cases h4
theorem ne_cell {v : Option Value} (N : News h₀ L h all) (hm : (a, o) ∈ all) (hP : (P, tabObj ps) ∈ all) (hd : o.data = .cell v) : a ≠ P := ne_data N hm hP (by rw [hd]; intro e; cases e)
end
end Mine
end

section
open PySem PySem.W PySem.Calls PyProof.Rows PySem.Spec
set_option maxRecDepth 100000
set_option maxHeartbeats 1000000
namespace Mine
theorem off_nil {I : Addr} : ∀ p ∈ ([] : List (Addr × Obj)), @Ne Nat p.1 I := fun _ h => by cases h
theorem off_cons {I a : Addr} {o : Obj} {r : List (Addr × Obj)} (h : @Ne Nat a I) (t : ∀ p ∈ r, @Ne Nat p.1 I) : ∀ p ∈ (a, o) :: r, @Ne Nat p.1 I := fun p hp => by
  rcases List.mem_cons.mp hp with rfl | hp
  · exact h
  · exact t p hp
/-- a turn of a loop in which generators are made -/
def TurnG (h₀ : Heap) (L : Addr) (I : Addr) (oI : Obj) (J : Array GenState → (Str → Option Value) → List (Addr × Obj) → Prop) (s : Shared) (f : Flow) (s' : Shared) : Prop :=
  f = .next ∧ ∃ h' gs tk' m₂ news₂, s' = ⟨h', gs, s.drawn, tk', s.os⟩ ∧ Fr h₀ L h' m₂ ∧ News h₀ L h' ((I, oI) :: news₂) ∧ (∀ p ∈ news₂, @Ne Nat p.1 I) ∧ J gs m₂ news₂
def LoopAtG (prog : Program) (w : World) (A : Around) (h₀ : Heap) (env : Env) (x : Str) (body : List Stmt) (Q : Flow → Shared → Prop) (E : Value → Shared → Prop) (it : Value) (s : Shared) : Prop :=
  ∃ (I T : Addr) (v1 v2 : Value) (m : Str → Option Value) (news : List (Addr × Obj)) (J : Array GenState → (Str → Option Value) → List (Addr × Obj) → Prop),
    it = .ref I ∧ A.handled = none ∧ s.heap.IsTupleIter I T 0 ∧ @Ne Nat I env.locals ∧ h₀.get? I = none ∧ Fr h₀ env.locals s.heap m ∧ News h₀ env.locals s.heap news ∧ (∀ p ∈ news, @Ne Nat p.1 I) ∧ J s.gens m news ∧
    (∀ gs m₁ n₁, J gs m₁ n₁ → (T, { cls := .type "tuple", data := .seq #[v1, v2] : Obj }) ∈ n₁) ∧
    (∀ v, v = v1 ∨ v = v2 → ∀ gs m₁ news₁ oI h tk, J gs m₁ news₁ → (∀ p ∈ news₁, @Ne Nat p.1 I) → oI.cls = .type "tuple_iterator" → Fr h₀ env.locals h (fun y => if y = x then some v else m₁ y) → News h₀ env.locals h ((I, oI) :: news₁) →
      wpAny (model prog w) A (execs body env) (TurnG h₀ env.locals I oI J ⟨h, gs, s.drawn, tk, s.os⟩) E ⟨h, gs, s.drawn, tk, s.os⟩) ∧
    ∀ gs h' tk m' news', Fr h₀ env.locals h' m' → News h₀ env.locals h' news' → J gs m' news' → Q .next ⟨h', gs, s.drawn, tk, s.os⟩
section
variable {prog : Program} {w : World} {A : Around} {E : Value → Shared → Prop} {s : Shared} {h₀ : Heap} {m : Str → Option Value} {env : Env} {x : Str} {body : List Stmt} {Q : Flow → Shared → Prop} {news : List (Addr × Obj)}
theorem codeG {R : Result → Shared → Prop} {px : Pos} {I : Addr} (hx : env.kindOf x = some .local) (hp : (env.scope.kind == .class || (env.scope.kind == .module && env.locals != env.globals)) = false)
    (h : LoopAtG prog w A h₀ env x body (fun f s' => R (.ok f) s') (notedBy (model prog w) A env fun e s' => R (.error e) s') (.ref I) s) : codeAny (model prog w) A (.forLoop (.Name x px) (.ref I) body [] env) R s := by
  obtain ⟨I', T, v1, v2, m, news, J, e, hh, hI, hIL, hn, F, N, off, h0, hJT, turn, done⟩ := h
  cases e
  refine codeAny_forLoop
    (fun k s' => ∃ i h gs tk m' news', i ≤ 2 ∧ k = 3 - i ∧ s' = ⟨h, gs, s.drawn, tk, s.os⟩ ∧ h.IsTupleIter I T i ∧ Fr h₀ env.locals h m' ∧ News h₀ env.locals h news' ∧ (∀ p ∈ news', @Ne Nat p.1 I) ∧ J gs m' news') ?_ 3
    ⟨0, s.heap, s.gens, s.toks, m, news, by omega, rfl, rfl, hI, F, N, off, h0⟩
  rintro k s' ⟨i, h, gs, tk, m', news', hi, rfl, rfl, hI', F', N', off', hJ⟩
  have hTm := hJT _ _ _ hJ
  have hT : Heap.IsTuple h T #[v1, v2] := ⟨_, (N' _ hTm).1, rfl, _, rfl⟩
  have hTI : T ≠ I := off' _ hTm
  have next : ∀ h₁ : Heap, Heap.ExtBut I h h₁ → Fr h₀ env.locals h₁ m' ∧ News h₀ env.locals h₁ news' := fun h₁ hk => by
    refine ⟨⟨F'.ns.at' fun o e => hk _ o (Ne.symm hIL) e, fun b o e => hk b o (fun eb => by rw [eb, hn] at e; cases e) (F'.keep b o e), F'.above⟩, fun p hp => ⟨hk _ _ (off' p hp) (N' p hp).1, (N' p hp).2⟩⟩
  by_cases hlt : i < 2
  · obtain ⟨v, hv, hvs⟩ : ∃ v, (#[v1, v2] : Array Value)[i]? = some v ∧ (v = v1 ∨ v = v2) := by
      rcases i with _ | _ | i
      · exact ⟨v1, rfl, .inl rfl⟩
      · exact ⟨v2, rfl, .inr rfl⟩
      · omega
    refine wpAny_pyNext_tuple_item hI' hT hv fun h₁ hit hs => ?_
    obtain ⟨F₁, N₁⟩ := next h₁ hs.extBut
    refine wpAny_assign_Name (wpAny_storeName_local hx F₁.ns (fun h₂ hn₂ hs₂ => ?_) hp)
    have F₂ := F₁.set hn₂ hs₂
    have N₂ := N₁.set hs₂
    obtain ⟨oI, g1, g2, g3⟩ := hit
    have g1' : h₂.get? I = some oI := (hs₂.2 I hIL).trans g1
    have N₃ : News h₀ env.locals h₂ ((I, oI) :: news') := fun p hp => by
      rcases List.mem_cons.mp hp with rfl | hp
      · exact ⟨g1', hIL, hn⟩
      · exact N₂ p hp
    refine wpAny_mono (turn v hvs gs m' news' oI h₂ _ hJ off' g2 F₂ N₃) (fun f s₃ h₃ => ?_) fun _ _ e => e
    obtain ⟨rfl, h₄, gs₄, tk₄, m₄, news₄, rfl, F₄, N₄, off₄, hJ₄⟩ := h₃
    refine ⟨3 - (i + 1), by omega, i + 1, h₄, gs₄, tk₄, m₄, news₄, by omega, rfl, rfl, ⟨oI, (N₄ _ (.head _)).1, g2, g3⟩, F₄, fun p hp => N₄ p (.tail _ hp), off₄, hJ₄⟩
  · have e2 : i = 2 := by omega
    subst e2
    refine wpAny_pyNext_tuple_end hh hI' hT rfl fun h₁ hk => wpAny_execs_nil ?_
    obtain ⟨F₁, N₁⟩ := next h₁ hk
    exact done _ _ _ _ _ F₁ N₁ hJ
theorem For_G {px pos : Pos} {iter : Expr} {m : Str → Option Value} (_F : Fr h₀ env.locals s.heap m) (hx : env.kindOf x = some .local)
    (hp : (env.scope.kind == .class || (env.scope.kind == .module && env.locals != env.globals)) = false)
    (h : wpAny (model prog w) A (eval iter env) (fun xv s₁ => wpAny (model prog w) A (pyIter xv) (fun it s₂ => LoopAtG prog w A h₀ env x body Q E it s₂) E s₁) E s)
    (hs : ∀ x, foldedSetIterable iter env x = pure x := by intro _; rfl)
    (hE : PassesOwn (model prog w) A env E := by passes_own) :
    wpAny (model prog w) A (exec (.For (.Name x px) iter body [] pos) env) Q E s := by
  refine wpAny_For (wpAny_mono h (fun xv s₁ h₁ => wpAny_mono h₁ (fun it s₂ h₂ => ?_) fun _ _ e => e) fun _ _ e => e) hs
  have h₂' := h₂
  obtain ⟨I, T, v1, v2, m, news, J, rfl, r⟩ := h₂
  refine codeG (h₀ := h₀) (R := fun r s' => match r with | .ok f => Q f s' | .error e => cameBackBy (model prog w) A env E e s') hx hp ?_
  obtain ⟨hh, hI, hIL, hn, F, N, off, h0, hJT, turn, done⟩ := r
  exact ⟨I, T, v1, v2, m, news, J, rfl, hh, hI, hIL, hn, F, N, off, h0, hJT, fun v hv gs m₁ news₁ oI h tk a b c d e => wpAny_passesOwn hE (turn v hv gs m₁ news₁ oI h tk a b c d e), done⟩
/-- a loop over a pair of written values, by what holds throughout -/
theorem pair_inv {T : Addr} {v1 v2 : Value} (J : Array GenState → (Str → Option Value) → List (Addr × Obj) → Prop) (hh : A.handled = none) (F : Fr h₀ env.locals s.heap m) (N : News h₀ env.locals s.heap news) (hT : (T, { cls := .type "tuple", data := .seq #[v1, v2] : Obj }) ∈ news)
    (h0 : J s.gens m news) (hJT : ∀ gs m₁ n₁, J gs m₁ n₁ → (T, { cls := .type "tuple", data := .seq #[v1, v2] : Obj }) ∈ n₁)
    (turn : ∀ v, v = v1 ∨ v = v2 → ∀ gs m₁ news₁ I oI h tk, J gs m₁ news₁ → (∀ p ∈ news₁, @Ne Nat p.1 I) → oI.cls = .type "tuple_iterator" → Fr h₀ env.locals h (fun y => if y = x then some v else m₁ y) → News h₀ env.locals h ((I, oI) :: news₁) →
      wpAny (model prog w) A (execs body env) (TurnG h₀ env.locals I oI J ⟨h, gs, s.drawn, tk, s.os⟩) E ⟨h, gs, s.drawn, tk, s.os⟩)
    (done : ∀ gs h' tk m' news', Fr h₀ env.locals h' m' → News h₀ env.locals h' news' → J gs m' news' → Q .next ⟨h', gs, s.drawn, tk, s.os⟩) :
    wpAny (model prog w) A (pyIter (.ref T)) (fun it s₂ => LoopAtG prog w A h₀ env x body Q E it s₂) E s := by
  refine wpAny_pyIter_tuple ⟨_, (N _ hT).1, rfl, _, rfl⟩ ?_
  have hLlt : env.locals < s.heap.objs.size := F.ns.lt
  have hfree : h₀.get? s.heap.objs.size = none := by
    cases e : h₀.get? s.heap.objs.size with
    | none => rfl
    | some o => exact absurd (Heap.lt_size (F.keep _ _ e)) (Nat.lt_irrefl _)
  exact ⟨s.heap.objs.size, T, v1, v2, m, news, J, rfl, hh, ⟨_, Heap.get?_push_size _ rfl, rfl, rfl⟩, Nat.ne_of_gt hLlt, hfree, F.keeps fun _ _ e => Heap.get?_push_of_some _ e, N.grown fun _ _ e => Heap.get?_push_of_some _ e, fun p hp => Nat.ne_of_lt (Heap.lt_size (N p hp).1), h0, hJT,
    fun v hv gs m₁ news₁ oI h tk a b c d e => turn v hv gs m₁ news₁ s.heap.objs.size oI h tk a b c d e, done⟩
end
end Mine
end

section
open PySem PySem.W PySem.Calls PyProof.Rows
set_option maxRecDepth 100000
set_option maxHeartbeats 2000000
namespace Mine
theorem zz_A6f : True := by
  w_top off
  k_with_none
  trivial
/-- what is built of x / 8 and y / 64 may be summed -/
structure FullFrom (us ys : List Int) (Q1 Q2 : Int) (V W : List Int) (n : Nat) (Xb Yb : Int) (pr qr : Nat → Int) : Prop where
  is : ∀ {zx zy : List Value}, RelI (FlEl (mulF Q1)) us zx → RelI (FlEl (mulF Q2)) ys zy → FullOk zx zy V W n Xb Yb pr qr
theorem map_k7 {m : Str → Option Value} {k a b c d e f g : Str} {v va vb vc vd ve vf vg : Value} (ha : m a = some va) (hb : m b = some vb) (hc : m c = some vc) (hd : m d = some vd) (he : m e = some ve) (hf : m f = some vf) (hg : m g = some vg) : (fun y => if y = k then some v else m y) = fun y => if y = k then some v else if y = a then some va else if y = b then some vb else if y = c then some vc else if y = d then some vd else if y = e then some ve else if y = f then some vf else if y = g then some vg else m y := by
  funext y
  by_cases h0 : y = k
  · rw [if_pos h0, if_pos h0]
  · rw [if_neg h0, if_neg h0]
    by_cases qa : y = a
    · rw [if_pos qa, qa, ha]
    · rw [if_neg qa]
      by_cases qb : y = b
      · rw [if_pos qb, qb, hb]
      · rw [if_neg qb]
        by_cases qc : y = c
        · rw [if_pos qc, qc, hc]
        · rw [if_neg qc]
          by_cases qd : y = d
          · rw [if_pos qd, qd, hd]
          · rw [if_neg qd]
            by_cases qe : y = e
            · rw [if_pos qe, qe, he]
            · rw [if_neg qe]
              by_cases qf : y = f
              · rw [if_pos qf, qf, hf]
              · rw [if_neg qf]
                by_cases qg : y = g
                · rw [if_pos qg, qg, hg]
                · rw [if_neg qg]
def StopG (P : Prop) : Prop := P
theorem stopG_ {P : Prop} (h : StopG P) : P := h
theorem zz_A6f_23 : True := by
  k_with "my exec For Name Tuple cons nil" =>
    (k_here; (rename Fr _ _ _ _ => lFzz99'); (with_unfolding_all refine' For_G lFzz99' ?zz99k1 ?zz99k2 ?_; (case zz99k1 => exact rfl); (case zz99k2 => exact rfl); k_whole))
  k_with "my pyIter ref" =>
    ((with_reducible show wpAny _ _ (pyIter (Value.ref _)) (fun itzz100 s₂ => LoopAtG _ _ _ _ _ _ _ _ _ itzz100 s₂) _ _); refine stopG_ ?_)
  k_with "my TurnG" =>
    (refine stopG_ ?_)
  trivial
local macro_rules | `(tactic| k_ne) => `(tactic| ((show @Ne Nat _ 179); (rename News _ _ _ _ => nU); first | exact ne_data (P := 179) nU (by k_mem) (by k_mem) (by intro e; cases e) | exact ne_cls (P := 179) nU (by k_mem) (by k_mem) (by assumption) | exact ne_cell (P := 179) nU (by k_mem) (by k_mem) (by assumption)))
theorem zz_A6f_24 : True := by
  k_with "my eval ListComp" =>
    (k_here; (with_reducible show wpAny _ _ (eval (Expr.ListComp (Expr.BinOp (Expr.Name _ _) Operator.Div _ _) _ _ _) _) _ _ _); k_dflt (refine LCg.ListComp_U (F₀ := by k_asm) (by with_unfolding_all rfl) (by decide) (by rfl) (by decide) (by rfl) ?_))
  k_with "my CompSrc" =>
    (k_here; k_dflt ((show LCg.CompSrc _ _ _ _ _ _ _ (Expr.BinOp (Expr.Name _ _) Operator.Div _ _) _ _ _ _ _ _); (refine' src_d ?zz103hh ?zz103F ?zz103N ?zz103hm ?zz103hl ?zz103hq ?zz103h2 (fun kzz103' tzz103' Izz103' oIzz103' Czz103' oCzz103' Dzz103' mzz103' yszz103' hzz103' tkzz103' Ezz103' hkzz103' hCzz103' hxzz103' Fzz103' Nzz103' offzz103' nezz103' => ?_) (fun gzz103' yszz103' hlzz103' hl2zz103' hIzz103' => ?_)); (case zz103hh => rfl); (case zz103F => k_asm); (case zz103N => k_asm); (case zz103hm => k_mem); (case zz103hl => assumption); (case zz103hq => assumption); (case zz103h2 => omega); (all_goals (try (simp only [LCg.Off3, and_true] at offzz103')))))
  k_with "my binaryOp Div int int" =>
    (k_here; k_dflt ((refine' div_q ?zz104D ?zz104h ?zz104b ?_; (case zz104D => assumption); (case zz104h => rfl); (case zz104b => decide)); intro rzz104' tzz104' qzz104'))
  k_with "my CompEnd" =>
    (refine' compEnd_el ?zz105F ?zz105N ?zz105sub ?zz105off ?zz105S ?zz105r; (case zz105r => exact FlEl.mk ⟨_, _, rfl, by assumption⟩); (case zz105F => assumption); (case zz105N => assumption); (case zz105sub => kcf_all); (case zz105off => first | assumption | (simp only [LCg.Off3, and_true]; done) | (simp only [LCg.Off3, and_true]; assumption)); (case zz105S => first | exact trivial | exact rfl | lcg_src | assumption | exact Or.inr ⟨_, by k_mem, rfl, _, rfl⟩))
  k_with "my CompEl" =>
    exact ⟨rfl, FlEl.mk ⟨_, _, rfl, by assumption⟩⟩
  k_with "my call ref cons" =>
    (k_here; (with_reducible show wpAny _ _ (call (Value.ref 189) _ _) _ _ _); k_dflt (first | (refine' u1_flat3 ?zz107B ?zz107F ?zz107N ?zz107U ?zz107hT ?zz107T ?zz107hk ?zz107hd ?zz107hu ?zz107hx ?zz107hy ?zz107hxl ?zz107hyl ?zz107XB ?zz107TB ?zz107hlen ?zz107hn2 ?zz107hn ?zz107h200 ?zz107K ?zz107Z ?zz107hgs ?_ ?zz107X; (case zz107X => k_asm); (case zz107B => assumption); (case zz107F => k_asm); (case zz107N => k_asm); (case zz107U => k_updF); (case zz107hT => assumption); (case zz107T => assumption); (case zz107hk => rfl); (case zz107hd => ktr_room); (case zz107hu => ktr_units); (case zz107hx => k_mem); (case zz107hy => k_mem); (case zz107XB => assumption); (case zz107TB => assumption); (case zz107hxl => omega); (case zz107hyl => omega); (case zz107hlen => omega); (case zz107K => exact FullFrom.is (by assumption) (by assumption) (by assumption)); (case zz107hn2 => omega); (case zz107hn => assumption); (case zz107h200 => omega); (case zz107hgs => assumption); (case zz107Z => assumption); k_whole; intro hzz107' tkzz107' azz107' czz107' tzz107' gszz107' pszz107' hTzz107' Fzz107' Nzz107' hbzz107'; (try dsimp only at Nzz107')) | (refine' u1_flatK ?zz107B ?zz107F ?zz107N ?zz107U ?zz107hT ?zz107T ?zz107hk ?zz107hd ?zz107hu ?zz107hx ?zz107hy ?zz107hxl ?zz107hyl ?zz107XB ?zz107TB ?zz107hlen ?zz107hn2 ?zz107hn ?zz107h200 ?zz107K ?zz107Z ?zz107hgs ?_ ?zz107X; (case zz107X => k_asm); (case zz107B => assumption); (case zz107F => k_asm); (case zz107N => k_asm); (case zz107U => k_updF); (case zz107hT => assumption); (case zz107T => assumption); (case zz107hk => rfl); (case zz107hd => ktr_room); (case zz107hu => ktr_units); (case zz107hx => k_mem); (case zz107hy => k_mem); (case zz107XB => assumption); (case zz107TB => assumption); (case zz107hxl => omega); (case zz107hyl => omega); (case zz107hlen => omega); (case zz107K => exact FullFrom.is (by assumption) (by assumption) (by assumption)); (case zz107hn2 => omega); (case zz107hn => assumption); (case zz107h200 => omega); (case zz107hgs => assumption); (case zz107Z => assumption); k_whole; intro hzz107' tkzz107' azz107' czz107' tzz107' gszz107' pszz107' hTzz107' Fzz107' Nzz107' hbzz107'; (try dsimp only at Nzz107'))))
  trivial
theorem a6_flat {w : World} {fa : Addr} {cd : Value} {h₀ : Heap} {mean : ExcName → Option Value} {mg mb : Str → Option Value} {s : Shared} {Q : Flow → Shared → Prop} {R1 R2 : Value → Shared → Prop} {L aS aL ax ay at' af : Addr} {m : Str → Option Value} {ws zl zx zy zt : List Value} {us ys : List Int} {n c cy : Nat} {oA oB oS : Obj} {tn tf : Tok} {Q1 Q2 : Int} {V W : List Int} {Xb Yb : Int} {pr qr : Nat → Int} 
    (B : Below callerA h₀ [] h₀) (F : Fr h₀ L s.heap (fun z => if z = Str.ofString "due" then some (.ref af) else if z = Str.ofString "flat" then some (.ref af) else if z = Str.ofString "y" then some (.ref ay) else if z = Str.ofString "x" then some (.ref ax) else if z = Str.ofString "times" then some (.ref at') else if z = Str.ofString "level" then some (.ref aL) else if z = Str.ofString "n" then some (.int (n : Int) tn) else m z)) (N : News h₀ L s.heap [(af, listOf #[.str (Str.ofString "x is constant") tf] 0), (ay, listOf (List.toArray zy) cy), (ax, LCg.lst zx), (at', LCg.lst zt), (aL, listOf (List.toArray zl) c), (aS, listOf ws.toArray 0), (179, tabObj #[]), (L + 1 + 1 + 1, oB), (L + 1 + 1, oA), (L + 1, oS)])
    (T : Top Mine.vw (looseW Mine.vw [Str.ofString "_tuplegetter", Str.ofString "LinearRegression", Str.ofString "linear_regression"]) mean mg mb h₀)
    (hT : TabOk #[]) {vA vB vS : Option Value} (dA : oA.data = .cell vA) (dB : oB.data = .cell vB) (dS : oS.data = .cell vS)
    (hx : IntsAre zx us) (hy : IntsAre zy ys) (lx : zx.length = n) (ly : zy.length = n) (h2 : 2 ≤ n) (h40 : n ≤ 40) (qx : AllD 8 Q1 us) (qy : AllD 64 Q2 ys) (hK : FullFrom us ys Q1 Q2 V W n Xb Yb pr qr) (hgs : AllBare s.gens) (Z : FlatEnd n qr)
    (hQ : ∀ h' tk m' gs' ps', Fr h₀ L h' m' → News h₀ L h' [(ay, listOf (List.toArray zy) cy), (ax, LCg.lst zx), (at', LCg.lst zt), (aL, listOf (List.toArray zl) c), (aS, listOf ws.toArray 0), (179, tabObj ps'), (L + 1 + 1 + 1, oB), (L + 1 + 1, oA), (L + 1, oS)] → TabOk ps' → AllBare gs' → m' (Str.ofString "flat") = some (.ref af) → m' (Str.ofString "y") = some (.ref ay) → m' (Str.ofString "x") = some (.ref ax) → m' (Str.ofString "times") = some (.ref at') → m' (Str.ofString "level") = some (.ref aL) → m' (Str.ofString "n") = some (.int (n : Int) tn) → News h₀ L h' [(af, listOf #[.str (Str.ofString "x is constant") tf] 0)] →
      wpAny (model PySem.Challenge.rw_kq0023_01.row.prog w) (callerA.deeper (envOfC (Str.ofString "law") lawScope L fa cd)) (execs (lawRest 16) (envOfC (Str.ofString "law") lawScope L fa cd)) Q (fun e s' => wpAny (model PySem.Challenge.rw_kq0023_01.row.prog w) (callerA.deeper (envOfC (Str.ofString "law") lawScope L fa cd)) (leaving (envOfC (Str.ofString "law") lawScope L fa cd) e) (fun _ s'' => R1 e s'') (fun e' s'' => R2 e' s'') s') ⟨h', gs', s.drawn, tk, s.os⟩) :
    (Mine.hd.heap_39 w.params).In h₀ → wpAny (model PySem.Challenge.rw_kq0023_01.row.prog w) (callerA.deeper (envOfC (Str.ofString "law") lawScope L fa cd)) (execs (lawRest 15) (envOfC (Str.ofString "law") lawScope L fa cd)) Q (fun e s' => wpAny (model PySem.Challenge.rw_kq0023_01.row.prog w) (callerA.deeper (envOfC (Str.ofString "law") lawScope L fa cd)) (leaving (envOfC (Str.ofString "law") lawScope L fa cd) e) (fun _ s'' => R1 e s'') (fun e' s'' => R2 e' s'') s') s := by
  k_fill
  intro X
  dsimp only [lawRest, lawScope, lawFn, fnScope, fnBody, PySem.Challenge.pw_kq0023_01, List.getLastD, List.getLast, List.drop]
  k_steps
  all_goals (try k_data)
  unfold StopG
  rename News _ _ _ _ => NN
  rename Fr _ _ _ _ => FF
  refine pair_inv (fun gs m₁ n₁ => AllBare gs ∧ m₁ (Str.ofString "due") = some (.ref af) ∧ m₁ (Str.ofString "flat") = some (.ref af) ∧ m₁ (Str.ofString "y") = some (.ref ay) ∧ m₁ (Str.ofString "x") = some (.ref ax) ∧ m₁ (Str.ofString "times") = some (.ref at') ∧ m₁ (Str.ofString "level") = some (.ref aL) ∧ m₁ (Str.ofString "n") = some (.int (n : Int) tn) ∧ ∃ ps, TabOk ps ∧ n₁ = [(_, { cls := .type "tuple", data := .seq #[.none, .bool false] : Obj }), (af, listOf #[.str (Str.ofString "x is constant") tf] 0), (ay, listOf (List.toArray zy) cy), (ax, LCg.lst zx), (at', LCg.lst zt), (aL, listOf (List.toArray zl) c), (aS, listOf ws.toArray 0), (179, tabObj ps), (L + 1 + 1 + 1, oB), (L + 1 + 1, oA), (L + 1, oS)]) rfl FF NN (.head _) ⟨hgs, rfl, rfl, rfl, rfl, rfl, rfl, rfl, #[], hT, rfl⟩ (fun gs m₁ n₁ hJ => ?_) (fun v hv gs m₁ news₁ I oI h tk hJ off hcI F₁ N₁ => ?_) (fun gs h' tk m' news' F' N' hJ => ?_)
  · obtain ⟨_, _, _, _, _, _, _, _, ps, _, rfl⟩ := hJ
    exact .head _
  · obtain ⟨hb, m1, m2, m3, m4, m5, m6, m7, ps, hTp, rfl⟩ := hJ
    rw [map_k7 m1 m2 m3 m4 m5 m6 m7] at F₁
    (try clear FF); (try clear NN); (try clear hT); (try clear hgs)
    rcases hv with rfl | rfl
    all_goals (k_steps; (all_goals (try k_data)); unfold StopG; (rename News _ _ _ _ => NN2); (rename Fr _ _ _ _ => FF2); refine ⟨rfl, _, _, _, _, _, rfl, FF2, news_subF NN2 (by repeat (first | exact k_nil | (refine k_cons (by k_mem) ?_))), ?_, by assumption, rfl, rfl, rfl, rfl, rfl, rfl, rfl, _, by assumption, rfl⟩; repeat (first | exact off_nil | (refine off_cons (off (_, _) (by k_mem)) ?_)))
  · obtain ⟨hb, m1, m2, m3, m4, m5, m6, m7, ps, hTp, rfl⟩ := hJ
    exact hQ _ _ _ _ _ F' (news_subF N' (by repeat (first | exact k_nil | (refine k_cons (by k_mem) ?_)))) hTp hb m2 m3 m4 m5 m6 m7 (news_subF N' (by repeat (first | exact k_nil | (refine k_cons (by k_mem) ?_))))
end Mine
end

section
open PySem PySem.W PySem.Calls PyProof.Rows
set_option maxRecDepth 100000
set_option maxHeartbeats 2000000
namespace Mine
theorem zz_A6l : True := by
  w_top off
  k_with_none
  trivial
def StopH (P : Prop) : Prop := P
theorem stopH_ {P : Prop} (h : StopH P) : P := h
theorem zz_A6l_25 : True := by
  k_with "my exec For Name Tuple cons nil" =>
    (k_here; (rename Fr _ _ _ _ => lFzz108'); (with_unfolding_all refine' For_G lFzz108' ?zz108k1 ?zz108k2 ?_; (case zz108k1 => exact rfl); (case zz108k2 => exact rfl); k_whole))
  k_with "my pyIter ref" =>
    ((with_reducible show wpAny _ _ (pyIter (Value.ref _)) (fun itzz109 s₂ => LoopAtG _ _ _ _ _ _ _ _ _ itzz109 s₂) _ _); refine stopH_ ?_)
  k_with "my TurnG" =>
    (refine stopH_ ?_)
  trivial
local macro_rules | `(tactic| k_ne) => `(tactic| ((show @Ne Nat _ 179); (rename News _ _ _ _ => nU); first | exact ne_data (P := 179) nU (by k_mem) (by k_mem) (by intro e; cases e) | exact ne_cls (P := 179) nU (by k_mem) (by k_mem) (by assumption) | exact ne_cell (P := 179) nU (by k_mem) (by k_mem) (by assumption)))
theorem zz_A6l_26 : True := by
  k_with "my eval ListComp" =>
    (k_here; (with_reducible show wpAny _ _ (eval (Expr.ListComp (Expr.BinOp (Expr.Name _ _) Operator.Div _ _) _ _ _) _) _ _ _); k_dflt (refine LCg.ListComp_U (F₀ := by k_asm) (by with_unfolding_all rfl) (by decide) (by rfl) (by decide) (by rfl) ?_))
  k_with "my CompSrc" =>
    (k_here; k_dflt ((show LCg.CompSrc _ _ _ _ _ _ _ (Expr.BinOp (Expr.Name _ _) Operator.Div _ _) _ _ _ _ _ _); (refine' src_d ?zz112hh ?zz112F ?zz112N ?zz112hm ?zz112hl ?zz112hq ?zz112h2 (fun kzz112' tzz112' Izz112' oIzz112' Czz112' oCzz112' Dzz112' mzz112' yszz112' hzz112' tkzz112' Ezz112' hkzz112' hCzz112' hxzz112' Fzz112' Nzz112' offzz112' nezz112' => ?_) (fun gzz112' yszz112' hlzz112' hl2zz112' hIzz112' => ?_)); (case zz112hh => rfl); (case zz112F => k_asm); (case zz112N => k_asm); (case zz112hm => k_mem); (case zz112hl => assumption); (case zz112hq => assumption); (case zz112h2 => omega); (all_goals (try (simp only [LCg.Off3, and_true] at offzz112')))))
  k_with "my binaryOp Div int int" =>
    (k_here; k_dflt ((refine' div_q ?zz113D ?zz113h ?zz113b ?_; (case zz113D => assumption); (case zz113h => rfl); (case zz113b => decide)); intro rzz113' tzz113' qzz113'))
  k_with "my CompEnd" =>
    (refine' compEnd_el ?zz114F ?zz114N ?zz114sub ?zz114off ?zz114S ?zz114r; (case zz114r => exact FlEl.mk ⟨_, _, rfl, by assumption⟩); (case zz114F => assumption); (case zz114N => assumption); (case zz114sub => kcf_all); (case zz114off => first | assumption | (simp only [LCg.Off3, and_true]; done) | (simp only [LCg.Off3, and_true]; assumption)); (case zz114S => first | exact trivial | exact rfl | lcg_src | assumption | exact Or.inr ⟨_, by k_mem, rfl, _, rfl⟩))
  k_with "my CompEl" =>
    exact ⟨rfl, FlEl.mk ⟨_, _, rfl, by assumption⟩⟩
  k_with "my call ref cons" =>
    (k_here; (with_reducible show wpAny _ _ (call (Value.ref 189) _ _) _ _ _); k_dflt (first | (refine' u1_full ?zz116B ?zz116F ?zz116N ?zz116U ?zz116hT ?zz116T ?zz116hk ?zz116hd ?zz116hu ?zz116hx ?zz116hy ?zz116hxl ?zz116hyl ?zz116XB ?zz116TB ?zz116hlen ?zz116hn2 ?zz116hn ?zz116h200 ?zz116K ?zz116D ?zz116hgs ?_ ?zz116X; (case zz116X => k_asm); (case zz116B => assumption); (case zz116F => k_asm); (case zz116N => k_asm); (case zz116U => k_updF); (case zz116hT => assumption); (case zz116T => assumption); (case zz116hk => rfl); (case zz116hd => ktr_room); (case zz116hu => ktr_units); (case zz116hx => k_mem); (case zz116hy => k_mem); (case zz116XB => assumption); (case zz116TB => assumption); (case zz116hxl => omega); (case zz116hyl => omega); (case zz116hlen => omega); (case zz116K => exact FullFrom.is (by assumption) (by assumption) (by assumption)); (case zz116hn2 => omega); (case zz116hn => assumption); (case zz116h200 => omega); (case zz116hgs => assumption); (case zz116D => assumption); k_whole; intro hzz116' tkzz116' azz116' czz116' r1zz116' t1zz116' r2zz116' t2zz116' gszz116' pszz116' hTzz116' Fzz116' Nzz116' e1zz116' e2zz116' k1zz116' k2zz116' hbzz116'; (try dsimp only at Nzz116')) | (refine' u1_fullK ?zz116B ?zz116F ?zz116N ?zz116U ?zz116hT ?zz116T ?zz116hk ?zz116hd ?zz116hu ?zz116hx ?zz116hy ?zz116hxl ?zz116hyl ?zz116XB ?zz116TB ?zz116hlen ?zz116hn2 ?zz116hn ?zz116h200 ?zz116K ?zz116D ?zz116hgs ?_ ?zz116X; (case zz116X => k_asm); (case zz116B => assumption); (case zz116F => k_asm); (case zz116N => k_asm); (case zz116U => k_updF); (case zz116hT => assumption); (case zz116T => assumption); (case zz116hk => rfl); (case zz116hd => ktr_room); (case zz116hu => ktr_units); (case zz116hx => k_mem); (case zz116hy => k_mem); (case zz116XB => assumption); (case zz116TB => assumption); (case zz116hxl => omega); (case zz116hyl => omega); (case zz116hlen => omega); (case zz116K => exact FullFrom.is (by assumption) (by assumption) (by assumption)); (case zz116hn2 => omega); (case zz116hn => assumption); (case zz116h200 => omega); (case zz116hgs => assumption); (case zz116D => assumption); k_whole; intro hzz116' tkzz116' azz116' czz116' r1zz116' t1zz116' r2zz116' t2zz116' gszz116' pszz116' hTzz116' Fzz116' Nzz116' e1zz116' e2zz116' k1zz116' k2zz116' hbzz116'; (try dsimp only at Nzz116'))))
  k_with "my compareOp NotEq ref ref" =>
    (k_here; k_dflt (refine' ne_six ?zz117N ?zz117u ?zz117a ?zz117b ?zz117nb ?zz117S ?_; (case zz117N => k_asm); (case zz117a => k_mem); (case zz117b => k_mem); (case zz117u => first | ktr_units | decide); (case zz117nb => exact NoneBooked.keeps (by assumption) (Fr.keep (by k_asm))); (case zz117S => exact ⟨by assumption, by assumption, by assumption, by assumption, by assumption, by assumption, by assumption, by assumption, by assumption, by assumption, by assumption, by assumption⟩); k_whole))
  trivial
theorem a6_line {w : World} {fa : Addr} {cd : Value} {h₀ : Heap} {mean : ExcName → Option Value} {mg mb : Str → Option Value} {s : Shared} {Q : Flow → Shared → Prop} {R1 R2 : Value → Shared → Prop} {L aS aL ax ay at' af : Addr} {m : Str → Option Value} {ws zl zx zy zt : List Value} {us ys : List Int} {n c cy : Nat} {oA oB oS : Obj} {tn tf : Tok} {Q1 Q2 : Int} {V W : List Int} {Xb Yb : Int} {pr qr : Nat → Int} {ad : Addr} {b1 b2 b3 b4 : UInt64} {u1 u2 u3 u4 : Tok} {Sl M : Int}
    (B : Below callerA h₀ [] h₀) (F : Fr h₀ L s.heap (fun z => if z = Str.ofString "due" then some (.ref ad) else if z = Str.ofString "flat" then some (.ref af) else if z = Str.ofString "y" then some (.ref ay) else if z = Str.ofString "x" then some (.ref ax) else if z = Str.ofString "times" then some (.ref at') else if z = Str.ofString "level" then some (.ref aL) else if z = Str.ofString "n" then some (.int (n : Int) tn) else m z)) (N : News h₀ L s.heap [(ad, listOf #[.bool true, .bool true, .float b1 u1, .float b2 u2, .float b3 u3, .float b4 u4] 0), (af, listOf #[.str (Str.ofString "x is constant") tf] 0), (ay, listOf (List.toArray zy) cy), (ax, LCg.lst zx), (at', LCg.lst zt), (aL, listOf (List.toArray zl) c), (aS, listOf ws.toArray 0), (179, tabObj #[]), (L + 1 + 1 + 1, oB), (L + 1 + 1, oA), (L + 1, oS)])
    (T : Top Mine.vw (looseW Mine.vw [Str.ofString "_tuplegetter", Str.ofString "LinearRegression", Str.ofString "linear_regression"]) mean mg mb h₀)
    (hT : TabOk #[]) {vA vB vS : Option Value} (dA : oA.data = .cell vA) (dB : oB.data = .cell vB) (dS : oS.data = .cell vS)
    (hx : IntsAre zx us) (hy : IntsAre zy ys) (lx : zx.length = n) (ly : zy.length = n) (h2 : 2 ≤ n) (h40 : n ≤ 40) (qx : AllD 8 Q1 us) (qy : AllD 64 Q2 ys) (hK : FullFrom us ys Q1 Q2 V W n Xb Yb pr qr) (hgs : AllBare s.gens) (D : FullEnd n Xb Yb pr qr Sl M) (nb : NoneBooked h₀) (f1 : Mine.Ex b1 Sl) (y1 : TokOk u1) (f2 : Mine.Ex b2 (Yb - M)) (y2 : TokOk u2) (f3 : Mine.Ex b3 Sl) (y3 : TokOk u3) (f4 : Mine.Ex b4 (Yb - M)) (y4 : TokOk u4)
    (hQ : ∀ h' tk m' gs' ps', Fr h₀ L h' m' → News h₀ L h' [(ay, listOf (List.toArray zy) cy), (ax, LCg.lst zx), (at', LCg.lst zt), (aL, listOf (List.toArray zl) c), (aS, listOf ws.toArray 0), (179, tabObj ps'), (L + 1 + 1 + 1, oB), (L + 1 + 1, oA), (L + 1, oS)] → TabOk ps' → AllBare gs' → m' (Str.ofString "flat") = some (.ref af) → m' (Str.ofString "y") = some (.ref ay) → m' (Str.ofString "x") = some (.ref ax) → m' (Str.ofString "times") = some (.ref at') → m' (Str.ofString "level") = some (.ref aL) → m' (Str.ofString "n") = some (.int (n : Int) tn) → News h₀ L h' [(af, listOf #[.str (Str.ofString "x is constant") tf] 0)] →
      wpAny (model PySem.Challenge.rw_kq0023_01.row.prog w) (callerA.deeper (envOfC (Str.ofString "law") lawScope L fa cd)) (execs (lawRest 16) (envOfC (Str.ofString "law") lawScope L fa cd)) Q (fun e s' => wpAny (model PySem.Challenge.rw_kq0023_01.row.prog w) (callerA.deeper (envOfC (Str.ofString "law") lawScope L fa cd)) (leaving (envOfC (Str.ofString "law") lawScope L fa cd) e) (fun _ s'' => R1 e s'') (fun e' s'' => R2 e' s'') s') ⟨h', gs', s.drawn, tk, s.os⟩) :
    (Mine.hd.heap_39 w.params).In h₀ → wpAny (model PySem.Challenge.rw_kq0023_01.row.prog w) (callerA.deeper (envOfC (Str.ofString "law") lawScope L fa cd)) (execs (lawRest 15) (envOfC (Str.ofString "law") lawScope L fa cd)) Q (fun e s' => wpAny (model PySem.Challenge.rw_kq0023_01.row.prog w) (callerA.deeper (envOfC (Str.ofString "law") lawScope L fa cd)) (leaving (envOfC (Str.ofString "law") lawScope L fa cd) e) (fun _ s'' => R1 e s'') (fun e' s'' => R2 e' s'') s') s := by
  k_fill
  intro X
  dsimp only [lawRest, lawScope, lawFn, fnScope, fnBody, PySem.Challenge.pw_kq0023_01, List.getLastD, List.getLast, List.drop]
  k_steps
  all_goals (try k_data)
  unfold StopH
  rename News _ _ _ _ => NN
  rename Fr _ _ _ _ => FF
  refine pair_inv (fun gs m₁ n₁ => AllBare gs ∧ m₁ (Str.ofString "due") = some (.ref ad) ∧ m₁ (Str.ofString "flat") = some (.ref af) ∧ m₁ (Str.ofString "y") = some (.ref ay) ∧ m₁ (Str.ofString "x") = some (.ref ax) ∧ m₁ (Str.ofString "times") = some (.ref at') ∧ m₁ (Str.ofString "level") = some (.ref aL) ∧ m₁ (Str.ofString "n") = some (.int (n : Int) tn) ∧ ∃ ps, TabOk ps ∧ n₁ = [(_, { cls := .type "tuple", data := .seq #[.none, .bool false] : Obj }), (ad, listOf #[.bool true, .bool true, .float b1 u1, .float b2 u2, .float b3 u3, .float b4 u4] 0), (af, listOf #[.str (Str.ofString "x is constant") tf] 0), (ay, listOf (List.toArray zy) cy), (ax, LCg.lst zx), (at', LCg.lst zt), (aL, listOf (List.toArray zl) c), (aS, listOf ws.toArray 0), (179, tabObj ps), (L + 1 + 1 + 1, oB), (L + 1 + 1, oA), (L + 1, oS)]) rfl FF NN (.head _) ⟨hgs, rfl, rfl, rfl, rfl, rfl, rfl, rfl, #[], hT, rfl⟩ (fun gs m₁ n₁ hJ => ?_) (fun v hv gs m₁ news₁ I oI h tk hJ off hcI F₁ N₁ => ?_) (fun gs h' tk m' news' F' N' hJ => ?_)
  · obtain ⟨_, _, _, _, _, _, _, _, ps, _, rfl⟩ := hJ
    exact .head _
  · obtain ⟨hb, m1, m2, m3, m4, m5, m6, m7, ps, hTp, rfl⟩ := hJ
    rw [map_k7 m1 m2 m3 m4 m5 m6 m7] at F₁
    (try clear FF); (try clear NN); (try clear hT); (try clear hgs)
    rcases hv with rfl | rfl
    all_goals (k_steps; (all_goals (try k_data)); unfold StopH; (rename News _ _ _ _ => NN2); (rename Fr _ _ _ _ => FF2); refine ⟨rfl, _, _, _, _, _, rfl, FF2, news_subF NN2 (by repeat (first | exact k_nil | (refine k_cons (by k_mem) ?_))), ?_, by assumption, rfl, rfl, rfl, rfl, rfl, rfl, rfl, _, by assumption, rfl⟩; repeat (first | exact off_nil | (refine off_cons (off (_, _) (by k_mem)) ?_)))
  · obtain ⟨hb, m1, m2, m3, m4, m5, m6, m7, ps, hTp, rfl⟩ := hJ
    exact hQ _ _ _ _ _ F' (news_subF N' (by repeat (first | exact k_nil | (refine k_cons (by k_mem) ?_)))) hTp hb m2 m3 m4 m5 m6 m7 (news_subF N' (by repeat (first | exact k_nil | (refine k_cons (by k_mem) ?_))))
end Mine
end

section
open PySem PySem.W PySem.Calls PyProof.Rows
set_option maxRecDepth 100000
set_option maxHeartbeats 1000000
namespace Mine
theorem zz_A7 : True := by
  w_top off
  k_with_none
  trivial
def StopI (P : Prop) : Prop := P
theorem stopI_ {P : Prop} (h : StopI P) : P := h
theorem zz_A7_27 : True := by
  k_with "my execs cons" =>
    ((with_reducible show wpAny _ _ (execs (Stmt.For _ _ _ _ _ :: _) _) _ _ _); refine stopI_ ?_)
  k_with "my binaryOp Mult int int" =>
    (k_here; refine mul_l (by assumption) ?_)
  trivial
def zL (a : Int) (lev : List Int) : List Int := lev.map fun k => a * k
theorem a7 {w : World} {fa : Addr} {cd : Value} {h₀ : Heap} {mean : ExcName → Option Value} {mg mb : Str → Option Value} {s : Shared} {Q : Flow → Shared → Prop} {R1 R2 : Value → Shared → Prop} {L aS aL at' af : Addr} {m : Str → Option Value} {ws zl zt : List Value} {lev : List Int} {n c : Nat} {oA oB oS : Obj} {ps : Array Value} {tn tf tA : Tok} {a : Int}
    (B : Below callerA h₀ [] h₀) (F : Fr h₀ L s.heap (fun z => if z = Str.ofString "flat" then some (.ref af) else if z = Str.ofString "times" then some (.ref at') else if z = Str.ofString "level" then some (.ref aL) else if z = Str.ofString "n" then some (.int (n : Int) tn) else m z)) (N : News h₀ L s.heap [(af, listOf #[.str (Str.ofString "x is constant") tf] 0), (at', LCg.lst zt), (aL, listOf (List.toArray zl) c), (aS, listOf ws.toArray 0), (179, tabObj ps), (L + 1 + 1 + 1, oB), (L + 1 + 1, oA), (L + 1, oS)])
    (T : Top Mine.vw (looseW Mine.vw [Str.ofString "_tuplegetter", Str.ofString "LinearRegression", Str.ofString "linear_regression"]) mean mg mb h₀)
    (hz : IntsAre zl lev) (lz : zl.length = n) (h40 : n ≤ 40) (dA : oA.data = .cell (some (.int a tA))) (hsa : Sm a)
    (hQ : ∀ h' tk ay zy, Fr h₀ L h' (fun z => if z = Str.ofString "y" then some (.ref ay) else if z = Str.ofString "flat" then some (.ref af) else if z = Str.ofString "times" then some (.ref at') else if z = Str.ofString "level" then some (.ref aL) else if z = Str.ofString "n" then some (.int (n : Int) tn) else m z) → News h₀ L h' [(ay, LCg.lst zy), (af, listOf #[.str (Str.ofString "x is constant") tf] 0), (at', LCg.lst zt), (aL, listOf (List.toArray zl) c), (aS, listOf ws.toArray 0), (179, tabObj ps), (L + 1 + 1 + 1, oB), (L + 1 + 1, oA), (L + 1, oS)] → (@Ne Nat af ay ∧ @Ne Nat at' ay ∧ @Ne Nat aL ay ∧ @Ne Nat aS ay ∧ @Ne Nat 179 ay ∧ @Ne Nat (L + 1 + 1 + 1) ay ∧ @Ne Nat (L + 1 + 1) ay ∧ @Ne Nat (L + 1) ay) → IntsAre zy (zL a lev) →
      wpAny (model PySem.Challenge.rw_kq0023_01.row.prog w) (callerA.deeper (envOfC (Str.ofString "law") lawScope L fa cd)) (execs (lawRest 17) (envOfC (Str.ofString "law") lawScope L fa cd)) Q (fun e s' => wpAny (model PySem.Challenge.rw_kq0023_01.row.prog w) (callerA.deeper (envOfC (Str.ofString "law") lawScope L fa cd)) (leaving (envOfC (Str.ofString "law") lawScope L fa cd) e) (fun _ s'' => R1 e s'') (fun e' s'' => R2 e' s'') s') ⟨h', s.gens, s.drawn, tk, s.os⟩) :
    (Mine.hd.heap_39 w.params).In h₀ → wpAny (model PySem.Challenge.rw_kq0023_01.row.prog w) (callerA.deeper (envOfC (Str.ofString "law") lawScope L fa cd)) (execs (lawRest 16) (envOfC (Str.ofString "law") lawScope L fa cd)) Q (fun e s' => wpAny (model PySem.Challenge.rw_kq0023_01.row.prog w) (callerA.deeper (envOfC (Str.ofString "law") lawScope L fa cd)) (leaving (envOfC (Str.ofString "law") lawScope L fa cd) e) (fun _ s'' => R1 e s'') (fun e' s'' => R2 e' s'') s') s := by
  k_fill
  intro X
  dsimp only [lawRest, lawScope, lawFn, fnScope, fnBody, PySem.Challenge.pw_kq0023_01, List.getLastD, List.getLast, List.drop]
  k_steps
  all_goals (try k_data)
  unfold StopI
  rename News _ _ _ _ => NN
  rename Fr _ _ _ _ => FF
  exact hQ _ _ _ _ FF NN (by assumption) (by assumption)
end Mine
end

section
open PySem PySem.W PySem.Calls PyProof.Rows
set_option maxRecDepth 100000
set_option maxHeartbeats 1000000
namespace Mine
theorem zz_A8 : True := by
  w_top off
  k_with_none
  trivial
def lawForB : Stmt := (lawRest 17).headD (.Pass default)
def StopJ (P : Prop) : Prop := P
theorem stopJ_ {P : Prop} (h : StopJ P) : P := h
theorem zz_A8_28 : True := by
  k_with "my exec For Name Call cons nil" =>
    (k_here; (rename Fr _ _ _ _ => lFzz120'); (with_unfolding_all refine' For_invVF lFzz120' ?zz120k1 ?zz120k2 ?_; (case zz120k1 => exact rfl); (case zz120k2 => exact rfl); k_whole))
  k_with "my pyIter ref" =>
    (refine stopJ_ ?_)
  k_with "my RangeStep" =>
    (refine stopJ_ ?_)
  k_with "my setItem ref int int" =>
    (k_here; k_dflt (refine' ksa_set ?zz123F ?zz123N ?zz123U ?zz123i ?zz123a ?zz123b ?zz123c ?_; (case zz123F => k_asm); (case zz123N => k_asm); (case zz123U => k_upd); (case zz123i => assumption); (case zz123a => omega); (case zz123b => omega); (case zz123c => omega); k_whole); intro hzz123' Fzz123' Nzz123' hizz123' hlzz123' hszz123')
  k_with "my binaryOp Mult int int" =>
    (k_here; refine mul_l (SmAll.at (by assumption) _) ?_)
  trivial
theorem loopB {w : World} {fa : Addr} {cd : Value} {h₀ : Heap} {mean : ExcName → Option Value} {mg mb : Str → Option Value} {s : Shared} {Q : Flow → Shared → Prop} {R1 R2 : Value → Shared → Prop} {L aS aL at' af ay : Addr} {m : Str → Option Value} {ws zl zy zt : List Value} {lev ts y0 : List Int} {n c : Nat} {oA oB oS : Obj} {ps : Array Value} {tn tf : Tok} {BD : Nat}
    (B : Below callerA h₀ [] h₀) (F : Fr h₀ L s.heap (fun z => if z = Str.ofString "y" then some (.ref ay) else if z = Str.ofString "flat" then some (.ref af) else if z = Str.ofString "times" then some (.ref at') else if z = Str.ofString "level" then some (.ref aL) else if z = Str.ofString "n" then some (.int (n : Int) tn) else m z)) (N : News h₀ L s.heap [(ay, LCg.lst zy), (af, listOf #[.str (Str.ofString "x is constant") tf] 0), (at', LCg.lst zt), (aL, listOf (List.toArray zl) c), (aS, listOf ws.toArray 0), (179, tabObj ps), (L + 1 + 1 + 1, oB), (L + 1 + 1, oA), (L + 1, oS)])
    (T : Top Mine.vw (looseW Mine.vw [Str.ofString "_tuplegetter", Str.ofString "LinearRegression", Str.ofString "linear_regression"]) mean mg mb h₀) (hne : (@Ne Nat af ay ∧ @Ne Nat at' ay ∧ @Ne Nat aL ay ∧ @Ne Nat aS ay ∧ @Ne Nat 179 ay ∧ @Ne Nat (L + 1 + 1 + 1) ay ∧ @Ne Nat (L + 1 + 1) ay ∧ @Ne Nat (L + 1) ay))
    (ht : IntsAre zt ts) (hz : IntsAre zl lev) (hy : IntsAre zy y0) (lt : ts.length = n) (ll : lev.length = n) (ly : y0.length = n) (h2 : 2 ≤ n) (h40 : n ≤ 40) (hst : SmAll ts) (hB : ∀ i j, (ts.getD i 0 * lev.getD j 0).natAbs ≤ BD)
    (hQ : ∀ h' tk zs ys c' m', Fr h₀ L h' m' → News h₀ L h' [(ay, listOf (List.toArray zs) c'), (af, listOf #[.str (Str.ofString "x is constant") tf] 0), (at', LCg.lst zt), (aL, listOf (List.toArray zl) c), (aS, listOf ws.toArray 0), (179, tabObj ps), (L + 1 + 1 + 1, oB), (L + 1 + 1, oA), (L + 1, oS)] → IntsAre zs ys → InvB lev y0 n BD (n - 1) ys →
      m' (Str.ofString "y") = some (.ref ay) → m' (Str.ofString "flat") = some (.ref af) → m' (Str.ofString "times") = some (.ref at') → m' (Str.ofString "level") = some (.ref aL) → m' (Str.ofString "n") = some (.int (n : Int) tn) → Q .next { s with heap := h', toks := tk }) :
    (Mine.hd.heap_39 w.params).In h₀ → wpAny (model PySem.Challenge.rw_kq0023_01.row.prog w) (callerA.deeper (envOfC (Str.ofString "law") lawScope L fa cd)) (exec lawForB (envOfC (Str.ofString "law") lawScope L fa cd)) Q (fun e s' => wpAny (model PySem.Challenge.rw_kq0023_01.row.prog w) (callerA.deeper (envOfC (Str.ofString "law") lawScope L fa cd)) (leaving (envOfC (Str.ofString "law") lawScope L fa cd) e) (fun _ s'' => R1 e s'') (fun e' s'' => R2 e' s'') s') s := by
  k_fill
  intro X
  dsimp only [lawForB, lawRest, lawScope, lawFn, fnScope, fnBody, PySem.Challenge.pw_kq0023_01, List.getLastD, List.getLast, List.drop, List.headD]
  k_steps
  unfold StopJ
  rename IsRange _ _ _ _ _ _ _ _ => hR
  rename News _ _ _ _ => NN
  rename Fr _ _ _ _ => FF
  have elz : zl.length = n := by rw [hz.length]; exact ll
  have elt : zt.length = n := by rw [ht.length]; exact lt
  refine range_invF (k := 1) (n := n - 1) (fun i m₁ news₁ => m₁ (Str.ofString "y") = some (.ref ay) ∧ m₁ (Str.ofString "flat") = some (.ref af) ∧ m₁ (Str.ofString "times") = some (.ref at') ∧ m₁ (Str.ofString "level") = some (.ref aL) ∧ m₁ (Str.ofString "n") = some (.int (n : Int) tn) ∧ ∃ zs ys c', news₁ = (ay, listOf (List.toArray zs) c') :: [(af, listOf #[.str (Str.ofString "x is constant") tf] 0), (at', LCg.lst zt), (aL, listOf (List.toArray zl) c), (aS, listOf ws.toArray 0), (179, tabObj ps), (L + 1 + 1 + 1, oB), (L + 1 + 1, oA), (L + 1, oS)] ∧ IntsAre zs ys ∧ InvB lev y0 n BD i ys) rfl FF NN hR (by omega) (by omega) (by omega) ⟨rfl, rfl, rfl, rfl, rfl, zy, y0, _, rfl, hy, ⟨ly, rfl, fun j => by rw [Int.sub_self]; exact Nat.zero_le _⟩⟩ (fun i t m₁ news₁ I oI h tk hi' hJ off F₁ N₁ => ?_) (fun h' tk m' news' F' N' hJ => ?_)
  · obtain ⟨hm1, hm2, hm3, hm4, hm5, zs, ys, c', rfl, hz', hP⟩ := hJ
    rw [map_k5 hm1 hm2 hm3 hm4 hm5] at F₁
    have hlen := hP.len
    have hneI : @Ne Nat ay I := off _ (.head _)
    have hll := hz'.length
    (try clear FF); (try clear NN)
    k_steps
    all_goals (try k_data)
    unfold StopJ
    rename News _ _ _ _ => NN2
    rename Fr _ _ _ _ => FF2
    refine ⟨rfl, _, _, _, _, rfl, FF2, NN2, fun p hp => ?_, rfl, rfl, rfl, rfl, rfl, _, _, _, rfl, by assumption, inv_stepB hP hi' rfl hB⟩
    rcases List.mem_cons.mp hp with rfl | hp
    · exact hneI
    · exact off _ (.tail _ hp)
  · obtain ⟨hm1, hm2, hm3, hm4, hm5, zs, ys, c', rfl, hz', hP⟩ := hJ
    exact hQ _ _ _ _ _ _ F' N' hz' hP hm1 hm2 hm3 hm4 hm5
end Mine
end

section
open PySem PySem.W PySem.Calls PyProof.Rows
set_option maxRecDepth 100000
set_option maxHeartbeats 1000000
namespace Mine
theorem zz_A9 : True := by
  w_top off
  k_with_none
  trivial
def StopK (P : Prop) : Prop := P
theorem stopK_ {P : Prop} (h : StopK P) : P := h
theorem zz_A9_29 : True := by
  k_with "my execs cons" =>
    ((with_reducible show wpAny _ _ (execs (Stmt.Return _ _ :: _) _) _ _ _); refine stopK_ ?_)
  k_with "my binaryOp Div int int" =>
    (k_here; k_dflt ((refine' div_p ?zz126D ?zz126h ?zz126b ?zz126p ?_; (case zz126D => assumption); (case zz126h => rfl); (case zz126b => decide); (case zz126p => exact Nat.succ_pos _)); intro rzz126' tzz126' qzz126' kzz126'))
  trivial
theorem ex_ne {lev : List Int} {a b : Int} (h : a ≠ b) (ha : a ∈ lev) (hb : b ∈ lev) : ∃ u ∈ lev, u ≠ 0 := by
  by_cases c : a = 0
  · exact ⟨b, hb, fun e => h (c.trans e.symm)⟩
  · exact ⟨a, ha, c⟩
theorem a9 {w : World} {fa : Addr} {cd : Value} {h₀ : Heap} {mean : ExcName → Option Value} {mg mb : Str → Option Value} {s : Shared} {Q : Flow → Shared → Prop} {R1 R2 : Value → Shared → Prop} {L aL ay af : Addr} {m : Str → Option Value} {zl zy : List Value} {lev ys : List Int} {n c cy : Nat} {oA oB oS : Obj} {ps : Array Value} {tf tA : Tok} {a P1 : Int}
    (B : Below callerA h₀ [] h₀) (F : Fr h₀ L s.heap (fun z => if z = Str.ofString "y" then some (.ref ay) else if z = Str.ofString "flat" then some (.ref af) else if z = Str.ofString "level" then some (.ref aL) else m z)) (N : News h₀ L s.heap [(ay, listOf (List.toArray zy) cy), (af, listOf #[.str (Str.ofString "x is constant") tf] 0), (aL, listOf (List.toArray zl) c), (179, tabObj ps), (L + 1 + 1 + 1, oB), (L + 1 + 1, oA), (L + 1, oS)])
    (T : Top Mine.vw (looseW Mine.vw [Str.ofString "_tuplegetter", Str.ofString "LinearRegression", Str.ofString "linear_regression"]) mean mg mb h₀)
    (hz : IntsAre zl lev) (lz : zl.length = n) (ll : lev.length = n) (h2 : 2 ≤ n) (h40 : n ≤ 40) (dA : oA.data = .cell (some (.int a tA))) (DA : DivP a 8 P1)
    (hF : ∀ h' tk, (∀ u ∈ lev, u = 0) → Fr h₀ L h' (fun z => if z = Str.ofString "due" then some (.ref af) else if z = Str.ofString "y" then some (.ref ay) else if z = Str.ofString "flat" then some (.ref af) else if z = Str.ofString "level" then some (.ref aL) else m z) → News h₀ L h' [(ay, listOf (List.toArray zy) cy), (af, listOf #[.str (Str.ofString "x is constant") tf] 0), (aL, listOf (List.toArray zl) c), (179, tabObj ps), (L + 1 + 1 + 1, oB), (L + 1 + 1, oA), (L + 1, oS)] → wpAny (model PySem.Challenge.rw_kq0023_01.row.prog w) (callerA.deeper (envOfC (Str.ofString "law") lawScope L fa cd)) (execs (lawRest 19) (envOfC (Str.ofString "law") lawScope L fa cd)) Q (fun e s' => wpAny (model PySem.Challenge.rw_kq0023_01.row.prog w) (callerA.deeper (envOfC (Str.ofString "law") lawScope L fa cd)) (leaving (envOfC (Str.ofString "law") lawScope L fa cd) e) (fun _ s'' => R1 e s'') (fun e' s'' => R2 e' s'') s') ⟨h', s.gens, s.drawn, tk, s.os⟩)
    (hL : ∀ h' tk ad b1 b3 u1 u2 u3 u4, (∃ u ∈ lev, u ≠ 0) → Fr h₀ L h' (fun z => if z = Str.ofString "due" then some (.ref ad) else if z = Str.ofString "y" then some (.ref ay) else if z = Str.ofString "flat" then some (.ref af) else if z = Str.ofString "level" then some (.ref aL) else m z) → News h₀ L h' [(ad, listOf #[.bool true, .bool true, .float b1 u1, .float 0 u2, .float b3 u3, .float 0 u4] 0), (ay, listOf (List.toArray zy) cy), (af, listOf #[.str (Str.ofString "x is constant") tf] 0), (aL, listOf (List.toArray zl) c), (179, tabObj ps), (L + 1 + 1 + 1, oB), (L + 1 + 1, oA), (L + 1, oS)] → Mine.Ex b1 (a * P1) → Mine.Ex b3 (a * P1) → TokOk u1 → TokOk u2 → TokOk u3 → TokOk u4 → wpAny (model PySem.Challenge.rw_kq0023_01.row.prog w) (callerA.deeper (envOfC (Str.ofString "law") lawScope L fa cd)) (execs (lawRest 19) (envOfC (Str.ofString "law") lawScope L fa cd)) Q (fun e s' => wpAny (model PySem.Challenge.rw_kq0023_01.row.prog w) (callerA.deeper (envOfC (Str.ofString "law") lawScope L fa cd)) (leaving (envOfC (Str.ofString "law") lawScope L fa cd) e) (fun _ s'' => R1 e s'') (fun e' s'' => R2 e' s'') s') ⟨h', s.gens, s.drawn, tk, s.os⟩) :
    (Mine.hd.heap_39 w.params).In h₀ → wpAny (model PySem.Challenge.rw_kq0023_01.row.prog w) (callerA.deeper (envOfC (Str.ofString "law") lawScope L fa cd)) (execs (lawRest 18) (envOfC (Str.ofString "law") lawScope L fa cd)) Q (fun e s' => wpAny (model PySem.Challenge.rw_kq0023_01.row.prog w) (callerA.deeper (envOfC (Str.ofString "law") lawScope L fa cd)) (leaving (envOfC (Str.ofString "law") lawScope L fa cd) e) (fun _ s'' => R1 e s'') (fun e' s'' => R2 e' s'') s') s := by
  k_fill
  intro X
  dsimp only [lawRest, lawScope, lawFn, fnScope, fnBody, PySem.Challenge.pw_kq0023_01, List.getLastD, List.getLast, List.drop]
  k_steps
  all_goals (try k_data)
  all_goals (unfold StopK; (rename News _ _ _ _ => NN); (rename Fr _ _ _ _ => FF); (rename ∀ (a : Int), a ∈ lev → a ≤ _ => hmax); (rename ∀ (a : Int), a ∈ lev → _ ≤ a => hmin))
  · refine hF _ _ (fun u hu => ?_) FF NN
    have h1 := hmax u hu
    have h2 := hmin u hu
    omega
  · rename (_ : Int) ≠ _ => hne
    exact hL _ _ _ _ _ _ _ _ _ ⟨_, by assumption, hne⟩ FF NN (by assumption) (by assumption) (by assumption) (.pos (Nat.succ_pos _)) (by assumption) (.pos (Nat.succ_pos _))
  · rename (_ : Int) ≠ _ => hne
    exact hL _ _ _ _ _ _ _ _ _ (ex_ne hne (by assumption) (by assumption)) FF NN (by assumption) (by assumption) (by assumption) (.pos (Nat.succ_pos _)) (by assumption) (.pos (Nat.succ_pos _))
end Mine
end

section
open PySem PySem.W PySem.Calls PyProof.Rows
set_option maxRecDepth 100000
set_option maxHeartbeats 1000000
namespace Mine
theorem zz_A10f : True := by
  w_top off
  k_with_none
  trivial
/-- what is summed of level and y / 8 -/
structure SumL (zl : List Value) (ys : List Int) (Q3 S : Int) : Prop where
  is : ∀ {zs : List Value}, RelI (FlEl (mulF Q3)) ys zs → SumIs zl zs S
local macro_rules | `(tactic| k_ne) => `(tactic| ((show @Ne Nat _ 179); (rename News _ _ _ _ => nU); first | exact ne_data (P := 179) nU (by k_mem) (by k_mem) (by intro e; cases e) | exact ne_cls (P := 179) nU (by k_mem) (by k_mem) (by assumption) | exact ne_cell (P := 179) nU (by k_mem) (by k_mem) (by assumption)))
theorem zz_A10f_30 : True := by
  k_with "my eval ListComp" =>
    (k_here; (with_reducible show wpAny _ _ (eval (Expr.ListComp (Expr.BinOp (Expr.Name _ _) Operator.Div _ _) _ _ _) _) _ _ _); k_dflt (refine LCg.ListComp_U (F₀ := by k_asm) (by with_unfolding_all rfl) (by decide) (by rfl) (by decide) (by rfl) ?_))
  k_with "my CompSrc" =>
    (k_here; k_dflt ((show LCg.CompSrc _ _ _ _ _ _ _ (Expr.BinOp (Expr.Name _ _) Operator.Div _ _) _ _ _ _ _ _); (refine' src_d ?zz128hh ?zz128F ?zz128N ?zz128hm ?zz128hl ?zz128hq ?zz128h2 (fun kzz128' tzz128' Izz128' oIzz128' Czz128' oCzz128' Dzz128' mzz128' yszz128' hzz128' tkzz128' Ezz128' hkzz128' hCzz128' hxzz128' Fzz128' Nzz128' offzz128' nezz128' => ?_) (fun gzz128' yszz128' hlzz128' hl2zz128' hIzz128' => ?_)); (case zz128hh => rfl); (case zz128F => k_asm); (case zz128N => k_asm); (case zz128hm => k_mem); (case zz128hl => assumption); (case zz128hq => assumption); (case zz128h2 => omega); (all_goals (try (simp only [LCg.Off3, and_true] at offzz128')))))
  k_with "my binaryOp Div int int" =>
    (k_here; k_dflt ((refine' div_q ?zz129D ?zz129h ?zz129b ?_; (case zz129D => assumption); (case zz129h => rfl); (case zz129b => decide)); intro rzz129' tzz129' qzz129'))
  k_with "my CompEnd" =>
    (refine' compEnd_el ?zz130F ?zz130N ?zz130sub ?zz130off ?zz130S ?zz130r; (case zz130r => exact FlEl.mk ⟨_, _, rfl, by assumption⟩); (case zz130F => assumption); (case zz130N => assumption); (case zz130sub => kcf_all); (case zz130off => first | assumption | (simp only [LCg.Off3, and_true]; done) | (simp only [LCg.Off3, and_true]; assumption)); (case zz130S => first | exact trivial | exact rfl | lcg_src | assumption | exact Or.inr ⟨_, by k_mem, rfl, _, rfl⟩))
  k_with "my CompEl" =>
    exact ⟨rfl, FlEl.mk ⟨_, _, rfl, by assumption⟩⟩
  k_with "my call ref cons" =>
    (k_here; (with_reducible show wpAny _ _ (call (Value.ref 189) _ _) _ _ _); k_dflt (refine' l1_flat ?zz132B ?zz132F ?zz132N ?zz132T ?zz132hk ?zz132hd ?zz132hu ?zz132hx ?zz132hy ?zz132hxl ?zz132hyl ?zz132XB ?zz132TB ?zz132hlen ?zz132hn ?zz132hxy ?zz132hxx ?_ ?zz132X; (case zz132X => k_asm); (case zz132B => assumption); (case zz132F => k_asm); (case zz132N => k_asm); (case zz132T => assumption); (case zz132hk => rfl); (case zz132hd => ktr_room); (case zz132hu => ktr_units); (case zz132hx => k_mem); (case zz132hy => k_mem); (case zz132XB => assumption); (case zz132TB => assumption); (case zz132hxl => omega); (case zz132hyl => omega); (case zz132hlen => omega); (case zz132hn => omega); (case zz132hxy => exact SumL.is (by assumption) (by assumption)); (case zz132hxx => assumption); k_whole; intro hzz132' tkzz132' azz132' czz132' tzz132' Fzz132' Nzz132'))
  trivial
theorem a10_flat {w : World} {fa : Addr} {cd : Value} {h₀ : Heap} {mean : ExcName → Option Value} {mg mb : Str → Option Value} {s : Shared} {Q : Flow → Shared → Prop} {R1 R2 : Value → Shared → Prop} {L aL ay af : Addr} {m : Str → Option Value} {zl zy : List Value} {lev ys : List Int} {n c cy : Nat} {oA oB oS : Obj} {ps : Array Value} {tf : Tok}
    (B : Below callerA h₀ [] h₀) (F : Fr h₀ L s.heap (fun z => if z = Str.ofString "due" then some (.ref af) else if z = Str.ofString "y" then some (.ref ay) else if z = Str.ofString "flat" then some (.ref af) else if z = Str.ofString "level" then some (.ref aL) else m z)) (N : News h₀ L s.heap [(ay, listOf (List.toArray zy) cy), (af, listOf #[.str (Str.ofString "x is constant") tf] 0), (aL, listOf (List.toArray zl) c), (179, tabObj ps), (L + 1 + 1 + 1, oB), (L + 1 + 1, oA), (L + 1, oS)])
    (T : Top Mine.vw (looseW Mine.vw [Str.ofString "_tuplegetter", Str.ofString "LinearRegression", Str.ofString "linear_regression"]) mean mg mb h₀)
    (hy : IntsAre zy ys) (lz : zl.length = n) (ly : zy.length = n) (h2 : 2 ≤ n) (h40 : n ≤ 40) {Q3 Sxy : Int} (qy : AllD 8 Q3 ys) (hxy : SumL zl ys Q3 Sxy) (hxx : SumIs zl zl 0)
    (hret : ∀ h' tk m', Fr h₀ L h' m' → h'.get? 179 = some (tabObj ps) → Q (.ret (.bool true)) ⟨h', s.gens, s.drawn, tk, s.os⟩) :
    (Mine.hd.heap_39 w.params).In h₀ → wpAny (model PySem.Challenge.rw_kq0023_01.row.prog w) (callerA.deeper (envOfC (Str.ofString "law") lawScope L fa cd)) (execs (lawRest 19) (envOfC (Str.ofString "law") lawScope L fa cd)) Q (fun e s' => wpAny (model PySem.Challenge.rw_kq0023_01.row.prog w) (callerA.deeper (envOfC (Str.ofString "law") lawScope L fa cd)) (leaving (envOfC (Str.ofString "law") lawScope L fa cd) e) (fun _ s'' => R1 e s'') (fun e' s'' => R2 e' s'') s') s := by
  k_fill
  intro X
  dsimp only [lawRest, lawScope, lawFn, fnScope, fnBody, PySem.Challenge.pw_kq0023_01, List.getLastD, List.getLast, List.drop]
  k_steps
  all_goals (try k_data)
  rename News _ _ _ _ => NN
  rename Fr _ _ _ _ => FF
  exact hret _ _ _ FF (NN (179, tabObj ps) (by k_mem)).1
end Mine
end

section
open PySem PySem.W PySem.Calls PyProof.Rows
set_option maxRecDepth 100000
set_option maxHeartbeats 1000000
namespace Mine
theorem zz_A10l : True := by
  w_top off
  k_with_none
  trivial
local macro_rules | `(tactic| k_ne) => `(tactic| ((show @Ne Nat _ 179); (rename News _ _ _ _ => nU); first | exact ne_data (P := 179) nU (by k_mem) (by k_mem) (by intro e; cases e) | exact ne_cls (P := 179) nU (by k_mem) (by k_mem) (by assumption) | exact ne_cell (P := 179) nU (by k_mem) (by k_mem) (by assumption)))
theorem zz_A10l_31 : True := by
  k_with "my eval ListComp" =>
    (k_here; (with_reducible show wpAny _ _ (eval (Expr.ListComp (Expr.BinOp (Expr.Name _ _) Operator.Div _ _) _ _ _) _) _ _ _); k_dflt (refine LCg.ListComp_U (F₀ := by k_asm) (by with_unfolding_all rfl) (by decide) (by rfl) (by decide) (by rfl) ?_))
  k_with "my CompSrc" =>
    (k_here; k_dflt ((show LCg.CompSrc _ _ _ _ _ _ _ (Expr.BinOp (Expr.Name _ _) Operator.Div _ _) _ _ _ _ _ _); (refine' src_d ?zz134hh ?zz134F ?zz134N ?zz134hm ?zz134hl ?zz134hq ?zz134h2 (fun kzz134' tzz134' Izz134' oIzz134' Czz134' oCzz134' Dzz134' mzz134' yszz134' hzz134' tkzz134' Ezz134' hkzz134' hCzz134' hxzz134' Fzz134' Nzz134' offzz134' nezz134' => ?_) (fun gzz134' yszz134' hlzz134' hl2zz134' hIzz134' => ?_)); (case zz134hh => rfl); (case zz134F => k_asm); (case zz134N => k_asm); (case zz134hm => k_mem); (case zz134hl => assumption); (case zz134hq => assumption); (case zz134h2 => omega); (all_goals (try (simp only [LCg.Off3, and_true] at offzz134')))))
  k_with "my binaryOp Div int int" =>
    (k_here; k_dflt ((refine' div_q ?zz135D ?zz135h ?zz135b ?_; (case zz135D => assumption); (case zz135h => rfl); (case zz135b => decide)); intro rzz135' tzz135' qzz135'))
  k_with "my CompEnd" =>
    (refine' compEnd_el ?zz136F ?zz136N ?zz136sub ?zz136off ?zz136S ?zz136r; (case zz136r => exact FlEl.mk ⟨_, _, rfl, by assumption⟩); (case zz136F => assumption); (case zz136N => assumption); (case zz136sub => kcf_all); (case zz136off => first | assumption | (simp only [LCg.Off3, and_true]; done) | (simp only [LCg.Off3, and_true]; assumption)); (case zz136S => first | exact trivial | exact rfl | lcg_src | assumption | exact Or.inr ⟨_, by k_mem, rfl, _, rfl⟩))
  k_with "my CompEl" =>
    exact ⟨rfl, FlEl.mk ⟨_, _, rfl, by assumption⟩⟩
  k_with "my call ref cons" =>
    (k_here; (with_reducible show wpAny _ _ (call (Value.ref 189) _ _) _ _ _); k_dflt (refine' l1_t ?zz138B ?zz138F ?zz138N ?zz138T ?zz138hk ?zz138hd ?zz138hu ?zz138hx ?zz138hy ?zz138hxl ?zz138hyl ?zz138XB ?zz138TB ?zz138hlen ?zz138hn ?zz138hxy ?zz138hxx ?zz138hne ?_ ?zz138X; (case zz138X => k_asm); (case zz138B => assumption); (case zz138F => k_asm); (case zz138N => k_asm); (case zz138T => assumption); (case zz138hk => rfl); (case zz138hd => ktr_room); (case zz138hu => ktr_units); (case zz138hx => k_mem); (case zz138hy => k_mem); (case zz138XB => assumption); (case zz138TB => assumption); (case zz138hxl => omega); (case zz138hyl => omega); (case zz138hlen => omega); (case zz138hn => omega); (case zz138hxy => exact SumL.is (by assumption) (by assumption)); (case zz138hxx => assumption); (case zz138hne => assumption); k_whole; intro hzz138' tkzz138' azz138' czz138' r1zz138' t1zz138' t2zz138' Fzz138' Nzz138' q1zz138' k1zz138' k2zz138'))
  k_with "my compareOp Eq ref ref" =>
    (k_here; k_dflt (refine' eq_six ?zz139N ?zz139u ?zz139a ?zz139b ?zz139nb ?zz139S ?_; (case zz139N => k_asm); (case zz139a => k_mem); (case zz139b => k_mem); (case zz139u => first | ktr_units | decide); (case zz139nb => exact NoneBooked.keeps (by assumption) (Fr.keep (by k_asm))); (case zz139S => exact ⟨SlopeIs.is (by assumption) _ (by assumption), ex_lit0, by assumption, ex_lit0, by assumption, ex_lit0, by assumption, by assumption, by assumption, by assumption, by assumption, by assumption⟩); k_whole))
  trivial
theorem a10_line {w : World} {fa : Addr} {cd : Value} {h₀ : Heap} {mean : ExcName → Option Value} {mg mb : Str → Option Value} {s : Shared} {Q : Flow → Shared → Prop} {R1 R2 : Value → Shared → Prop} {L aL ay af ad : Addr} {m : Str → Option Value} {zl zy : List Value} {lev ys : List Int} {n c cy : Nat} {oA oB oS : Obj} {ps : Array Value} {tf : Tok}
    {b1 b3 : UInt64} {u1 u2 u3 u4 : Tok} (B : Below callerA h₀ [] h₀) (F : Fr h₀ L s.heap (fun z => if z = Str.ofString "due" then some (.ref ad) else if z = Str.ofString "y" then some (.ref ay) else if z = Str.ofString "flat" then some (.ref af) else if z = Str.ofString "level" then some (.ref aL) else m z)) (N : News h₀ L s.heap [(ad, listOf #[.bool true, .bool true, .float b1 u1, .float 0 u2, .float b3 u3, .float 0 u4] 0), (ay, listOf (List.toArray zy) cy), (af, listOf #[.str (Str.ofString "x is constant") tf] 0), (aL, listOf (List.toArray zl) c), (179, tabObj ps), (L + 1 + 1 + 1, oB), (L + 1 + 1, oA), (L + 1, oS)])
    (T : Top Mine.vw (looseW Mine.vw [Str.ofString "_tuplegetter", Str.ofString "LinearRegression", Str.ofString "linear_regression"]) mean mg mb h₀)
    (hy : IntsAre zy ys) (lz : zl.length = n) (ly : zy.length = n) (h2 : 2 ≤ n) (h40 : n ≤ 40) {Q3 Sxy : Int} (qy : AllD 8 Q3 ys) (hxy : SumL zl ys Q3 Sxy) {Sxx V : Int} (hxx : SumIs zl zl Sxx) (hne : Sxx ≠ 0) (hsl : SlopeIs Sxy Sxx V) (nb : NoneBooked h₀) (f1 : Mine.Ex b1 V) (f3 : Mine.Ex b3 V) (y1 : TokOk u1) (y2 : TokOk u2) (y3 : TokOk u3) (y4 : TokOk u4)
    (hret : ∀ h' tk m', Fr h₀ L h' m' → h'.get? 179 = some (tabObj ps) → Q (.ret (.bool true)) ⟨h', s.gens, s.drawn, tk, s.os⟩) :
    (Mine.hd.heap_39 w.params).In h₀ → wpAny (model PySem.Challenge.rw_kq0023_01.row.prog w) (callerA.deeper (envOfC (Str.ofString "law") lawScope L fa cd)) (execs (lawRest 19) (envOfC (Str.ofString "law") lawScope L fa cd)) Q (fun e s' => wpAny (model PySem.Challenge.rw_kq0023_01.row.prog w) (callerA.deeper (envOfC (Str.ofString "law") lawScope L fa cd)) (leaving (envOfC (Str.ofString "law") lawScope L fa cd) e) (fun _ s'' => R1 e s'') (fun e' s'' => R2 e' s'') s') s := by
  k_fill
  intro X
  dsimp only [lawRest, lawScope, lawFn, fnScope, fnBody, PySem.Challenge.pw_kq0023_01, List.getLastD, List.getLast, List.drop]
  k_steps
  all_goals (try k_data)
  rename News _ _ _ _ => NN
  rename Fr _ _ _ _ => FF
  exact hret _ _ _ FF (NN (179, tabObj ps) (by k_mem)).1
end Mine
end

section
open PySem PySem.W PySem.Calls PyProof.Rows Float64
set_option maxRecDepth 100000
set_option maxHeartbeats 1000000
set_option exponentiation.threshold 3000
namespace Mine
structure Cst (P Q R T : Int) : Prop where
  fP : ∀ a : Int, a.natAbs ≤ 2 ^ 53 → Fits (a * P)
  fQ : ∀ a : Int, a.natAbs ≤ 2 ^ 53 → Fits (a * Q)
  fR : ∀ a : Int, a.natAbs ≤ 2 ^ 53 → Fits (a * R)
  fT : ∀ a : Int, a.natAbs ≤ 2 ^ 53 → Fits (a * T)
  pq : P * Q = R * T
  pp : P * P = Q * T
  p8 : T = P * 8
  q64 : T = Q * 64
  t : T = 2 ^ 1074
  q0 : Q ≠ 0
theorem cst : ∃ P Q R T : Int, Cst P Q R T := by
  refine ⟨2 ^ 1071, 2 ^ 1068, 2 ^ 1065, 2 ^ 1074, fun a h => Fits.of a 1071 h (by decide), fun a h => Fits.of a 1068 h (by decide), fun a h => Fits.of a 1065 h (by decide), fun a h => Fits.of a 1074 h (by decide), ?_, ?_, ?_, ?_, rfl, ?_⟩
  · rw [← Int.pow_add, ← Int.pow_add]
  · rw [← Int.pow_add, ← Int.pow_add]
  · rw [show (8 : Int) = 2 ^ 3 by decide, ← Int.pow_add]
  · rw [show (64 : Int) = 2 ^ 6 by decide, ← Int.pow_add]
  · exact Int.ne_of_gt (Int.pow_pos (by decide))
theorem quo_ex {r : UInt64} {a d v T : Int} (hT : T = 2 ^ 1074) (h : Quo r a d) (e : a * T = v * d) (hf : Fits v) : Mine.Ex r v := h.ex (by rw [← hT]; exact e) hf
theorem nums_rel {f : Int → Int} {us : List Int} {zs : List Value} (h : RelI (FlEl f) us zs) : NumsAre zs (us.map f) := by
  have hl := h.length
  refine ⟨by rw [List.length_map]; exact hl, fun i v hv => ?_⟩
  obtain ⟨r, t, rfl, hr⟩ := (h.at i v hv).is
  have hi : i < us.length := by
    rcases Nat.lt_or_ge i zs.length with c | c
    · omega
    · rw [List.getElem?_eq_none c] at hv; cases hv
  rw [getD_map hi]
  exact .float t hr
theorem sum_map {f : Int → Int} : ∀ {l : List Int} {a b : Int}, (∀ x ∈ l, f x = a * x + b) → (l.map f).sum = a * l.sum + b * l.length
  | [], _, _, _ => by simp
  | x :: l, a, b, h => by
    rw [List.map_cons, List.sum_cons, List.sum_cons, h x (.head _), sum_map (l := l) (a := a) (b := b) fun y hy => h y (.tail _ hy), List.length_cons]
    push_cast
    grind
theorem full_at {P Q R T : Int} (c : Cst P Q R T) {ds es : List Int} {N Bd Be : Nat} {left high : Int} {zx zy : List Value} (hx : NumsAre zx (ds.map fun d => (left + d) * P)) (hy : NumsAre zy (es.map fun e => (high + e) * Q)) (ld : ds.length = N) (le : es.length = N) (hN : N ≤ 40) (hsd : ds.sum = 0) (hse : es.sum = 0)
    (bd : BdAll Bd ds) (be : BdAll Be es) (bl : left.natAbs ≤ 2 ^ 32) (bh : high.natAbs ≤ 2 ^ 46) (hBd : Bd ≤ 2 ^ 12) (hBe : Be ≤ 2 ^ 24) :
    FullOk zx zy (ds.map fun d => (left + d) * P) (es.map fun e => (high + e) * Q) N (left * P) (high * Q) (fun i => ds.getD i 0 * es.getD i 0 * R) (fun i => ds.getD i 0 * ds.getD i 0 * Q) := by
  have gx : ∀ i, i < N → (ds.map fun d => (left + d) * P).getD i 0 = (left + ds.getD i 0) * P := fun i hi => getD_map (by omega)
  have gy : ∀ i, i < N → (es.map fun e => (high + e) * Q).getD i 0 = (high + es.getD i 0) * Q := fun i hi => getD_map (by omega)
  have b1 : ∀ i, (ds.getD i 0).natAbs ≤ 2 ^ 12 := fun i => Nat.le_trans (bd_at bd i) hBd
  have b2 : ∀ i, (es.getD i 0).natAbs ≤ 2 ^ 24 := fun i => Nat.le_trans (bd_at be i) hBe
  have mulc : ∀ {j B : Nat}, j ≤ N → j * B ≤ 40 * B := fun h => Nat.mul_le_mul_right _ (by omega)
  have pX : ∀ j, j ≤ N → ((ds.map fun d => (left + d) * P).take j).sum = preSum (fun i => left + ds.getD i 0) j * P := fun j hj => by
    rw [← preSum_list, ← ps_scale]
    exact preSum_congr fun i hi => gx i (by omega)
  have pY : ∀ j, j ≤ N → ((es.map fun e => (high + e) * Q).take j).sum = preSum (fun i => high + es.getD i 0) j * Q := fun j hj => by
    rw [← preSum_list, ← ps_scale]
    exact preSum_congr fun i hi => gy i (by omega)
  refine ⟨hx, hy, by rw [hx.1, List.length_map, ld], by rw [hy.1, List.length_map, le], fun j hj => ?_, fun j hj => ?_, ?_, ?_, c.fP _ (Nat.le_trans bl (by decide)), c.fQ _ (Nat.le_trans bh (by decide)), ?_, fun i hi => ?_, fun i hi => ?_, fun i hi => ?_, fun i hi => ?_, fun j hj => ?_, fun j hj => ?_⟩
  · rw [List.length_map, ld] at hj
    rw [pX j hj]
    exact c.fP _ (Nat.le_trans (ps_bound (B := 2 ^ 32 + 2 ^ 12) (fun i hi => by have := b1 i; omega) j hj) (Nat.le_trans (mulc hj) (by decide)))
  · rw [List.length_map, le] at hj
    rw [pY j hj]
    exact c.fQ _ (Nat.le_trans (ps_bound (B := 2 ^ 46 + 2 ^ 24) (fun i hi => by have := b2 i; omega) j hj) (Nat.le_trans (mulc hj) (by decide)))
  · rw [sum_map (a := P) (b := left * P) (fun x _ => by grind), hsd, ld]
    grind
  · rw [sum_map (a := Q) (b := high * Q) (fun x _ => by grind), hse, le]
    grind
  · rw [← c.t]; exact c.fT _ (by omega)
  · rw [gx i hi, show (left + ds.getD i 0) * P - left * P = ds.getD i 0 * P by grind]
    exact c.fP _ (Nat.le_trans (b1 i) (by decide))
  · rw [gy i hi, show (high + es.getD i 0) * Q - high * Q = es.getD i 0 * Q by grind]
    exact c.fQ _ (Nat.le_trans (b2 i) (by decide))
  · rw [gx i hi, gy i hi, show (left + ds.getD i 0) * P - left * P = ds.getD i 0 * P by grind, show (high + es.getD i 0) * Q - high * Q = es.getD i 0 * Q by grind, ← c.t]
    refine ⟨?_, c.fR _ (Nat.le_trans (mul_le (b1 i) (b2 i)) (by decide))⟩
    show ds.getD i 0 * P * (es.getD i 0 * Q) = ds.getD i 0 * es.getD i 0 * R * T
    rw [show ds.getD i 0 * P * (es.getD i 0 * Q) = ds.getD i 0 * es.getD i 0 * (P * Q) by grind, c.pq]; grind
  · rw [gx i hi, show (left + ds.getD i 0) * P - left * P = ds.getD i 0 * P by grind, ← c.t]
    refine ⟨?_, c.fQ _ (Nat.le_trans (mul_le (b1 i) (b1 i)) (by decide))⟩
    show ds.getD i 0 * P * (ds.getD i 0 * P) = ds.getD i 0 * ds.getD i 0 * Q * T
    rw [show ds.getD i 0 * P * (ds.getD i 0 * P) = ds.getD i 0 * ds.getD i 0 * (P * P) by grind, c.pp]; grind
  · rw [show (fun i => ds.getD i 0 * es.getD i 0 * R) = fun i => (ds.getD i 0 * es.getD i 0) * R from rfl, ps_scale]
    exact c.fR _ (Nat.le_trans (ps_bound (B := 2 ^ 12 * 2 ^ 24) (fun i hi => mul_le (b1 i) (b2 i)) j hj) (Nat.le_trans (mulc hj) (by decide)))
  · rw [show (fun i => ds.getD i 0 * ds.getD i 0 * Q) = fun i => (ds.getD i 0 * ds.getD i 0) * Q from rfl, ps_scale]
    exact c.fQ _ (Nat.le_trans (ps_bound (B := 2 ^ 12 * 2 ^ 12) (fun i hi => mul_le (b1 i) (b1 i)) j hj) (Nat.le_trans (mulc hj) (by decide)))
theorem sum_intL {xs ys : List Value} {us vs : List Int} {n A B : Nat} (hx : IntsAre xs us) (hy : IntsAre ys vs) (hlu : us.length = n) (hlv : vs.length = n) (hn : 0 < n) (h63 : n ≤ 63) (hu : BdAll A us) (hv : BdAll B vs) (hA : A ≤ 2 ^ 20) (hB : B ≤ 2 ^ 20) :
    SumIs xs ys (preSum (fun i => us.getD i 0 * vs.getD i 0) n * 2 ^ 1074) := by
  intro prog w Ar E s ax ay Q hA' hl hl2 h
  have lx : xs.length = n := by rw [IntsAre.length hx, hlu]
  have ly : ys.length = n := by rw [IntsAre.length hy, hlv]
  have b1 : ∀ i, (us.getD i 0).natAbs ≤ 2 ^ 20 := fun i => Nat.le_trans (bd_at hu i) hA
  have b2 : ∀ i, (vs.getD i 0).natAbs ≤ 2 ^ 20 := fun i => Nat.le_trans (bd_at hv i) hB
  have b3 : ∀ i, (us.getD i 0 * vs.getD i 0).natAbs ≤ 2 ^ 40 := fun i => Nat.le_trans (mul_le (b1 i) (b2 i)) (by decide)
  have b4 : ∀ j, j ≤ n → (preSum (fun i => us.getD i 0 * vs.getD i 0) j).natAbs ≤ 63 * 2 ^ 40 := fun j hj => Nat.le_trans (ps_bound (fun i _ => b3 i) j hj) (Nat.mul_le_mul_right _ (by omega))
  refine sumprod_int_lists hA' hl hl2 hx hy (by rw [lx, ly]) (by omega) (fun j hj => ?_) fun h' tk t hk ht => ?_
  · have h1 := b1 j
    have h2 := b2 j
    have h3 := b3 j
    have h4 := b4 (j + 1) (by omega)
    generalize us.getD j 0 * vs.getD j 0 = z at h3 ⊢
    generalize preSum (fun i => us.getD i 0 * vs.getD i 0) (j + 1) = y at h4 ⊢
    unfold InLong
    refine ⟨?_, ?_, ?_, ?_⟩ <;> omega
  · rw [lx]
    exact h h' tk _ hk ht (.int t rfl (Fits.of _ 1074 (Nat.le_trans (b4 n (Nat.le_refl _)) (by decide)) (by decide)))
theorem tny_of {k : Int} (h : k.natAbs ≤ 2 ^ 53) : Tny k := ⟨Nat.lt_of_le_of_lt h (Nat.pow_lt_pow_right (by decide) (by decide))⟩
theorem levF_bd (k : Int) : (levF k).natAbs ≤ 255 := by
  have e : (2 : Int) ^ Int.toNat 8 = 256 := by decide
  unfold levF
  rw [e]
  have h1 := Int.fmod_nonneg_of_pos k (by decide : (0 : Int) < 256)
  have h2 := Int.fmod_lt_of_pos k (by decide : (0 : Int) < 256)
  by_cases c : k < 0
  · rw [if_pos c]
    split <;> omega
  · rw [if_neg c]
    split <;> omega
theorem levL_eq (scr : List Int) : levL scr = updS (scr.map levF) 0 ((scr.map levF).sum.fmod scr.length) := rfl
theorem levL_len (scr : List Int) : (levL scr).length = scr.length := by rw [levL_eq, updS_eq, upd_len, List.length_map]
theorem lev_facts {scr : List Int} {n : Nat} (hn : scr.length = n) (h2 : 2 ≤ n) (h40 : n ≤ 40) : (∀ j, ((levL scr).getD j 0).natAbs ≤ 300) ∧ ∃ μ : Int, (levL scr).sum = μ * n := by
  have hl : (scr.map levF).length = n := by rw [List.length_map, hn]
  have r0 := Int.fmod_nonneg_of_pos (scr.map levF).sum (b := (n : Int)) (by omega)
  have r1 := Int.fmod_lt_of_pos (scr.map levF).sum (b := (n : Int)) (by omega)
  have bf : ∀ j, ((scr.map levF).getD j 0).natAbs ≤ 255 := fun j => bd_at (bd_map fun x _ => levF_bd x) j
  refine ⟨fun j => ?_, (scr.map levF).sum.fdiv n, ?_⟩
  · rw [levL_eq, updS_eq, upd_at (by omega), hn]
    have := bf j
    split <;> omega
  · rw [sum_ps (n := n) (by rw [levL_len, hn]), levL_eq, updS_eq, upd_sum hl (by omega), ← sum_ps hl, hn]
    have := Int.fmod_add_mul_fdiv (scr.map levF).sum n
    generalize (scr.map levF).sum.fmod n = r at *
    generalize (scr.map levF).sum.fdiv n = q at *
    rw [Int.mul_comm q]
    omega
theorem a_bd (scr : List Int) : (aOf scr).natAbs ≤ 2 ^ 10 := by
  have e : (2 : Int) ^ Int.toNat 11 = 2048 := by decide
  have e2 : (2 : Int) ^ Int.toNat 10 = 1024 := by decide
  unfold aOf
  rw [e, e2]
  have h1 := Int.fmod_nonneg_of_pos (scr.getD 0 0) (by decide : (0 : Int) < 2048)
  have h2 := Int.fmod_lt_of_pos (scr.getD 0 0) (by decide : (0 : Int) < 2048)
  omega
theorem b_bd (scr : List Int) : (bOf scr).natAbs ≤ 2 ^ 30 := by
  have e : (2 : Int) ^ Int.toNat 31 = 2147483648 := by decide
  have e2 : (2 : Int) ^ Int.toNat 30 = 1073741824 := by decide
  unfold bOf
  rw [e, e2]
  generalize scr.getD (-1 + (scr.length : Int)).toNat 0 = k
  have h1 := Int.fmod_nonneg_of_pos k (by decide : (0 : Int) < 2147483648)
  have h2 := Int.fmod_lt_of_pos k (by decide : (0 : Int) < 2147483648)
  omega
def cOf (scr : List Int) : Int := ((scr.getD 0 0).fdiv (2 ^ Int.toNat 11)).fmod (2 ^ Int.toNat 30)
theorem c_bd (scr : List Int) : (cOf scr).natAbs ≤ 2 ^ 30 := by
  have e2 : (2 : Int) ^ Int.toNat 30 = 1073741824 := by decide
  unfold cOf
  rw [e2]
  generalize (scr.getD 0 0).fdiv (2 ^ Int.toNat 11) = k
  have h1 := Int.fmod_nonneg_of_pos k (by decide : (0 : Int) < 1073741824)
  have h2 := Int.fmod_lt_of_pos k (by decide : (0 : Int) < 1073741824)
  omega
theorem xL_eq (scr lev : List Int) : xL scr lev = lev.map fun k => k + cOf scr := rfl
theorem tm_bd (scr : List Int) : BdAll 51 (tmL scr) := bd_us scr
theorem tm_small (scr : List Int) : SmAll (tmL scr) := map_us_small scr
theorem small_bd {B : Nat} {us : List Int} (h : ∀ j, (us.getD j 0).natAbs ≤ B) (hB : B < 2 ^ 40) : SmAll us := ⟨fun k hk => by
  obtain ⟨i, hi, e⟩ := List.mem_iff_getElem.mp hk
  have := h i
  rw [List.getD_eq_getElem?_getD, List.getElem?_eq_getElem hi, Option.getD_some, e] at this
  exact Nat.lt_of_le_of_lt this hB⟩
theorem stepA_bd {scr : List Int} {n : Nat} (hn : scr.length = n) (h2 : 2 ≤ n) (h40 : n ≤ 40) : ∀ i j k, j < n → k < n → ((tmL scr).getD i 0 * ((xL scr (levL scr)).getD j 0 - (xL scr (levL scr)).getD k 0)).natAbs ≤ 51 * 600 := fun i j k hj hk => by
  obtain ⟨hb, _⟩ := lev_facts hn h2 h40
  have ll := levL_len scr
  rw [xL_eq, getD_map (by omega), getD_map (by omega)]
  have b1 := hb j
  have b2 := hb k
  exact mul_le (bd_at (tm_bd scr) i) (by omega)
theorem stepB_bd {scr : List Int} {n : Nat} (hn : scr.length = n) (h2 : 2 ≤ n) (h40 : n ≤ 40) : ∀ i j, ((tmL scr).getD i 0 * (levL scr).getD j 0).natAbs ≤ 51 * 300 := fun i j => mul_le (bd_at (tm_bd scr) i) ((lev_facts hn h2 h40).1 j)
theorem ps_cross (u y : Nat → Int) (l h : Int) : ∀ n, preSum (fun i => (u i - l) * (y i - h)) n = preSum (fun i => u i * y i) n - h * preSum u n - l * preSum y n + l * h * n
  | 0 => by simp [preSum]
  | n + 1 => by
    show preSum (fun i => (u i - l) * (y i - h)) n + (u n - l) * (y n - h) = preSum (fun i => u i * y i) n + u n * y n - h * (preSum u n + u n) - l * (preSum y n + y n) + l * h * ((n + 1 : Nat) : Int)
    rw [ps_cross u y l h n]
    push_cast
    grind
theorem ps_line (u : Nat → Int) (a b : Int) : ∀ n, preSum (fun i => u i * (a * u i + b)) n = a * preSum (fun i => u i * u i) n + b * preSum u n
  | 0 => by simp [preSum]
  | n + 1 => by
    show preSum (fun i => u i * (a * u i + b)) n + u n * (a * u n + b) = a * (preSum (fun i => u i * u i) n + u n * u n) + b * (preSum u n + u n)
    rw [ps_line u a b n]
    grind
theorem mean_bd {s μ : Int} {n B : Nat} (h0 : 0 < n) (e : s = μ * n) (hs : s.natAbs ≤ B * n) : μ.natAbs ≤ B := by
  rw [e, Int.natAbs_mul, Int.natAbs_natCast] at hs
  exact Nat.le_of_mul_le_mul_right hs h0
theorem div_ok {P Q R T a : Int} (c : Cst P Q R T) (ha : a.natAbs ≤ 2 ^ 53) : DivP a 8 P := ⟨tny_of ha, fun r hq => quo_ex c.t hq (by rw [c.p8]; grind) (c.fP _ ha)⟩
theorem div_ok64 {P Q R T a : Int} (c : Cst P Q R T) (ha : a.natAbs ≤ 2 ^ 53) : DivP a 64 Q := ⟨tny_of ha, fun r hq => quo_ex c.t hq (by rw [c.q64]; grind) (c.fQ _ ha)⟩
theorem all_of {B : Nat} {us : List Int} {n : Nat} (hl : us.length = n) (h : ∀ j, j < n → (us.getD j 0).natAbs ≤ B) : ∀ k ∈ us, k.natAbs ≤ B := fun k hk => by
  obtain ⟨i, hi, e⟩ := List.mem_iff_getElem.mp hk
  have := h i (by omega)
  rw [List.getD_eq_getElem?_getD, List.getElem?_eq_getElem hi, Option.getD_some, e] at this
  exact this
theorem mem_at {us : List Int} {n i : Nat} (hl : us.length = n) (hi : i < n) : us.getD i 0 ∈ us := by
  rw [List.getD_eq_getElem?_getD, List.getElem?_eq_getElem (by omega)]
  exact List.getElem_mem _
theorem at_mem {us : List Int} {n : Nat} (hl : us.length = n) {u : Int} (h : u ∈ us) : ∃ i, i < n ∧ us.getD i 0 = u := by
  obtain ⟨i, hi, e⟩ := List.mem_iff_getElem.mp h
  exact ⟨i, by omega, by rw [List.getD_eq_getElem?_getD, List.getElem?_eq_getElem hi, Option.getD_some, e]⟩
theorem plain1a {scr ys : List Int} {n : Nat} (hn : scr.length = n) (h2 : 2 ≤ n) (h40 : n ≤ 40) (hI : InvA (xL scr (levL scr)) (yL (aOf scr) (bOf scr) (xL scr (levL scr))) n (51 * 600) (n - 2) ys) :
    ∃ (P Q : Int) (V W : List Int) (Xb Yb M : Int) (pr qr : Nat → Int), DivP (aOf scr) 8 P ∧ DivP (bOf scr) 64 Q ∧ AllD 8 P (xL scr (levL scr)) ∧ AllD 64 Q ys ∧ FullFrom (xL scr (levL scr)) ys P Q V W n Xb Yb pr qr ∧
      ((∀ u ∈ xL scr (levL scr), ∀ v ∈ xL scr (levL scr), u = v) → FlatEnd n qr) ∧ ((∃ u ∈ xL scr (levL scr), ∃ v ∈ xL scr (levL scr), u ≠ v) → FullEnd n Xb Yb pr qr (aOf scr * P) M) ∧ Yb - M = bOf scr * Q := by
  obtain ⟨P, Q, R, T, c⟩ := cst
  obtain ⟨hb, μ, hμ⟩ := lev_facts hn h2 h40
  have ba := a_bd scr
  have bb := b_bd scr
  have bc := c_bd scr
  have ll : (levL scr).length = n := by rw [levL_len, hn]
  have eu := xL_eq scr (levL scr)
  generalize levL scr = lev at *
  generalize aOf scr = a at *
  generalize bOf scr = b at *
  generalize cOf scr = cc at *
  generalize xL scr lev = us at *
  have lu : us.length = n := by rw [eu, List.length_map, ll]
  have ug : ∀ i, i < n → us.getD i 0 = lev.getD i 0 + cc := fun i hi => by rw [eu, getD_map (by omega)]
  have yg : ∀ i, i < n → (yL a b us).getD i 0 = a * us.getD i 0 + b := fun i hi => getD_map (by omega)
  have ly := hI.len
  have lsum : lev.sum = preSum (fun i => lev.getD i 0) n := sum_ps ll
  have bμ : μ.natAbs ≤ 300 := mean_bd (by omega) hμ (by rw [lsum, Nat.mul_comm]; exact ps_bound (fun i _ => hb i) n (Nat.le_refl _))
  -- the middle of x
  obtain ⟨left, hleft⟩ : ∃ left, left = μ + cc := ⟨_, rfl⟩
  obtain ⟨high, hhigh⟩ : ∃ high, high = a * left + b := ⟨_, rfl⟩
  have Su : preSum (fun i => us.getD i 0) n = left * n := by
    have : preSum (fun i => us.getD i 0) n = preSum (fun i => 1 * lev.getD i 0 + 0 * lev.getD i 0 + cc) n := preSum_congr fun i hi => by rw [ug i hi]; omega
    rw [this, ps_lin (fun i => lev.getD i 0) (fun i => lev.getD i 0) 1 0 cc n, ← lsum, hμ, hleft]
    grind
  have Sy : preSum (fun i => ys.getD i 0) n = high * n := by
    have : preSum (fun j => (yL a b us).getD j 0) n = preSum (fun i => a * us.getD i 0 + 0 * us.getD i 0 + b) n := preSum_congr fun i hi => by rw [yg i hi]; omega
    rw [hI.sum, this, ps_lin (fun i => us.getD i 0) (fun i => us.getD i 0) a 0 b n, Su, hhigh]
    grind
  have Dy : preSum (fun i => us.getD i 0 * ys.getD i 0) n = a * preSum (fun i => us.getD i 0 * us.getD i 0) n + b * (left * n) := by
    have : preSum (fun j => us.getD j 0 * (yL a b us).getD j 0) n = preSum (fun i => us.getD i 0 * (a * us.getD i 0 + b)) n := preSum_congr fun i hi => by rw [yg i hi]
    rw [hI.dot, this, ps_line, Su]
  have bl : left.natAbs ≤ 2 ^ 31 := by rw [hleft]; omega
  have bal : (a * left).natAbs ≤ 2 ^ 10 * 2 ^ 31 := mul_le ba bl
  have bh : high.natAbs ≤ 2 ^ 43 := by rw [hhigh]; omega
  have du : ∀ i, i < n → (us.getD i 0 - left).natAbs ≤ 600 := fun i hi => by
    have := hb i
    rw [ug i hi, hleft]; omega
  have dy : ∀ i, i < n → (ys.getD i 0 - high).natAbs ≤ 2 ^ 22 := fun i hi => by
    have h1 := hI.bd i
    have h3 : (a * (us.getD i 0 - left)).natAbs ≤ 2 ^ 10 * 600 := mul_le ba (du i hi)
    have h4 : 51 * 600 * (n - 2) ≤ 51 * 600 * 38 := Nat.mul_le_mul_left _ (by omega)
    rw [yg i hi] at h1
    have e : ys.getD i 0 - high = (ys.getD i 0 - (a * us.getD i 0 + b)) + a * (us.getD i 0 - left) := by rw [hhigh]; grind
    rw [e]
    generalize ys.getD i 0 - (a * us.getD i 0 + b) = p at *
    generalize a * (us.getD i 0 - left) = q at *
    omega
  have ldu : (us.map fun u => u - left).length = n := by rw [List.length_map, lu]
  have lde : (ys.map fun y => y - high).length = n := by rw [List.length_map, ly]
  have gdu : ∀ i, i < n → (us.map fun u => u - left).getD i 0 = us.getD i 0 - left := fun i hi => getD_map (by omega)
  have gde : ∀ i, i < n → (ys.map fun y => y - high).getD i 0 = ys.getD i 0 - high := fun i hi => getD_map (by omega)
  have mu : (us.map fun u => u - left).map (fun d => (left + d) * P) = us.map (mulF P) := by
    rw [List.map_map]
    exact List.map_congr_left fun u _ => by show (left + (u - left)) * P = u * P; grind
  have my : (ys.map fun y => y - high).map (fun d => (high + d) * Q) = ys.map (mulF Q) := by
    rw [List.map_map]
    exact List.map_congr_left fun u _ => by show (high + (u - high)) * Q = u * Q; grind
  have z1 : (us.map fun u => u - left).sum = 0 := by
    rw [sum_map (a := 1) (b := -left) (fun x _ => by omega), sum_ps lu, Su, lu]; grind
  have z2 : (ys.map fun y => y - high).sum = 0 := by
    rw [sum_map (a := 1) (b := -high) (fun x _ => by omega), sum_ps ly, Sy, ly]; grind
  have qq : preSum (fun i => (us.map fun u => u - left).getD i 0 * (us.map fun u => u - left).getD i 0) n = preSum (fun i => (us.getD i 0 - left) * (us.getD i 0 - left)) n := preSum_congr fun i hi => by rw [gdu i hi]
  have pp : preSum (fun i => (us.map fun u => u - left).getD i 0 * (ys.map fun y => y - high).getD i 0) n = preSum (fun i => (us.getD i 0 - left) * (ys.getD i 0 - high)) n := preSum_congr fun i hi => by rw [gdu i hi, gde i hi]
  have key : preSum (fun i => (us.getD i 0 - left) * (ys.getD i 0 - high)) n = a * preSum (fun i => (us.getD i 0 - left) * (us.getD i 0 - left)) n := by
    rw [ps_cross, ps_cross, Dy, Su, Sy, hhigh]
    generalize preSum (fun i => us.getD i 0 * us.getD i 0) n = A
    grind
  have bus : ∀ k ∈ us, k.natAbs ≤ 2 ^ 32 := all_of lu fun j hj => by have := du j hj; omega
  have bys : ∀ k ∈ ys, k.natAbs ≤ 2 ^ 44 := all_of ly fun j hj => by have := dy j hj; omega
  refine ⟨P, Q, _, _, left * P, high * Q, a * left * Q, fun i => (us.map fun u => u - left).getD i 0 * (ys.map fun y => y - high).getD i 0 * R, fun i => (us.map fun u => u - left).getD i 0 * (us.map fun u => u - left).getD i 0 * Q, div_ok c (by omega), div_ok64 c (by omega), ⟨fun k hk => div_ok c (Nat.le_trans (bus k hk) (by decide))⟩, ⟨fun k hk => div_ok64 c (Nat.le_trans (bys k hk) (by decide))⟩, ⟨fun {zx zy} r1 r2 => full_at c (ds := us.map fun u => u - left) (es := ys.map fun y => y - high) (Bd := 600) (Be := 2 ^ 22) (by rw [mu]; exact nums_rel r1) (by rw [my]; exact nums_rel r2) ldu lde h40 z1 z2 ⟨all_of ldu fun j hj => by rw [gdu j hj]; exact du j hj⟩ ⟨all_of lde fun j hj => by rw [gde j hj]; exact dy j hj⟩ (by omega) (by omega) (by decide) (by decide)⟩, fun hflat => ⟨?_⟩, fun hline => ?_, by rw [hhigh]; grind⟩
  · rw [ps_scale (fun i => (us.map fun u => u - left).getD i 0 * (us.map fun u => u - left).getD i 0), qq]
    have h0 : ∀ i, i < n → us.getD i 0 = us.getD 0 0 := fun i hi => hflat _ (mem_at lu hi) _ (mem_at lu (by omega))
    have e : us.getD 0 0 * n = left * n := by
      rw [← Su]
      have : preSum (fun i => us.getD i 0) n = preSum (fun i => 0 * us.getD i 0 + 0 * us.getD i 0 + us.getD 0 0) n := preSum_congr fun i hi => by rw [h0 i hi]; omega
      rw [this, ps_lin (fun i => us.getD i 0) (fun i => us.getD i 0) 0 0 (us.getD 0 0) n]
      grind
    have e2 : us.getD 0 0 = left := Int.eq_of_mul_eq_mul_right (by omega) e
    have : preSum (fun i => (us.getD i 0 - left) * (us.getD i 0 - left)) n = 0 := by
      have := ps_bound (f := fun i => (us.getD i 0 - left) * (us.getD i 0 - left)) (B := 0) (n := n) (fun i hi => by rw [h0 i hi, e2, Int.sub_self]; exact Nat.le_refl _) n (Nat.le_refl _)
      exact Int.natAbs_eq_zero.mp (by omega)
    rw [this, Int.zero_mul]
  · refine ⟨?_, ?_, c.fP _ (by omega), ?_, c.fQ _ (by omega), ?_⟩
    · rw [ps_scale (fun i => (us.map fun u => u - left).getD i 0 * (us.map fun u => u - left).getD i 0), qq]
      intro z
      rcases Int.mul_eq_zero.mp z with z | z
      · obtain ⟨u, hu, v, hv, huv⟩ := hline
        have hz := (ps_sq (d := fun i => us.getD i 0 - left) (n := n)).2 z
        obtain ⟨i, hi, ei⟩ := at_mem lu hu
        obtain ⟨j, hj, ej⟩ := at_mem lu hv
        have h1 := hz i hi
        have h2 := hz j hj
        rw [← ei, ← ej] at huv
        omega
      · exact c.q0 z
    · rw [ps_scale (fun i => (us.map fun u => u - left).getD i 0 * (ys.map fun y => y - high).getD i 0), ps_scale (fun i => (us.map fun u => u - left).getD i 0 * (us.map fun u => u - left).getD i 0), qq, pp, key, ← c.t]
      generalize preSum (fun i => (us.getD i 0 - left) * (us.getD i 0 - left)) n = S
      have := c.pq
      grind
    · rw [← c.t]
      have := c.pp
      grind
    · rw [show high * Q - a * left * Q = b * Q by rw [hhigh]; grind]
      exact c.fQ _ (by omega)
theorem plain1b {scr ys : List Int} {zl : List Value} {n : Nat} (hn : scr.length = n) (h2 : 2 ≤ n) (h40 : n ≤ 40) (hz : IntsAre zl (levL scr)) (hI : InvB (levL scr) (zL (aOf scr) (levL scr)) n (51 * 300) (n - 1) ys) :
    ∃ P Sxy : Int, DivP (aOf scr) 8 P ∧ AllD 8 P ys ∧ SumL zl ys P Sxy ∧ ((∀ u ∈ levL scr, u = 0) → SumIs zl zl 0) ∧ ((∃ u ∈ levL scr, u ≠ 0) → ∃ Sxx, SumIs zl zl Sxx ∧ Sxx ≠ 0 ∧ SlopeIs Sxy Sxx (aOf scr * P)) := by
  obtain ⟨P, Q, R, T, c⟩ := cst
  obtain ⟨hb, _⟩ := lev_facts hn h2 h40
  have ba := a_bd scr
  have ll : (levL scr).length = n := by rw [levL_len, hn]
  generalize levL scr = lev at *
  generalize aOf scr = a at *
  have ly := hI.len
  have lz : zl.length = n := by rw [hz.length, ll]
  have yg : ∀ i, i < n → (zL a lev).getD i 0 = a * lev.getD i 0 := fun i hi => getD_map (by omega)
  have by0 : ∀ i, i < n → (ys.getD i 0).natAbs ≤ 2 ^ 20 := fun i hi => by
    have h1 := hI.bd i
    have h3 : (a * lev.getD i 0).natAbs ≤ 2 ^ 10 * 300 := mul_le ba (hb i)
    have h4 : 51 * 300 * (n - 1) ≤ 51 * 300 * 39 := Nat.mul_le_mul_left _ (by omega)
    rw [yg i hi] at h1
    generalize a * lev.getD i 0 = q at *
    omega
  have bys : ∀ k ∈ ys, k.natAbs ≤ 2 ^ 20 := all_of ly by0
  have blv : ∀ k ∈ lev, k.natAbs ≤ 300 := all_of ll fun j _ => hb j
  have Dy : preSum (fun i => lev.getD i 0 * ys.getD i 0) n = a * preSum (fun i => lev.getD i 0 * lev.getD i 0) n := by
    have : preSum (fun j => lev.getD j 0 * (zL a lev).getD j 0) n = preSum (fun i => (lev.getD i 0 * lev.getD i 0) * a) n := preSum_congr fun i hi => by rw [yg i hi]; grind
    rw [hI.dot, this, ps_scale, Int.mul_comm]
  have sxx := sum_intL hz hz ll ll (by omega) (by omega) ⟨blv⟩ ⟨blv⟩ (by decide) (by decide)
  refine ⟨P, preSum (fun i => lev.getD i 0 * ys.getD i 0) n * P, div_ok c (by omega), ⟨fun k hk => div_ok c (Nat.le_trans (bys k hk) (by decide))⟩, ⟨fun {zs} r => ?_⟩, fun h0 => ?_, fun h1 => ⟨_, sxx, ?_, ⟨fun r hq => quo_ex c.t hq ?_ (c.fP _ (by omega))⟩⟩⟩
  · have nx : NumsAre zl (lev.map fun k => k * T) := by
      refine ⟨by rw [List.length_map, lz, ll], fun i v hv => ?_⟩
      obtain ⟨k, t, rfl, hk⟩ := IntsAre.at hz i v hv
      have hi : i < lev.length := by
        rcases Nat.lt_or_ge i lev.length with h | h
        · exact h
        · rw [List.getElem?_eq_none h] at hk; cases hk
      have e : lev.getD i 0 = k := by rw [List.getD_eq_getElem?_getD, hk]; rfl
      rw [getD_map hi, e]
      exact .int t (by rw [c.t]) (c.fT _ (Nat.le_trans (blv k (List.mem_of_getElem? hk)) (by decide)))
    have ny := nums_rel r
    have lzs : zs.length = n := by rw [ny.1, List.length_map, ly]
    have hF : AllF zs := fun v hv => by
      obtain ⟨i, hi, e⟩ := List.mem_iff_getElem.mp hv
      obtain ⟨r', t, rfl, _⟩ := (r.at i v (by rw [List.getElem?_eq_getElem hi, e])).is
      rfl
    intro prog w A E s ax ay Q' hA hl hl2 h
    have bp : ∀ i, i < n → (lev.getD i 0 * ys.getD i 0).natAbs ≤ 300 * 2 ^ 20 := fun i hi => mul_le (hb i) (by0 i hi)
    have pe : ∀ j, preSum (fun i => lev.getD i 0 * ys.getD i 0 * P) j = preSum (fun i => lev.getD i 0 * ys.getD i 0) j * P := fun j => ps_scale _ _ _
    refine sumprod_flt_lists hA hl hl2 nx ny (by rw [lz, lzs]) (by omega) (.inr hF) (fun i => lev.getD i 0 * ys.getD i 0 * P) (fun i hi => ?_) (fun j hj => ?_) fun h' tk r' t hk ht hr => ?_
    · rw [lz] at hi
      rw [getD_map (by omega), getD_map (by omega), ← c.t]
      refine ⟨?_, c.fP _ (Nat.le_trans (bp i hi) (by decide))⟩
      show lev.getD i 0 * T * (ys.getD i 0 * P) = lev.getD i 0 * ys.getD i 0 * P * T
      grind
    · rw [lz] at hj
      rw [pe]
      exact c.fP _ (Nat.le_trans (ps_bound (n := n) (fun i hi => bp i hi) j hj) (Nat.le_trans (Nat.mul_le_mul_right _ (Nat.le_trans hj h40)) (by decide)))
    · rw [pe, lz] at hr
      exact h h' tk _ hk ht (.float t hr)
  · have z : preSum (fun i => lev.getD i 0 * lev.getD i 0) n = 0 := by
      have := ps_bound (f := fun i => lev.getD i 0 * lev.getD i 0) (B := 0) (n := n) (fun i hi => by rw [h0 _ (mem_at ll hi)]; exact Nat.le_refl _) n (Nat.le_refl _)
      exact Int.natAbs_eq_zero.mp (by omega)
    rw [z, Int.zero_mul] at sxx
    exact sxx
  · intro z
    rcases Int.mul_eq_zero.mp z with z | z
    · obtain ⟨u, hu, hne⟩ := h1
      obtain ⟨i, hi, ei⟩ := at_mem ll hu
      exact hne (by rw [← ei]; exact (ps_sq (d := fun i => lev.getD i 0) (n := n)).2 z i hi)
    · exact Int.ne_of_gt (Int.pow_pos (by decide)) z
  · rw [Dy, ← c.t]
    generalize preSum (fun i => lev.getD i 0 * lev.getD i 0) n = S
    grind
end Mine
end

section
open PySem PySem.W PySem.Calls PyProof.Rows
set_option maxRecDepth 100000
set_option maxHeartbeats 1000000
namespace Mine
theorem map_4 {m : Str → Option Value} {a b c d : Str} {va vb vc vd : Value} (ha : m a = some va) (hb : m b = some vb) (hc : m c = some vc) (hd : m d = some vd) : m = fun y => if y = a then some va else if y = b then some vb else if y = c then some vc else if y = d then some vd else m y := by
  funext y
  by_cases qa : y = a
  · rw [if_pos qa, qa, ha]
  · rw [if_neg qa]
    by_cases qb : y = b
    · rw [if_pos qb, qb, hb]
    · rw [if_neg qb]
      by_cases qc : y = c
      · rw [if_pos qc, qc, hc]
      · rw [if_neg qc]
        by_cases qd : y = d
        · rw [if_pos qd, qd, hd]
        · rw [if_neg qd]
theorem map_5 {m : Str → Option Value} {a b c d e : Str} {va vb vc vd ve : Value} (ha : m a = some va) (hb : m b = some vb) (hc : m c = some vc) (hd : m d = some vd) (he : m e = some ve) : m = fun y => if y = a then some va else if y = b then some vb else if y = c then some vc else if y = d then some vd else if y = e then some ve else m y := by
  funext y
  by_cases qa : y = a
  · rw [if_pos qa, qa, ha]
  · rw [if_neg qa]
    by_cases qb : y = b
    · rw [if_pos qb, qb, hb]
    · rw [if_neg qb]
      by_cases qc : y = c
      · rw [if_pos qc, qc, hc]
      · rw [if_neg qc]
        by_cases qd : y = d
        · rw [if_pos qd, qd, hd]
        · rw [if_neg qd]
          by_cases qe : y = e
          · rw [if_pos qe, qe, he]
          · rw [if_neg qe]
theorem map_3 {m : Str → Option Value} {a b c : Str} {va vb vc : Value} (ha : m a = some va) (hb : m b = some vb) (hc : m c = some vc) : m = fun y => if y = a then some va else if y = b then some vb else if y = c then some vc else m y := by
  funext y
  by_cases qa : y = a
  · rw [if_pos qa, qa, ha]
  · rw [if_neg qa]
    by_cases qb : y = b
    · rw [if_pos qb, qb, hb]
    · rw [if_neg qb]
      by_cases qc : y = c
      · rw [if_pos qc, qc, hc]
      · rw [if_neg qc]
theorem rest10 : lawRest 10 = lawForA :: lawRest 11 := rfl
theorem rest17 : lawRest 17 = lawForB :: lawRest 18 := rfl
theorem news_two {h₀ h : Heap} {L : Addr} {p a b : Addr × Obj} {l : List (Addr × Obj)} (N1 : News h₀ L h [p]) (N2 : News h₀ L h (a :: b :: l)) : News h₀ L h (p :: l) := fun q hq => by
  rcases List.mem_cons.mp hq with rfl | hq
  · exact N1 _ (.head _)
  · exact N2 _ (.tail _ (.tail _ hq))
theorem fin2 {w : World} {fa : Addr} {cd : Value} {h₀ : Heap} {mean : ExcName → Option Value} {mg mb : Str → Option Value} {s : Shared} {Q : Flow → Shared → Prop} {R1 R2 : Value → Shared → Prop} {L aS aL at' af : Addr} {m : Str → Option Value} {ws zl zt : List Value} {scr : List Int} {n c : Nat} {oA oB oS : Obj} {ps : Array Value} {tn tf tA : Tok}
    (B : Below callerA h₀ [] h₀) (F : Fr h₀ L s.heap m) (N : News h₀ L s.heap [(af, listOf #[.str (Str.ofString "x is constant") tf] 0), (at', LCg.lst zt), (aL, listOf (List.toArray zl) c), (aS, listOf ws.toArray 0), (179, tabObj ps), (L + 1 + 1 + 1, oB), (L + 1 + 1, oA), (L + 1, oS)])
    (T : Top Mine.vw (looseW Mine.vw [Str.ofString "_tuplegetter", Str.ofString "LinearRegression", Str.ofString "linear_regression"]) mean mg mb h₀) (e1 : m (Str.ofString "flat") = some (.ref af)) (e2 : m (Str.ofString "times") = some (.ref at')) (e3 : m (Str.ofString "level") = some (.ref aL)) (e4 : m (Str.ofString "n") = some (.int (n : Int) tn))
    (hn : scr.length = n) (h2 : 2 ≤ n) (h40 : n ≤ 40) (ht : IntsAre zt (tmL scr)) (hz : IntsAre zl (levL scr)) (dA : oA.data = .cell (some (.int (aOf scr) tA))) (nb : NoneBooked h₀)
    (hret : ∀ h' tk m', Fr h₀ L h' m' → h'.get? 179 = some (tabObj ps) → Q (.ret (.bool true)) ⟨h', s.gens, s.drawn, tk, s.os⟩) :
    (Mine.hd.heap_39 w.params).In h₀ → wpAny (model PySem.Challenge.rw_kq0023_01.row.prog w) (callerA.deeper (envOfC (Str.ofString "law") lawScope L fa cd)) (execs (lawRest 16) (envOfC (Str.ofString "law") lawScope L fa cd)) Q (fun e s' => wpAny (model PySem.Challenge.rw_kq0023_01.row.prog w) (callerA.deeper (envOfC (Str.ofString "law") lawScope L fa cd)) (leaving (envOfC (Str.ofString "law") lawScope L fa cd) e) (fun _ s'' => R1 e s'') (fun e' s'' => R2 e' s'') s') s := by
  intro X
  have ll : (levL scr).length = n := by rw [levL_len, hn]
  have lt : (tmL scr).length = n := by rw [tmL, List.length_map, hn]
  have lz : zl.length = n := by rw [hz.length, ll]
  have sa : Sm (aOf scr) := sm_of (Nat.lt_of_le_of_lt (a_bd scr) (by decide))
  rw [map_4 e1 e2 e3 e4] at F
  refine a7 B F N T hz lz h40 dA sa (fun h1 tk1 ay zy F1 N1 ne1 hy => ?_) X
  rw [rest17]
  refine wpAny_execs_cons ?_
  refine loopB B F1 N1 T ne1 ht hz hy lt ll (by rw [zL, List.length_map, ll]) h2 h40 (tm_small scr) (stepB_bd hn h2 h40) (fun h2' tk2 zs ys c' m2 F2 N2 hzs hI d1 d2 d3 d4 d5 => ?_) X
  dsimp only
  obtain ⟨P, Sxy, DA, qy, hxy, k0, k1⟩ := plain1b hn h2 h40 hz hI
  rw [map_3 d1 d2 d4] at F2
  have lzs : zs.length = n := by rw [hzs.length, hI.len]
  refine a9 (ys := []) B F2 (news_subF N2 (by repeat (first | exact k_nil | (refine k_cons (by k_mem) ?_)))) T hz lz ll h2 h40 dA DA (fun h3 tk3 hflat F3 N3 => ?_) (fun h3 tk3 ad b1 b3 u1 u2 u3 u4 hline F3 N3 f1 f3 y1 y2 y3 y4 => ?_) X
  · exact a10_flat (lev := []) B F3 N3 T hzs lz lzs h2 h40 qy hxy (k0 hflat) hret X
  · obtain ⟨Sxx, hxx, hne, hsl⟩ := k1 hline
    exact a10_line (lev := []) B F3 N3 T hzs lz lzs h2 h40 qy hxy hxx hne hsl nb f1 f3 y1 y2 y3 y4 hret X
theorem fin1 {w : World} {fa : Addr} {cd : Value} {h₀ : Heap} {mean : ExcName → Option Value} {mg mb : Str → Option Value} {s : Shared} {Q : Flow → Shared → Prop} {R1 R2 : Value → Shared → Prop} {L aS : Addr} {m : Str → Option Value} {ws : List Value} {scr : List Int} {oA oB oS : Obj} {vA vB : Option Value} {tn : Tok}
    (B : Below callerA h₀ [] h₀) (F : Fr h₀ L s.heap (fun z => if z = Str.ofString "n" then some (.int (scr.length : Int) tn) else m z)) (N : News h₀ L s.heap [(aS, listOf ws.toArray 0), (179, tabObj #[]), (L + 1 + 1 + 1, oB), (L + 1 + 1, oA), (L + 1, oS)])
    (T : Top Mine.vw (looseW Mine.vw [Str.ofString "_tuplegetter", Str.ofString "LinearRegression", Str.ofString "linear_regression"]) mean mg mb h₀)
    (hne : (@LT.lt Nat _ 179 aS) ∧ (@LT.lt Nat _ (L + 1 + 1 + 1) aS) ∧ (@LT.lt Nat _ (L + 1 + 1) aS) ∧ (@LT.lt Nat _ (L + 1) aS)) (h9 : @LT.lt Nat _ 179 L) (hi : IntsAre ws scr) (h2 : 2 ≤ scr.length) (h40 : scr.length ≤ 40) (dS : oS.data = .cell (some (.ref aS))) (dA : oA.data = .cell vA) (dB : oB.data = .cell vB) (hgs : AllBare s.gens) (nb : NoneBooked h₀)
    (hret : ∀ h' tk m' gs' ps, Fr h₀ L h' m' → AllBare gs' → h'.get? 179 = some (tabObj ps) → Q (.ret (.bool true)) ⟨h', gs', s.drawn, tk, s.os⟩) :
    (Mine.hd.heap_39 w.params).In h₀ → wpAny (model PySem.Challenge.rw_kq0023_01.row.prog w) (callerA.deeper (envOfC (Str.ofString "law") lawScope L fa cd)) (execs (lawRest 3) (envOfC (Str.ofString "law") lawScope L fa cd)) Q (fun e s' => wpAny (model PySem.Challenge.rw_kq0023_01.row.prog w) (callerA.deeper (envOfC (Str.ofString "law") lawScope L fa cd)) (leaving (envOfC (Str.ofString "law") lawScope L fa cd) e) (fun _ s'' => R1 e s'') (fun e' s'' => R2 e' s'') s') s := by
  intro X
  have lw : ws.length = scr.length := hi.length
  have ll : (levL scr).length = scr.length := levL_len scr
  have lt : (tmL scr).length = scr.length := by rw [tmL, List.length_map]
  have lu : (xL scr (levL scr)).length = scr.length := by rw [xL_eq, List.length_map, ll]
  have sa : Sm (aOf scr) := sm_of (Nat.lt_of_le_of_lt (a_bd scr) (by decide))
  have sl : SmAll (levL scr) := small_bd (lev_facts rfl h2 h40).1 (by decide)
  refine a1 B F N T hne h9 hi lw h2 h40 dS dA dB (fun h1 tk1 aL zl c oA1 oB1 tA tB F1 N1 ne1 hz dA1 dB1 => ?_) X
  refine a2 B F1 N1 T hi hz lw (hz.length.trans ll) rfl ll h2 h40 dS dA1 dB1 sa sl (fun h2' tk2 ax ay at' zx zy zt F2 N2 nex ney ht hx hy => ?_) X
  rw [rest10]
  refine wpAny_execs_cons ?_
  refine loopA (lev := []) B F2 N2 T ney ht hx hy lt lu (by rw [yL, List.length_map, lu]) h2 h40 (tm_small scr) (stepA_bd rfl h2 h40) (fun h3 tk3 zs ys c3 m3 F3 N3 hzs hI d1 d2 d3 d4 d5 => ?_) X
  dsimp only
  rw [map_5 d1 d2 d3 d4 d5] at F3
  have lzx : zx.length = scr.length := by rw [hx.length, lu]
  have lzs : zs.length = scr.length := by rw [hzs.length, hI.len]
  obtain ⟨P, Q', V, W, Xb, Yb, M, pr, qr, DA, DB, qx, qy, hK, kflat, kline, hYM⟩ := plain1a rfl h2 h40 hI
  refine a4 B F3 N3 T lzx lzs h2 h40 (fun h4 tk4 m4 F4 N4 g1 g2 g3 g4 g5 => ?_) X
  rw [map_5 g1 g2 g3 g4 g5] at F4
  refine a5 B F4 N4 T hx hzs lzx lzs lu h2 h40 dA1 dB1 DA DB (fun h5 tk5 af tf hflat F5 N5 ne5 => ?_) (fun h5 tk5 af tf ad r1 t1 r2 t2 r3 t3 r4 t4 hline F5 N5 ne5 ne6 f1 y1 f2 y2 f3 y3 f4 y4 => ?_) X
  · refine a6_flat B F5 N5 T tab_nil dA1 dB1 dS hx hzs lzx lzs h2 h40 qx qy hK hgs (kflat hflat) (fun h6 tk6 m6 gs6 ps6 F6 N6 hT6 hb6 c1 c2 c3 c4 c5 c6 N7 => ?_) X
    refine fin2 B F6 (news_two N7 N6) T c1 c4 c5 c6 rfl h2 h40 ht hz dA1 nb (fun h' tk m' F' hg => hret _ _ _ _ _ F' hb6 hg) X
  · refine a6_line B F5 N5 T tab_nil dA1 dB1 dS hx hzs lzx lzs h2 h40 qx qy hK hgs (kline hline) nb f1 y1 (by rw [hYM]; exact f2) y2 f3 y3 (by rw [hYM]; exact f4) y4 (fun h6 tk6 m6 gs6 ps6 F6 N6 hT6 hb6 c1 c2 c3 c4 c5 c6 N7 => ?_) X
    refine fin2 B F6 (news_two N7 N6) T c1 c4 c5 c6 rfl h2 h40 ht hz dA1 nb (fun h' tk m' F' hg => hret _ _ _ _ _ F' hb6 hg) X
end Mine
end

section
open PySem PySem.W PySem.Calls PyProof.Rows
set_option maxRecDepth 100000
set_option maxHeartbeats 800000
namespace Mine
theorem zz_FR1 : True := by
  w_top off
  k_with_none
  trivial
theorem in_tail {K : Frag} {P : Addr} {o : Obj} {h : Heap} (X : Frag.In ((P, o) :: K) h) (hn : K.lookup P = none) : K.In h := fun a o' e => X a o' (by
  have hne : a ≠ P := fun eb => by rw [eb, hn] at e; cases e
  show List.lookup a ((P, o) :: K) = some o'
  rw [List.lookup_cons]
  have : (a == P) = false := beq_eq_false_iff_ne.mpr hne
  rw [this]; exact e)
theorem list_hid {h : Heap} {P a : Addr} {vs : Array Value} {ps : Array Value} (hP : h.get? P = some (tabObj ps)) (hl : h.IsList a vs) : (hidP h P).IsList a vs := by
  obtain ⟨o, e, hc, n, hd⟩ := hl
  exact ⟨o, hid_but hP e (fun z => by rw [z] at hd; cases hd), hc, n, hd⟩
theorem k_none (Q : Params) : (Mine.hd.heap_39 Q).lookup 179 = none := by kernel_rfl
theorem News.get' {h₀ h : Heap} {L a : Addr} {o : Obj} {news : List (Addr × Obj)} (N : News h₀ L h news) (hm : (a, o) ∈ news) : h.get? a = some o := (N _ hm).1
theorem bare_nil {g : Array GenState} (h : g = #[]) : AllBare g := by
  intro x hx
  rw [h] at hx
  cases hx with
  | mk h => cases h
def StopF (P : Prop) : Prop := P
theorem stopF_ {P : Prop} (h : StopF P) : P := h
theorem zz_FR1_32 : True := by
  k_with "my execs cons" =>
    ((with_reducible show wpAny _ _ (execs (Stmt.Assign [Expr.Name (PySem.Str.ofString "level") _] _ _ :: _) _) _ _ _); refine stopF_ ?_)
  k_with "my call ref cons" =>
    (k_here; (with_reducible show wpAny _ _ (call (Value.ref 189) _ _) _ _ _); (rename IntsAre _ (List.take 40 _) => hI9zz141); (have hl9zz141 := IntsAre.length hI9zz141); k_dflt (refine' l1_few ?zz141B ?zz141F ?zz141N ?zz141T ?zz141hk ?zz141hd ?zz141hu ?zz141hx ?zz141hy ?zz141hxl ?zz141hyl ?zz141XB ?zz141TB ?zz141hlen ?zz141hn ?_ ?zz141X; (case zz141X => k_asm); (case zz141B => assumption); (case zz141F => k_asm); (case zz141N => k_asm); (case zz141T => assumption); (case zz141hk => rfl); (case zz141hd => ktr_room); (case zz141hu => ktr_units); (case zz141hx => k_mem); (case zz141hy => k_mem); (case zz141XB => assumption); (case zz141TB => assumption); (case zz141hxl => omega); (case zz141hyl => omega); (case zz141hlen => rfl); (case zz141hn => omega); k_whole; intro hzz141' tkzz141' azz141' czz141' tzz141' Fzz141' Nzz141'))
  trivial
theorem k_nb (Q : Params) : nbIn (Mine.hd.heap_39 Q) = true := by kernel_rfl
theorem fr1 : PySem.Challenge.rw_kq0023_01.Holds := Mine.hd (by
  w_strict (
    k_fill
    intro w s₀ s₁ mg mb G Y fa o pm cd doc dV kV ho hd hcd hD hmg hg args vals as hpre hlay hrd hwl hlo
    have KX := kIn_of Y
    lgec_behind G ho hd hcd hD hmg hpre hlay hrd hwl hlo cd
    rename Top _ _ _ _ _ _ => T0
    rename Fr _ _ _ _ => F0
    rename News _ _ _ _ => N0
    rename Below _ _ _ _ => B0
    rename Heap.IsList _ _ _ => l0
    have hP0 : s₁.heap.get? 179 = some (tabObj #[]) := KX 179 _ rfl
    have K1 : (Mine.hd.heap_39 w.params).In s₁.heap := in_tail KX (k_none _)
    have l9 : @LT.lt Nat _ 179 s₁.heap.objs.size := Heap.lt_size hP0
    have hTA := (lr_code tab_nil hP0 K1).2.2
    have T1 := top_hid hP0 T0 (law_tabs T0.g K1).2
    have F1 := fr_hid (P := 179) F0
    have N1 := news_hid hP0 F0 N0
    have B1 : Below callerA (hidP s₁.heap 179) [] (hidP s₁.heap 179) := below_caller _
    have X1 := in_hid (P := 179) K1 (k_none _)
    have l1 := list_hid hP0 l0
    (try (rename LGe.Mark => lm; clear lm))
    clear B0 l0 N0 F0 K1 KX Y T0
    (all_goals try k_fold)
    k_steps
    (all_goals (try k_data))
    · refine goodWG_true (oldK_end hP0 hTA (by assumption) (News.get' (by assumption) (by k_mem))) rfl (bare_nil hg) (raisesW_false ?_) ?_
      · wrow_none_raised
      · wrow_post
    · unfold StopF
      rename News _ _ _ _ => NN
      rename Fr _ _ _ _ => FF
      rename IntsAre _ (List.take 40 _) => hI
      rename ¬ (_ : Int) < _ => h2
      rename (List.take 40 _).length = _ => hC
      rename (@LT.lt Nat _ 179 _) ∧ _ ∧ _ ∧ _ => hne
      refine' fin1 ?B ?F ?N ?T ?hne ?h9 ?hi ?h2 ?h40 ?dS ?dA ?dB ?hgs ?nb ?hret ?X
      case B => exact B1
      case F => exact FF
      case N => exact NN
      case T => exact T1
      case hne => exact hne
      case h9 => exact l9
      case hi => exact hI
      case h2 => omega
      case h40 => omega
      case dS => assumption
      case dA => assumption
      case dB => assumption
      case hgs => exact bare_nil hg
      case nb => exact nb_of X1 (k_nb _)
      case X => exact X1
      case hret =>
        intro h' tk' m' gs' ps F' hb' hget
        (try dsimp only)
        refine goodWG_true (oldK_end hP0 hTA F' hget) rfl hb' (raisesW_false ?_) ?_
        · wrow_none_raised
        · wrow_post))
end Mine
end

set_option maxRecDepth 100000 in
theorem PySem.Challenge.cw_kq0023_01_holds : PySem.Challenge.rw_kq0023_01.Holds :=
  Mine.fr1
