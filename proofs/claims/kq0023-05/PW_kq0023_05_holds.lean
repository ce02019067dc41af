import PyProof.Rows.All
import Wide.All
import OpenK.AllK
import Wide.FinOn
import PySem.Builtin.Math.Norm
import PyProof.AttrMissHeap
import Flt.RightMore
import Flt.Canon
import Flt.Zero
import KE.KCompFold
import KE.KLcTest
import KE.KDictList
import KE.KFmtOwn
import KE.KMulAny
import KE.KTryDeep
import Lean
import PySem.Challenge.RW_kq0023_05
set_option Elab.async false
set_option linter.all false
local macro_rules | `(tactic| walk_at $s:str) => do
  let t := Lean.Syntax.mkStrLit ("my " ++ s.getString)
  `(tactic| k_extra $t)
section
open PySem PySem.W PyProof.Rows
set_option maxRecDepth 100000
set_option maxHeartbeats 8000000
namespace Mine
theorem zz_H2e : True := by
  w_top off
  k_with_none
  trivial
def vwBody : List Stmt := [0, 1, 3, 4, 6, 9, 10, 11, 12].filterMap fun i => PySem.Challenge.pw_kq0023_05.main.body[i]?
def vw : Program := { PySem.Challenge.pw_kq0023_05 with main := { PySem.Challenge.pw_kq0023_05.main with body := vwBody } }
end Mine
set_option hygiene false in
local macro_rules | `(tactic| o_head (kHook $K $as $e)) => `(tactic|
  (refine holds_open (q := Mine.vw) (loose := [Str.ofString "_tuplegetter", Str.ofString "LinearRegression", Str.ofString "linear_regression", Str.ofString "covariance"]) (Xt := fun s => xlAt Mine.vw [] s && recOk (RowW.records (OpenRow.toRowW (OpenLaw.row PySem.Challenge.rw_kq0023_05))) s) (XP := XL Mine.vw []) (Yf := Hook.obs (kHook (fun Q => ((107 : Addr), ({ cls := Value.none, data := Data.fields #[] } : Obj)) :: ((186 : Addr), ({ cls := Value.none, data := Data.fields #[] } : Obj)) :: $K Q) (107 :: 186 :: $as) (fun _ => by kernel_rfl))) (Ya := Hook.val (kHook (fun Q => ((107 : Addr), ({ cls := Value.none, data := Data.fields #[] } : Obj)) :: ((186 : Addr), ({ cls := Value.none, data := Data.fields #[] } : Obj)) :: $K Q) (107 :: 186 :: $as) (fun _ => by kernel_rfl))) (YP := Hook.says (kHook (fun Q => ((107 : Addr), ({ cls := Value.none, data := Data.fields #[] } : Obj)) :: ((186 : Addr), ({ cls := Value.none, data := Data.fields #[] } : Obj)) :: $K Q) (107 :: 186 :: $as) (fun _ => by kernel_rfl))) (N := 3432) ?hl (Hook.of (kHook (fun Q => ((107 : Addr), ({ cls := Value.none, data := Data.fields #[] } : Obj)) :: ((186 : Addr), ({ cls := Value.none, data := Data.fields #[] } : Obj)) :: $K Q) (107 :: 186 :: $as) (fun _ => by kernel_rfl))) (Hook.keeps (kHook (fun Q => ((107 : Addr), ({ cls := Value.none, data := Data.fields #[] } : Obj)) :: ((186 : Addr), ({ cls := Value.none, data := Data.fields #[] } : Obj)) :: $K Q) (107 :: 186 :: $as) (fun _ => by kernel_rfl))) (fun s e => xl_of s (Bool.and_eq_true_iff.mp e).1) XL.keeps (by rfl) (by rfl) (by rfl) (fun s e => recFacts_of (Bool.and_eq_true_iff.mp e).2) (by rfl) (by first | assumption | decide +kernel) (by decide +kernel) ⟨rfl, rfl, rfl, rfl, rfl, by decide +kernel⟩ ?hw ?hc
   case hl => exact fun w => by kernel_rfl))
open_top Mine.hd for PySem.Challenge.rw_kq0023_05
end

section
open PySem PySem.W PySem.Calls PyProof.Rows PySem.Spec
set_option maxRecDepth 100000
set_option maxHeartbeats 1000000
namespace Mine
def tabObj (ps : Array Value) : Obj := { cls := .none, data := .fields ps }
def allOf : Nat → Bool := fun _ => true
theorem passing_all (n : Nat) : passing allOf n 0 = List.range n := by
  unfold passing allOf
  simp
/-- a generator over a list, not yet started: what a builtin that draws on it needs -/
structure GenIs (prog : Program) (w : World) (A : Around) (a C I ay : Addr) (ks : List Addr) (g n : Nat) (F : Nat → Value → Prop) (s : Shared) : Prop where
  walks : WalksS prog w A.in4 a (a :: C :: I :: ay :: cStatics :: ks) (C :: [I]) (GenOnlyQ g) (passing allOf n 0).length (fun j y => ∃ i, (passing allOf n 0)[j]? = some i ∧ F i y) (GenAt prog w A.in4 a g C (I :: ay :: cStatics :: ks) [I] allOf n F)
  at0 : GenAt prog w A.in4 a g C (I :: ay :: cStatics :: ks) [I] allOf n F 0 s
section
variable {prog : Program} {w : World} {A : Around} {E : Value → Shared → Prop} {s : Shared} {env : Env} {elt iter : Expr} {x : Str} {px pos : Pos} {scope : Scope} {cl : List (Str × Addr)} {xs : List Value} {ay c P bm : Addr} {ps : Array Value} {ob : Obj} {mg : Str → Option Value} {ks : List Addr} {F : Nat → Value → Prop} {Q : Value → Shared → Prop}
end
end Mine
end

section
open PySem PySem.W PySem.Calls PyProof.Rows PySem.Spec
set_option maxRecDepth 100000
set_option maxHeartbeats 1000000
namespace Mine
section
variable {p : Program} {loose : List Str} {mean : ExcName → Option Value} {mg mb : Str → Option Value} {h : Heap} {P : Addr} {ps : Array Value}
/-- the heap without the code table P -/
abbrev hidP (h : Heap) (P : Addr) : Heap := hideAll h [P]
theorem hid_get {b : Addr} {o : Obj} (e : h.get? b = some o) (hb : b ≠ P) : (hidP h P).get? b = some o := hideAll_get [P] e (by simpa using hb)
theorem hid_none : (hidP h P).get? P = none := hideAll_none [P] (by simp)
theorem hid_back {b : Addr} {o : Obj} (e : (hidP h P).get? b = some o) : h.get? b = some o ∧ b ≠ P := by
  have hb : b ≠ P := fun eb => by rw [eb, hid_none] at e; cases e
  refine ⟨?_, hb⟩
  have e' : (h.update P fun o => { o with data := .freed }).get? b = some o := e
  rw [Heap.get?_update_other _ _ (Ne.symm hb)] at e'
  exact e'
theorem hid_but (hP : h.get? P = some (tabObj ps)) {b : Addr} {o : Obj} (e : h.get? b = some o) (ho : o ≠ tabObj ps) : (hidP h P).get? b = some o :=
  hid_get e fun eb => ho (by rw [eb, hP] at e; exact (Option.some.inj e).symm)
theorem ns_hid (hP : h.get? P = some (tabObj ps)) {a : Addr} {m : Str → Option Value} (hn : h.Ns a m) : (hidP h P).Ns a m := by
  obtain ⟨o, es, ep, e, hd, r⟩ := hn
  exact ⟨o, es, ep, hid_but hP e (fun z => by rw [z] at hd; cases hd), hd, r⟩
theorem rec_hid (hP : h.get? P = some (tabObj #[])) {cd : Value} {q : Str} (x : h.CodeRec cd q) : (hidP h P).CodeRec cd q := by
  obtain ⟨c, o, vs, t, e, g, hd, hv⟩ := x
  refine ⟨c, o, vs, t, e, hid_but hP g (fun z => ?_), hd, hv⟩
  rw [z] at hd
  have : vs = #[] := by cases hd; rfl
  rw [this] at hv
  cases hv
theorem tail_hid (hP : h.get? P = some (tabObj ps)) {bmB tl : List Value} (T : OwnTailQ h bmB tl) : OwnTailQ (hidP h P) bmB tl := by
  induction T with
  | base => exact .base
  | own hA hN hq _ ih => exact .own (hid_but hP hA (fun z => by cases z)) (ns_hid hP hN) hq ih
theorem own_hid (hP : h.get? P = some (tabObj ps)) {x : Str} {C : Addr} {bmB : List Value} {newId : String} (O : OwnClsQ x C bmB newId mg h) : OwnClsQ x C bmB newId mg (hidP h P) := by
  obtain ⟨bm, N, nm, q, bs, hdct, sn, sub, ab, col, dd, k0, k1, k2, k3, k5, mN, hC, hN, hq, T⟩ := O.obj
  exact ⟨O.bound, bm, N, nm, q, bs, hdct, sn, sub, ab, col, dd, k0, k1, k2, k3, k5, mN, hid_but hP hC (fun z => by cases z), ns_hid hP hN, hq, tail_hid hP T⟩
theorem seer_hid (hP : h.get? P = some (tabObj ps)) (x : h.NoSeer) : (hidP h P).NoSeer where
  statics := let ⟨mc, h1, r⟩ := x.statics; ⟨mc, ns_hid hP h1, r⟩
  mods := let ⟨mm, h1, r⟩ := x.mods; ⟨mm, ns_hid hP h1, r⟩
  imp := let ⟨mb, h1, r⟩ := x.imp; ⟨mb, ns_hid hP h1, r⟩
  main := let ⟨mg, bm, ob, h1, h2, h3, h4, r⟩ := x.main; ⟨mg, bm, ob, ns_hid hP h1, h2, hid_but hP h3 (fun z => by rw [z] at h4; cases h4), h4, r⟩
theorem top_hid (hP : h.get? P = some (tabObj #[])) (T : Top p loose mean mg mb h)
    (htab : ∀ d ∈ recsOf p, ∀ a o fd c P', mg d.name = some (.ref a) → h.get? a = some o → o.data = .func fd → fd.code = .ref c → h.IsCode c P' #[] → P' ≠ P) : Top p loose mean mg mb (hidP h P) where
  g := ns_hid hP T.g
  b := ns_hid hP T.b
  nolimit := let ⟨mc, h1, h2⟩ := T.nolimit; ⟨mc, ns_hid hP h1, h2⟩
  nodigits := let ⟨mc, h1, h2⟩ := T.nodigits; ⟨mc, ns_hid hP h1, h2⟩
  fn := fun d hd => let ⟨a, o, pm, code, doc, h1, h2, h3, h4⟩ := T.fn d hd; ⟨a, o, pm, code, doc, h1, hid_but hP h2 (fun z => by rw [z] at h3; cases h3), h3, rec_hid hP h4⟩
  own := fun o ho => let ⟨C, O, hm⟩ := T.own o ho; ⟨C, own_hid hP O, hm⟩
  const := T.const
  free := T.free
  builtins := T.builtins
  tab := fun d hd => by
    obtain ⟨a, o, fd, c, P', h1, h2, h3, h4, h5, h6⟩ := T.tab d hd
    have hne := htab d hd a o fd c P' h1 h2 h3 h4 h5
    have hcne : c ≠ P := fun e => by
      obtain ⟨⟨o', vs, e1, e2, e3, e4⟩, _⟩ := h6
      rw [e, hP] at e1
      have : o' = tabObj #[] := (Option.some.inj e1).symm
      rw [this] at e2; cases e2
    refine ⟨a, o, fd, c, P', h1, hid_but hP h2 (fun z => by rw [z] at h3; cases h3), h3, h4, ?_, ?_⟩
    · obtain ⟨o', vs, file, tf, flags, tg, inF, text, tt, op, x1, r1, r2, r3, r4, r5, r6, x2, r⟩ := h5
      exact ⟨o', vs, file, tf, flags, tg, inF, text, tt, op, hid_get x1 hcne, r1, r2, r3, r4, r5, r6, hid_get x2 hne, r⟩
    · obtain ⟨⟨o', vs, x1, r⟩, t⟩ := h6
      exact ⟨⟨o', vs, hid_get x1 hcne, r⟩, hid_get t hne⟩
  bmain := let ⟨bm, ob, h1, h2, h3, h4, r⟩ := T.bmain; ⟨bm, ob, h1, h2, hid_but hP h3 (fun z => by rw [z] at h4; cases h4), h4, r⟩
  seer := fun hi => seer_hid hP (T.seer hi)
theorem fr_hid {L : Addr} {h' : Heap} {m : Str → Option Value} (F : Fr h L h' m) : Fr (hidP h P) L h' m :=
  ⟨F.ns, fun b o e => F.keep b o (hid_back e).1, by rw [hideAll_size]; exact F.above⟩
theorem in_hid {K : Frag} (X : K.In h) (hK : K.lookup P = none) : K.In (hidP h P) := fun a o e => hid_get (X a o e) fun eb => by rw [eb, hK] at e; cases e
theorem news_hid {L : Addr} {h' : Heap} {m : Str → Option Value} {news : List (Addr × Obj)} (hP : h.get? P = some (tabObj ps)) (F : Fr h L h' m) (N : News h L h' news) : News (hidP h P) L h' ((P, tabObj ps) :: news) := fun q hq => by
  rcases List.mem_cons.mp hq with rfl | hq
  · exact ⟨F.keep _ _ hP, fun e => by
      have := F.above
      have hlt := Heap.lt_size hP
      have e : P = L := e
      rw [e] at hlt
      exact Nat.lt_irrefl _ (Nat.lt_of_lt_of_le hlt this), hid_none⟩
  · refine ⟨(N q hq).1, (N q hq).2.1, ?_⟩
    cases e : (hidP h P).get? q.1 with
    | none => rfl
    | some o => have := (hid_back e).1; rw [(N q hq).2.2] at this; cases this
end
end Mine
end

section
open PySem PySem.W PySem.Calls PyProof.Rows PySem.Spec
set_option maxRecDepth 100000
namespace Mine
theorem goodWG_true {c : ClaimW} {cl : Str → Option Addr} {mean : ExcName → Option Value} {args : List WData} {s₁ s' : Shared} (hK : OldK s₁.heap s'.heap) (hos : s'.os = s₁.os) (hg : AllBare s'.gens) (hn : ∀ cls, c.raises args cls = false) (hp : c.post args (.bool true) args = true) :
    GoodWG c cl mean args s₁ (.ok (.ret (.bool true))) s' :=
  ⟨.inl ⟨_, _, _, rfl, hn, .bool true, hp, unshared_nil⟩, hK, hos, hg⟩
end Mine
end

section
open PySem PySem.W PySem.Calls PyProof.Rows PySem.Spec
set_option maxRecDepth 100000
set_option maxHeartbeats 1000000
namespace Mine
section
variable {p : Program} {loose : List Str} {mean : ExcName → Option Value} {mg mb : Str → Option Value} {h : Heap} {P R : Addr}
theorem code_back {c P' : Addr} (x : (hidP h P).IsCode c P' #[]) : h.IsCode c P' #[] := by
  obtain ⟨o', vs, file, tf, flags, tg, inF, text, tt, op, x1, r1, r2, r3, r4, r5, r6, x2, r⟩ := x
  exact ⟨o', vs, file, tf, flags, tg, inF, text, tt, op, (hid_back x1).1, r1, r2, r3, r4, r5, r6, (hid_back x2).1, r⟩
theorem top_hid2 (hP : h.get? P = some (tabObj #[])) (hR : h.get? R = some (tabObj #[])) (hne : R ≠ P) (T : Top p loose mean mg mb h)
    (htab : ∀ d ∈ recsOf p, ∀ a o fd c P', mg d.name = some (.ref a) → h.get? a = some o → o.data = .func fd → fd.code = .ref c → h.IsCode c P' #[] → P' ≠ P ∧ P' ≠ R) : Top p loose mean mg mb (hidP (hidP h P) R) :=
  top_hid (hid_get hR hne) (top_hid hP T fun d hd a o fd c P' a1 a2 a3 a4 a5 => (htab d hd a o fd c P' a1 a2 a3 a4 a5).1)
    fun d hd a o fd c P' a1 a2 a3 a4 a5 => (htab d hd a o fd c P' a1 (hid_back a2).1 a3 a4 (code_back a5)).2
theorem oldK_end2 {h₁ h' : Heap} {c d L : Addr} {ps qs : Array Value} {m : Str → Option Value} (hP : h₁.get? P = some (tabObj #[])) (hR : h₁.get? R = some (tabObj #[])) (hT : h₁.TableAt c P #[]) (hU : h₁.TableAt d R #[]) (F : Fr (hidP (hidP h₁ P) R) L h' m) (hP' : h'.get? P = some (tabObj ps)) (hR' : h'.get? R = some (tabObj qs)) : OldK h₁ h' := by
  constructor
  · intro b o e
    by_cases hb : b = P
    · subst hb
      rw [hP] at e
      cases e
      exact .inr (.inl ⟨hT.isCodeTable, rfl, #[], ps, rfl, by rw [hP']; simp [tabObj]⟩)
    · by_cases hc : b = R
      · subst hc
        rw [hR] at e
        cases e
        exact .inr (.inl ⟨hU.isCodeTable, rfl, #[], qs, rfl, by rw [hR']; simp [tabObj]⟩)
      · exact .inl (F.keep b o (hid_get (hid_get e hb) hc))
  · intro b o e
    by_cases hb : b = P
    · subst hb; exact ⟨_, hP'⟩
    · by_cases hc : b = R
      · subst hc; exact ⟨_, hR'⟩
      · exact ⟨o, F.keep b o (hid_get (hid_get e hb) hc)⟩
end
end Mine
end

section
namespace Mine
open PySem PySem.Float64

/-- `x` is finite and its value, times 2^1074, is `v`. -/
def Ex (x : UInt64) (v : Int) : Prop := ∃ a m e, decode x = .fin a m e ∧ val x = v
/-- `v` (times 2^-1074) is a double. -/
def Fits (v : Int) : Prop := ∃ t, t < infMag ∧ V t = v.natAbs

theorem Ex.fin {x v} (h : Ex x v) : isFinite x = true := by
  obtain ⟨a, m, e, hd, _⟩ := h; unfold isFinite; rw [hd]
theorem Ex.notNaN {x v} (h : Ex x v) : isNaN x = false := by
  obtain ⟨a, m, e, hd, _⟩ := h; unfold isNaN; rw [hd]
theorem Ex.notInf {x v} (h : Ex x v) : isInf x = false := by
  obtain ⟨a, m, e, hd, _⟩ := h; unfold isInf; rw [hd]
theorem Ex.val {x v} (h : Ex x v) : val x = v := by obtain ⟨a, m, e, hd, hv⟩ := h; exact hv
theorem Ex.to {x v w} (h : Ex x v) (e : v = w) : Ex x w := e ▸ h

theorem Ex.pack (neg : Bool) {t : Nat} (h : t < infMag) : Ex (pack neg t) (sgn neg (V t)) := by
  obtain ⟨m, e, hd, _⟩ := decode_pack neg h
  exact ⟨neg, m, e, hd, val_pack neg h⟩
theorem Ex.zero (neg : Bool) : Ex (zero neg) 0 := by
  have := Ex.pack neg (t := 0) (by decide)
  rw [V_zero] at this
  exact this.to (by cases neg <;> rfl)

theorem fits_nat : ∀ (k n : Nat), n ≤ 2 ^ 53 → k ≤ 1990 → ∃ t, t < infMag ∧ V t = n * 2 ^ k := by
  intro k
  induction k with
  | zero =>
    intro n hn _
    refine ⟨n, by have : infMag = 2047 * 2 ^ 52 := rfl; omega, ?_⟩
    have := V_at (k := 0) (q := n) hn (.inr rfl)
    simpa using this
  | succ k ih =>
    intro n hn hk
    by_cases h : 2 ^ 52 ≤ n
    · refine ⟨(k + 1) * 2 ^ 52 + n, ?_, V_at hn (.inl h)⟩
      have : infMag = 2047 * 2 ^ 52 := rfl
      omega
    · obtain ⟨t, ht, hv⟩ := ih (2 * n) (by omega) (by omega)
      refine ⟨t, ht, hv.trans ?_⟩
      rw [Nat.pow_succ]; ac_rfl
theorem Fits.of (n : Int) (k : Nat) (hn : n.natAbs ≤ 2 ^ 53) (hk : k ≤ 1990) : Fits (n * 2 ^ k) := by
  obtain ⟨t, ht, hv⟩ := fits_nat k n.natAbs hn hk
  refine ⟨t, ht, hv.trans ?_⟩
  rw [Int.natAbs_mul, Int.natAbs_pow]; rfl
theorem Fits.zero : Fits 0 := ⟨0, by decide, V_zero⟩
theorem Fits.neg {v} (h : Fits v) : Fits (-v) := by obtain ⟨t, a, b⟩ := h; exact ⟨t, a, b.trans (Int.natAbs_neg v).symm⟩

theorem decode_lt {x : UInt64} {a m e} (h : decode x = .fin a m e) : x.toNat % 2 ^ 63 < infMag := by
  have hi : infMag = 2047 * 2 ^ 52 := rfl
  unfold decode at h
  simp only at h
  split at h
  · split at h <;> cases h
  · rename_i h1
    have h1' : x.toNat / 2 ^ 52 % 2048 ≠ 2047 := by simpa using h1
    omega
theorem Ex.fits {x v} (h : Ex x v) : Fits v := by
  obtain ⟨a, m, e, hd, hv⟩ := h
  have hlt := decode_lt hd
  have hx : x = PySem.Float64.pack (decide (x.toNat / 2 ^ 63 = 1)) (x.toNat % 2 ^ 63) := by
    apply UInt64.toNat_inj.mp
    rw [pack_toNat _ (Nat.mod_lt _ (Nat.two_pow_pos _))]
    have := x.toNat_lt
    by_cases q : x.toNat / 2 ^ 63 = 1
    · simp only [q, decide_true, if_true]; omega
    · simp only [q, decide_false]
      have : x.toNat / 2 ^ 63 = 0 := by omega
      simp; omega
  refine ⟨_, hlt, ?_⟩
  have := (Ex.pack (decide (x.toNat / 2 ^ 63 = 1)) hlt)
  rw [← hx] at this
  rw [← hv, this.val]
  exact (sgn_natAbs _ _).symm

theorem V_last : V (infMag - 1) = (2 ^ 53 - 1) * 2 ^ 2045 := by
  have e : infMag - 1 = 2045 * 2 ^ 52 + (2 ^ 53 - 1) := by unfold infMag; omega
  rw [e]
  exact V_at (k := 2045) (q := 2 ^ 53 - 1) (by omega) (.inl (by omega))

theorem right_exact {r neg W D t} (hr : Right r neg W D) (hD : 0 < D) (ht : t < infMag) (hW : W = D * V t) : Ex r (sgn neg (V t)) := by
  obtain ⟨t', rfl, hle, hov, hn⟩ := hr
  have hlt : t' < infMag := by
    rcases Nat.lt_or_ge t' infMag with h | h
    · exact h
    · exfalso
      have h1 := hov.mp (by omega)
      have h2 : V t ≤ (2 ^ 53 - 1) * 2 ^ 2045 := by rw [← V_last]; exact V_mono (by omega)
      have h3 : D * V t ≤ D * ((2 ^ 53 - 1) * 2 ^ 2045) := Nat.mul_le_mul_left D h2
      have hZ : (0 : Nat) < 2 ^ 2045 := Nat.two_pow_pos _
      generalize (2 : Nat) ^ 2045 = Z at *
      have e2 : (2 ^ 54 - 1) * Z = 2 * ((2 ^ 53 - 1) * Z) + Z := by omega
      have e3 : D * ((2 ^ 54 - 1) * Z) = 2 * (D * ((2 ^ 53 - 1) * Z)) + D * Z := by rw [e2, Nat.mul_add, Nat.mul_left_comm]
      have hDZ : 0 < D * Z := Nat.mul_pos hD hZ
      rw [e3] at h1
      omega
  have h4 := (hn hlt t).1
  have h5 : dist W (D * V t) = 0 := by rw [hW]; unfold dist; omega
  rw [h5] at h4
  have h6 : D * V t' = D * V t := by rw [← hW]; unfold dist at h4; omega
  have h7 : V t' = V t := Nat.eq_of_mul_eq_mul_left hD h6
  exact (Ex.pack neg hlt).to (by rw [h7])

theorem sgn_of (v : Int) : sgn (decide (v < 0)) v.natAbs = v := by
  unfold sgn
  by_cases h : v < 0
  · simp only [h, decide_true, if_true]; omega
  · simp only [h, decide_false]; simp; omega

theorem Ex.add {x y u v} (hx : Ex x u) (hy : Ex y v) (hf : Fits (u + v)) : Ex (add x y) (u + v) := by
  obtain ⟨a, m, e, hdx, rfl⟩ := hx
  obtain ⟨b, k, f, hdy, rfl⟩ := hy
  have h := add_right hdx hdy
  by_cases h0 : PySem.Float64.val x + PySem.Float64.val y = 0
  · rw [h.1 h0, h0]; exact Ex.zero _
  · obtain ⟨t, ht, hv⟩ := hf
    have := right_exact (h.2 h0) (by decide) ht (by rw [hv]; omega)
    exact this.to (by rw [hv, sgn_of])
theorem Ex.neg {y v} (hy : Ex y v) : Ex (neg y) (-v) := by
  obtain ⟨b, k, f, hdy, rfl⟩ := hy
  exact ⟨_, _, _, neg_decode hdy, neg_val hdy⟩
theorem Ex.sub {x y u v} (hx : Ex x u) (hy : Ex y v) (hf : Fits (u - v)) : Ex (sub x y) (u - v) := by
  have h := (hx.add hy.neg (by rw [← Int.sub_eq_add_neg]; exact hf)).to (Int.sub_eq_add_neg).symm
  unfold Float64.sub
  exact h

theorem sgn_xor (a b : Bool) (m k : Nat) : sgn (a != b) (m * k) = sgn a m * sgn b k := by
  unfold sgn; cases a <;> cases b <;> simp [Int.neg_mul, Int.mul_neg, Int.natCast_mul]

theorem Ex.mul {x y u v w} (hx : Ex x u) (hy : Ex y v) (hw : u * v = w * 2 ^ 1074) (hf : Fits w) : Ex (mul x y) w := by
  obtain ⟨a, m, e, hdx, hu⟩ := hx
  obtain ⟨b, k, f, hdy, hv⟩ := hy
  obtain ⟨t, ht, hvt⟩ := hf
  have h := mul_right hdx hdy
  rw [hu, hv] at h
  have hK : (0 : Nat) < 2 ^ 1074 := Nat.two_pow_pos _
  have e1 : u.natAbs * v.natAbs = 2 ^ 1074 * V t := by
    rw [hvt, ← Int.natAbs_mul, hw, Int.natAbs_mul, Int.natAbs_pow, Nat.mul_comm]; rfl
  have := right_exact h hK ht e1
  refine this.to ?_
  have hs : sgn (a != b) (u.natAbs * v.natAbs) = u * v := by
    rw [← hu, ← hv, sgn_xor, val_eq hdx, val_eq hdy, sgn_natAbs, sgn_natAbs]
  rw [hw, e1, Nat.mul_comm, sgn_mul] at hs
  have h2 : ((2 ^ 1074 : Nat) : Int) = (2 : Int) ^ 1074 := by simp
  rw [h2] at hs
  exact Int.eq_of_mul_eq_mul_right (Int.ne_of_gt (Int.pow_pos (by decide))) hs
theorem Ex.ofInt {i : Int} (hf : Fits (i * 2 ^ 1074)) : Ex (ofInt i) (i * 2 ^ 1074) := by
  obtain ⟨t, ht, hv⟩ := hf
  have e1 : (i * 2 ^ 1074).natAbs = i.natAbs * 2 ^ 1074 := by rw [Int.natAbs_mul, Int.natAbs_pow]; rfl
  have := right_exact (ofInt_right i) (by decide) ht (by rw [hv, e1]; omega)
  refine this.to ?_
  rw [hv, e1, sgn_mul, sgn_of]
  congr 1
theorem Ex.div {x y u v w} (hx : Ex x u) (hy : Ex y v) (hv0 : v ≠ 0) (hw : u * 2 ^ 1074 = w * v) (hf : Fits w) : Ex (div x y) w := by
  obtain ⟨a, m, e, hdx, hu⟩ := hx
  obtain ⟨b, k, f, hdy, hv⟩ := hy
  obtain ⟨t, ht, hvt⟩ := hf
  have hk : k ≠ 0 := by
    rintro rfl
    rw [val_eq hdy] at hv
    apply hv0; rw [← hv]; unfold sgn; split <;> simp
  have h := div_right hdx hdy hk
  rw [hu, hv] at h
  have hvpos : 0 < v.natAbs := by omega
  have e1 : u.natAbs * 2 ^ 1074 = v.natAbs * V t := by
    have := congrArg Int.natAbs hw
    rw [Int.natAbs_mul, Int.natAbs_mul, Int.natAbs_pow] at this
    rw [hvt, Nat.mul_comm v.natAbs]; exact this
  have := right_exact h hvpos ht e1
  refine this.to ?_
  have s1 : sgn a (u.natAbs) = u := by rw [← hu, val_eq hdx, sgn_natAbs]
  have s2 : sgn b (v.natAbs) = v := by rw [← hv, val_eq hdy, sgn_natAbs]
  -- sgn (a != b) (V t) = w
  have s3 : sgn (a != b) (V t) * v = w * v := by
    rw [← hw, ← s1, ← s2]
    have h2 : ((2 ^ 1074 : Nat) : Int) = (2 : Int) ^ 1074 := by generalize (1074 : Nat) = k; simp
    rw [← h2, ← sgn_mul, e1, Nat.mul_comm v.natAbs]
    generalize v.natAbs = V'
    generalize V t = T
    unfold sgn; cases a <;> cases b <;> simp [Int.neg_mul, Int.mul_neg, Int.natCast_mul]
  exact Int.eq_of_mul_eq_mul_right hv0 s3
end Mine
end

section
namespace Mine
open PySem PySem.Float64

/-! quotients -/
theorem right_scale {r neg W D} (c : Nat) (hc : 0 < c) (h : Right r neg W D) : Right r neg (W * c) (D * c) := by
  obtain ⟨t, rfl, hle, hov, hn⟩ := h
  have hd : ∀ v, dist (W * c) (D * c * v) = c * dist W (D * v) := fun v => by
    rw [← dist_mul]; congr 1 <;> ac_rfl
  refine ⟨t, rfl, hle, ?_, fun ht t' => ?_⟩
  · rw [hov]
    generalize (2 ^ 54 - 1) * (2 : Nat) ^ 2045 = K
    have e1 : D * c * K = c * (D * K) := by ac_rfl
    have e2 : 2 * (W * c) = c * (2 * W) := by ac_rfl
    rw [e1, e2]
    exact ⟨fun h => Nat.mul_le_mul_left c h, fun h => Nat.le_of_mul_le_mul_left h hc⟩
  · obtain ⟨h1, h2⟩ := hn ht t'
    rw [hd, hd]
    exact ⟨Nat.mul_le_mul_left c h1, fun a b => h2 a (Nat.eq_of_mul_eq_mul_left hc b)⟩

theorem right_uniq0 {r r' neg W D} (hD : 0 < D) (h : Right r neg W D) (h' : Right r' neg W D) : r = r' := by
  obtain ⟨t, rfl, hle, hov, hn⟩ := h
  obtain ⟨t', rfl, hle', hov', hn'⟩ := h'
  have key : ∀ t t', t ≤ infMag → t' ≤ infMag → (t = infMag ↔ t' = infMag) →
      (t < infMag → ∀ t', dist W (D * V t) ≤ dist W (D * V t') ∧ (V t' ≠ V t → dist W (D * V t) = dist W (D * V t') → t % 2 = 0)) →
      (t' < infMag → ∀ t, dist W (D * V t') ≤ dist W (D * V t) ∧ (V t ≠ V t' → dist W (D * V t') = dist W (D * V t) → t' % 2 = 0)) → ¬ t < t' := by
    intro t t' hle hle' hi hn hn' hlt
    have ht : t < infMag := by omega
    have ht' : t' < infMag := by
      rcases Nat.lt_or_ge t' infMag with h | h
      · exact h
      · have : t' = infMag := by omega
        have := hi.mpr this; omega
    have a := hn ht
    have b := hn' ht'
    have hVs := V_succ t
    have hVl := V_lt hlt
    have e1 : D * V t < D * V t' := Nat.mul_lt_mul_of_pos_left hVl hD
    by_cases hs : t + 1 = t'
    · subst hs
      have p1 := (a (t + 1)).1
      have p2 := (b t).1
      have p3 := (a (t + 1)).2 (by omega) (by omega)
      have p4 := (b t).2 (by omega) (by omega)
      omega
    · have hlt2 : t + 1 < t' := by omega
      have e2 : D * V t < D * V (t + 1) := Nat.mul_lt_mul_of_pos_left hVs hD
      have e3 : D * V (t + 1) < D * V t' := Nat.mul_lt_mul_of_pos_left (V_lt hlt2) hD
      have p1 := (a t').1
      have p2 := (b t).1
      have p3 := (a (t + 1)).1
      generalize D * V t = x at *
      generalize D * V (t + 1) = y at *
      generalize D * V t' = z at *
      unfold dist at *
      omega
  have hi : t = infMag ↔ t' = infMag := hov.trans hov'.symm
  have h1 := key t t' hle hle' hi hn hn'
  have h2 := key t' t hle' hle hi.symm hn' hn
  have : t = t' := by omega
  rw [this]
theorem right_uniq {r r' neg W D W' D'} (hD : 0 < D) (hD' : 0 < D') (h : Right r neg W D) (h' : Right r' neg W' D') (e : W * D' = W' * D) : r = r' := by
  have a := right_scale D' hD' h
  have b := right_scale D hD h'
  rw [← e, show D' * D = D * D' from Nat.mul_comm _ _] at b
  exact right_uniq0 (Nat.mul_pos hD hD') a b

/-- `r` is the double nearest to `n / d`. -/
def Quo (r : UInt64) (n d : Int) : Prop := d ≠ 0 ∧ (n = 0 → Ex r 0) ∧ (n ≠ 0 → Right r (decide (n < 0) != decide (d < 0)) (n.natAbs * 2 ^ 1074) d.natAbs)

theorem Ex.notZero {x v} (h : Ex x v) : isZero x = decide (v = 0) := by
  obtain ⟨a, m, e, hd, hv⟩ := h
  rw [val_eq hd] at hv
  unfold isZero
  rw [hd]
  have hp : 0 < 2 ^ (e + 1074).toNat := Nat.two_pow_pos _
  cases m with
  | zero => simp at hv; symm; simp; rw [← hv]; unfold sgn; split <;> simp
  | succ m =>
    have : v ≠ 0 := by
      rw [← hv]
      have : 0 < (m + 1) * 2 ^ (e + 1074).toNat := Nat.mul_pos (Nat.succ_pos _) hp
      unfold sgn; split <;> omega
    simp [this]

theorem sgn_neg_iff {a : Bool} {k : Nat} (hk : 0 < k) : decide (sgn a k < 0) = a := by
  unfold sgn; cases a <;> simp <;> omega

theorem Ex.quo {x y u v} (hx : Ex x u) (hy : Ex y v) (hv : v ≠ 0) : Quo (PySem.Float64.div x y) u v := by
  obtain ⟨a, m, e, hdx, hu⟩ := hx
  obtain ⟨b, k, f, hdy, hv'⟩ := hy
  have hv2 := hv'
  rw [val_eq hdy] at hv2
  have hk : k ≠ 0 := by rintro rfl; apply hv; rw [← hv2]; unfold sgn; split <;> simp
  have h := div_right hdx hdy hk
  rw [hu, hv'] at h
  have hu2 := hu
  rw [val_eq hdx] at hu2
  have hb : decide (v < 0) = b := by rw [← hv2]; exact sgn_neg_iff (Nat.mul_pos (by omega) (Nat.two_pow_pos _))
  refine ⟨hv, fun h0 => ?_, fun h0 => ?_⟩
  · rw [h0] at h
    have := right_exact h (by omega) (t := 0) (by decide) (by rw [V_zero]; simp)
    refine this.to ?_
    rw [V_zero]; unfold sgn; split <;> rfl
  · have hm : m ≠ 0 := by rintro rfl; apply h0; rw [← hu2]; unfold sgn; split <;> simp
    have ha : decide (u < 0) = a := by rw [← hu2]; exact sgn_neg_iff (Nat.mul_pos (by omega) (Nat.two_pow_pos _))
    rw [ha, hb]; exact h

theorem quo_ofFrac {a b : Int} (hb : b ≠ 0) : Quo (ofFrac (decide (a < 0) != decide (b < 0)) a.natAbs b.natAbs) a b := by
  have h : Right (ofFrac (decide (a < 0) != decide (b < 0)) a.natAbs b.natAbs) (decide (a < 0) != decide (b < 0)) (a.natAbs * 2 ^ 1074) b.natAbs :=
    ofFrac_right (by omega) (by generalize (2:Nat) ^ 1074 = K; ac_rfl) (by omega)
  refine ⟨hb, fun h0 => ?_, fun _ => h⟩
  have h2 := h
  rw [show a.natAbs * 2 ^ 1074 = 0 by rw [h0]; simp] at h2
  have := right_exact h2 (by omega) (t := 0) (by decide) (by rw [V_zero]; simp)
  refine this.to ?_
  rw [V_zero]; unfold sgn; split <;> rfl

theorem quo_eq {r r' n d n' d'} (h : Quo r n d) (h' : Quo r' n' d') (e : n * d' = n' * d) : r = r' ∨ (Ex r 0 ∧ Ex r' 0) := by
  obtain ⟨hd, h0, h1⟩ := h
  obtain ⟨hd', h0', h1'⟩ := h'
  by_cases hn : n = 0
  · right
    refine ⟨h0 hn, h0' ?_⟩
    rw [hn, Int.zero_mul] at e
    rcases Int.mul_eq_zero.mp e.symm with h | h
    · exact h
    · exact absurd h hd
  · left
    have hn' : n' ≠ 0 := by
      rintro rfl
      rw [Int.zero_mul] at e
      rcases Int.mul_eq_zero.mp e with h | h
      · exact hn h
      · exact hd' h
    have hs : (decide (n < 0) != decide (d < 0)) = (decide (n' < 0) != decide (d' < 0)) := by
      have es := congrArg Int.sign e
      rw [Int.sign_mul, Int.sign_mul] at es
      have pos : ∀ z : Int, 0 < z → z.sign = 1 ∧ decide (z < 0) = false := fun z h => ⟨Int.sign_eq_one_of_pos h, by simp; omega⟩
      have neg : ∀ z : Int, z < 0 → z.sign = -1 ∧ decide (z < 0) = true := fun z h => ⟨Int.sign_eq_neg_one_of_neg h, by simp; omega⟩
      have two : ∀ z : Int, z ≠ 0 → (z.sign = 1 ∧ decide (z < 0) = false) ∨ (z.sign = -1 ∧ decide (z < 0) = true) := fun z h => by
        rcases Int.lt_or_gt_of_ne h with a | a
        · exact .inr (neg z a)
        · exact .inl (pos z a)
      rcases two n hn with ⟨a1, a2⟩ | ⟨a1, a2⟩ <;> rcases two n' hn' with ⟨b1, b2⟩ | ⟨b1, b2⟩ <;> rcases two d hd with ⟨c1, c2⟩ | ⟨c1, c2⟩ <;>
        rcases two d' hd' with ⟨f1, f2⟩ | ⟨f1, f2⟩ <;> rw [a1, b1, c1, f1] at es <;> rw [a2, b2, c2, f2] <;> first | rfl | (exfalso; revert es; decide)
    have e2 : n.natAbs * 2 ^ 1074 * d'.natAbs = n'.natAbs * 2 ^ 1074 * d.natAbs := by
      have := congrArg Int.natAbs e
      rw [Int.natAbs_mul, Int.natAbs_mul] at this
      generalize (2:Nat) ^ 1074 = K
      calc n.natAbs * K * d'.natAbs = K * (n.natAbs * d'.natAbs) := by ac_rfl
        _ = K * (n'.natAbs * d.natAbs) := by rw [this]
        _ = _ := by ac_rfl
    have hr := h1 hn
    rw [hs] at hr
    exact right_uniq (by omega) (by omega) hr (h1' hn') e2
end Mine
end

section
namespace Mine
open PySem PySem.Float64 PySem.Builtin.Math

theorem Ex.cmp {x y u v} (hx : Ex x u) (hy : Ex y v) : Float64.cmp x y = some (compare u v) := by
  obtain ⟨a, m, e, hdx, rfl⟩ := hx
  obtain ⟨b, k, f, hdy, rfl⟩ := hy
  exact cmp_right hdx hdy
theorem Ex.cmpEq {x y u v} (hx : Ex x u) (hy : Ex y v) : (Float64.cmp x y == some .eq) = decide (u = v) := by
  rw [hx.cmp hy]
  by_cases h : u = v
  · subst h; simp
  · have : compare u v ≠ .eq := fun c => h (Int.compare_eq_eq.mp c)
    simp [h]
    try exact this
theorem Ex.cmpLt {x y u v} (hx : Ex x u) (hy : Ex y v) : (Float64.cmp x y == some .lt) = decide (u < v) := by
  rw [hx.cmp hy]
  by_cases h : u < v
  · simp [Int.compare_eq_lt.mpr h, h]
  · have : compare u v ≠ .lt := fun c => h (Int.compare_eq_lt.mp c)
    simp [h]
    try exact this
theorem Ex.lt {x y u v} (hx : Ex x u) (hy : Ex y v) : Float64.lt x y = decide (u < v) := hx.cmpLt hy
theorem Ex.cmpInt {x u} (hx : Ex x u) (i : Int) : Float64.cmpInt x i = some (compare u (i * 2 ^ 1074)) := by
  obtain ⟨a, m, e, hdx, rfl⟩ := hx
  exact cmpInt_right hdx i

theorem Ex.abs {x u} (hx : Ex x u) : Ex (Float64.abs x) (u.natAbs : Int) := by
  have hn := hx.notNaN
  obtain ⟨a, m, e, hdx, hu⟩ := hx
  have hlt := decode_lt hdx
  have h : Float64.abs x = PySem.Float64.pack false (x.toNat % 2 ^ 63) := by unfold Float64.abs; rw [if_neg (by simp [hn])]
  rw [h]
  have h2 := Ex.pack false hlt
  refine h2.to ?_
  have h3 : ∃ b, Ex x (sgn b (V (x.toNat % 2 ^ 63))) := by
    refine ⟨decide (x.toNat / 2 ^ 63 = 1), ?_⟩
    have hx' : x = PySem.Float64.pack (decide (x.toNat / 2 ^ 63 = 1)) (x.toNat % 2 ^ 63) := by
      apply UInt64.toNat_inj.mp
      rw [pack_toNat _ (Nat.mod_lt _ (Nat.two_pow_pos _))]
      have := x.toNat_lt
      by_cases q : x.toNat / 2 ^ 63 = 1
      · simp only [q, decide_true, if_true]; omega
      · simp only [q, decide_false]
        have : x.toNat / 2 ^ 63 = 0 := by omega
        simp; omega
    have := Ex.pack (decide (x.toNat / 2 ^ 63 = 1)) hlt
    rw [← hx'] at this
    exact this
  obtain ⟨b, hb⟩ := h3
  have : u = sgn b (V (x.toNat % 2 ^ 63)) := by rw [← hu]; exact hb.val
  rw [this, sgn_natAbs]; rfl

/-! triple length -/
theorem Ex.fmaZero {x y z u v w} (hx : Ex x u) (hy : Ex y v) (hz : Ex z w) (hw : u * v + w * 2 ^ 1074 = 0) : Ex (fma x y z) 0 := by
  obtain ⟨a, m, e, hdx, hu⟩ := hx
  obtain ⟨b, k, f, hdy, hv⟩ := hy
  obtain ⟨c, n, g, hdz, hz⟩ := hz
  have he := decode_ge hdx
  have hf := decode_ge hdy
  have hg := decode_ge hdz
  have hfma : ∃ ng r, fma x y z = (if (sgn (a != b) (m * k * 2 ^ (e + f - min (e + f) g).toNat) + sgn c (n * 2 ^ (g - min (e + f) g).toNat) == 0) then Float64.zero ng else r) := by
    unfold fma
    rw [hdx, hdy, hdz]
    exact ⟨_, _, rfl⟩
  obtain ⟨ng, r, hfma⟩ := hfma
  rw [hfma]
  have hs : sgn (a != b) (m * k * 2 ^ (e + f - min (e + f) g).toNat) + sgn c (n * 2 ^ (g - min (e + f) g).toNat) = 0 := by
    have hp : (sgn (a != b) (m * k * 2 ^ (e + f - min (e + f) g).toNat) + sgn c (n * 2 ^ (g - min (e + f) g).toNat)) * ((2 ^ (min (e + f) g + 2148).toNat : Nat) : Int) = u * v + w * 2 ^ 1074 := by
      rw [Int.add_mul, ← sgn_mul, ← sgn_mul, Nat.mul_assoc (m * k), Nat.mul_assoc n, ← Nat.pow_add, ← Nat.pow_add]
      have e1 : (e + f - min (e + f) g).toNat + (min (e + f) g + 2148).toNat = (e + 1074).toNat + (f + 1074).toNat := by omega
      have e2 : (g - min (e + f) g).toNat + (min (e + f) g + 2148).toNat = (g + 1074).toNat + 1074 := by omega
      rw [e1, e2, Nat.pow_add, Nat.pow_add, ← hu, ← hv, ← hz, val_eq hdx, val_eq hdy, val_eq hdz, ← sgn_xor]
      congr 1
      · congr 1; ac_rfl
      · rw [← Nat.mul_assoc, sgn_mul]
        congr 1
    rw [hw] at hp
    rcases Int.mul_eq_zero.mp hp with h | h
    · exact h
    · exfalso
      have : 0 < 2 ^ (min (e + f) g + 2148).toNat := Nat.two_pow_pos _
      omega
  rw [hs]
  exact Ex.zero _

theorem dlSum_ex {a b u v} (ha : Ex a u) (hb : Ex b v) (hf : Fits (u + v)) : Ex (dlSum a b).1 (u + v) ∧ Ex (dlSum a b).2 0 := by
  have h1 : Ex (Float64.add a b) (u + v) := ha.add hb hf
  have h2 : Ex (Float64.sub (Float64.add a b) a) v := (h1.sub ha (by rw [show u + v - u = v by omega]; exact hb.fits)).to (by omega)
  have h3 : Ex (Float64.sub (Float64.add a b) (Float64.sub (Float64.add a b) a)) u := (h1.sub h2 (by rw [show u + v - v = u by omega]; exact ha.fits)).to (by omega)
  have h4 := ha.sub h3 (by rw [Int.sub_self]; exact Fits.zero)
  have h5 := hb.sub h2 (by rw [Int.sub_self]; exact Fits.zero)
  refine ⟨h1, ?_⟩
  have := h4.add h5 (by simp only [Int.sub_self]; exact Fits.zero)
  exact this.to (by simp)

def TL (t : UInt64 × UInt64 × UInt64) (v : Int) : Prop := Ex t.1 v ∧ Ex t.2.1 0 ∧ Ex t.2.2 0
theorem TL.fma {x y u v w S t} (h : TL t S) (hx : Ex x u) (hy : Ex y v) (hw : u * v = w * 2 ^ 1074) (hfw : Fits w) (hfs : Fits (S + w)) : TL (tlFma x y t) (S + w) := by
  obtain ⟨h1, h2, h3⟩ := h
  have z : Ex (Float64.mul x y) w := hx.mul hy hw hfw
  have z2 : Ex (Float64.fma x y (Float64.neg (Float64.mul x y))) 0 := hx.fmaZero hy z.neg (by rw [hw, Int.neg_mul]; omega)
  obtain ⟨s1, s2⟩ := dlSum_ex h1 z hfs
  have F0 : Fits (0 + 0) := by simpa using Fits.zero
  obtain ⟨r1, r2⟩ := dlSum_ex h2 z2 F0
  obtain ⟨q1, q2⟩ := dlSum_ex (r1.to (by simp : (0:Int)+0 = 0)) s2 F0
  refine ⟨s1, q1.to (by simp), ?_⟩
  have := (h3.add r2 F0)
  exact ((this.to (by simp : (0:Int)+0=0)).add q2 F0).to (by simp)
theorem TL.float {t S} (h : TL t S) : Ex (tlToFloat t) S := by
  obtain ⟨h1, h2, h3⟩ := h
  obtain ⟨s1, s2⟩ := dlSum_ex h2 h1 (by simpa using h1.fits)
  have F0 : Fits (0 + 0) := by simpa using Fits.zero
  have := (h3.add s2 F0).to (by simp : (0:Int)+0 = 0)
  exact (this.add s1 (by simpa using h1.fits)).to (by simp)

/-! fsum -/
/-- the partials after an exact sum -/
def FS (ps : List UInt64) (v : Int) : Prop := (ps = [] ∧ v = 0) ∨ ∃ p, ps = [p] ∧ Ex p v ∧ v ≠ 0
theorem fsum_step {ps S x u} (h : FS ps S) (hx : Ex x u) (hf : Fits (S + u)) :
    isFinite (fsumAdd ps x).2 = true ∧ FS (if isZero (fsumAdd ps x).2 then (fsumAdd ps x).1 else (fsumAdd ps x).1 ++ [(fsumAdd ps x).2]) (S + u) := by
  rcases h with ⟨rfl, rfl⟩ | ⟨p, rfl, hp, hS⟩
  · refine ⟨hx.fin, ?_⟩
    show FS (if isZero x then [] else [] ++ [x]) (0 + u)
    rw [hx.notZero, Int.zero_add]
    by_cases h0 : u = 0
    · simp only [h0, decide_true, if_true]; exact .inl ⟨rfl, rfl⟩
    · simp only [h0, decide_false]; exact .inr ⟨x, rfl, hx, h0⟩
  · -- the pair, greater first
    have key : ∀ a b c d, Ex a c → Ex b d → c + d = S + u → Ex (Float64.add a b) (S + u) ∧ isZero (Float64.sub b (Float64.sub (Float64.add a b) a)) = true := by
      intro a b c d ha hb e
      have h1 : Ex (Float64.add a b) (c + d) := ha.add hb (by rw [e]; exact hf)
      have h2 : Ex (Float64.sub (Float64.add a b) a) d := (h1.sub ha (by rw [show c + d - c = d by omega]; exact hb.fits)).to (by omega)
      have h3 := hb.sub h2 (by rw [Int.sub_self]; exact Fits.zero)
      exact ⟨h1.to e, by rw [h3.notZero]; simp⟩
    have hres : ∃ r, fsumAdd [p] x = ([], r) ∧ Ex r (S + u) := by
      by_cases hl : Float64.lt (Float64.abs x) (Float64.abs p) = true
      · obtain ⟨k1, k2⟩ := key p x S u hp hx rfl
        refine ⟨_, ?_, k1⟩
        simp only [fsumAdd, hl, if_true, k2]
      · have hl' : Float64.lt (Float64.abs x) (Float64.abs p) = false := by simpa using hl
        obtain ⟨k1, k2⟩ := key x p u S hx hp (by omega)
        refine ⟨_, ?_, k1⟩
        simp only [fsumAdd, hl', Bool.false_eq_true, if_false, k2, if_true]
    obtain ⟨r, hr, hE⟩ := hres
    rw [hr]
    refine ⟨hE.fin, ?_⟩
    simp only
    rw [hE.notZero]
    by_cases h0 : S + u = 0
    · simp only [h0, decide_true, if_true]; exact .inl ⟨rfl, rfl⟩
    · simp only [h0, decide_false]; exact .inr ⟨r, rfl, hE, h0⟩
theorem fsum_end {ps S} (h : FS ps S) : Ex (fsumEnd ps) S := by
  rcases h with ⟨rfl, rfl⟩ | ⟨p, rfl, hp, hS⟩
  · exact Ex.zero false
  · exact hp
end Mine
end

section
namespace Mine
open PySem PySem.W PySem.Calls PyProof.Rows PySem.Flt
open Sem (wp)
set_option maxRecDepth 100000

/-- a number, its value times 2^1074 -/
inductive NumV : Value → Int → Prop
  | int {i : Int} (t : Tok) {v : Int} (e : v = i * 2 ^ 1074) (h : Fits v) : NumV (.int i t) v
  | float {x : UInt64} (t : Tok) {v : Int} (h : Ex x v) : NumV (.float x t) v

theorem not_over {n : Int} (h : Fits (n * 2 ^ 1074)) : ¬ Over n := fun o => by
  have := inf_of_over o
  rw [(Ex.ofInt h).notInf] at this
  cases this

namespace F
theorem kind_fsum : builtinKind "math.fsum" = none := by decide +kernel
theorem plain_fsum : plainId "math.fsum" = true := by decide +kernel
theorem entry_fsum : entryFor table "math.fsum" = some Builtin.«math.fsum» := entryFor_of_fast (by kernel_rfl)
theorem args_fsum (a : Value) : argsOk "math.fsum" ⟨[a], []⟩ := by unfold argsOk; kernel_rfl
theorem plain_fsum_loop : plainId "math.fsum.loop" = true := by decide +kernel
theorem entry_fsum_loop : entryFor table "math.fsum.loop" = some Builtin.«math.fsum.loop» := entryFor_of_fast (by kernel_rfl)
end F

section
variable {prog : Program} {w : World} {A : Around} {E : Value → Shared → Prop} {s : Shared}

theorem realArg_num {v : Value} {u : Int} {Q : UInt64 → Shared → Prop} (hA : A.handled = none) (hv : NumV v u) (h : ∀ x tk, Ex x u → s.toks ≤ tk → Q x { s with toks := tk }) :
    wpAny (model prog w) A (Builtin.Math.realArg v) Q E s := by
  cases hv with
  | int t e hf => subst e; exact realArg_int hA (fun o => absurd o (not_over hf)) fun _ => h _ _ (Ex.ofInt hf) (Nat.le_succ _)
  | float t hx =>
    show wpAny _ A (pure _ >>= _) _ _ s
    exact wpAny_bind (wpAny_pure (wpAny_pure (h _ s.toks hx (Nat.le_refl _))))

def unb1 (v : Value) : UInt64 := match v with | .int i _ => i.toNat.toUInt64 | _ => 0
theorem bits_back (l : List UInt64) : (((some (l.map fun x => rawInt (x.toNat : Int)).toArray).getD #[]).toList).map unb1 = l := by
  show (l.map fun x => rawInt (x.toNat : Int)).map unb1 = l
  induction l with
  | nil => rfl
  | cons a r ih =>
    simp only [List.map_cons]
    rw [ih]
    congr 1
    show ((a.toNat : Int)).toNat.toUInt64 = a
    rw [Int.toNat_natCast]
    exact UInt64.ofNat_toNat

def tupObj (l : List Value) : Obj := { cls := .type "tuple", data := .seq l.toArray }
def bitsObj (ps : List UInt64) : Obj := tupObj (ps.map fun x => rawInt (x.toNat : Int))

theorem newTuple_ {M : Model} {A : Around} {E : Value → Shared → Prop} {s : Shared} {vs : List Value} {Q : Value → Shared → Prop} (hsz : vs.length ≤ sizeLine) (h : Q (.ref s.heap.objs.size) { s with heap := s.heap.push (tupObj vs) }) :
    wpAny M A (newTuple vs) Q E s := wpAny_newObj_type h (by show vs.toArray.size ≤ _; rw [List.size_toArray]; exact hsz)

variable {I : Addr} {fp wr : List Addr} {G : Array GenState → Array GenState → Prop} {n : Nat} {P : Nat → Value → Prop} {St : Nat → Shared → Prop} {R : Result → Shared → Prop}

theorem codeAny_fsum_loop (hA : A.handled = none) (W : WalksS prog w A.in1 I fp wr G n P St) (val : Nat → Int) (hval : ∀ i v, P i v → NumV v (val i)) (hfit : ∀ j, j ≤ n → Fits (preSum val j)) :
    ∀ (k i : Nat) (s : Shared) (T T2 : Addr) (ps : List UInt64), n - i = k → i ≤ n → St i s → T ∉ fp → T2 ∉ fp → (∀ b ∈ fp, b < T2) →
    s.heap.get? T = some (bitsObj ps) → s.heap.get? T2 = some (bitsObj [Float64.zero false, Float64.zero false]) → FS ps (preSum val i) →
    (∀ s' r t', Moved wr G s s' → Ex r (preSum val n) → R (.ok (.ret (.float r t'))) s') →
    codeAny (model prog w) A (.builtin "math.fsum.loop" ⟨[.ref I, .ref T, .ref T2], []⟩) R s := by
  intro k
  induction k with
  | zero =>
    intro i s T T2 ps hk hi hst hTf hT2f hfp hT hT2 hps hR
    have hin : i = n := by omega
    subst hin
    refine codeAny_builtin F.entry_fsum_loop ?_
    rw [Around.under_plainId F.plain_fsum_loop _]
    unfold Builtin.«math.fsum.loop»
    show wpAny _ A.in1 ((seqItems? (.ref T) >>= fun o => pure ((o.getD #[]).toList.map unb1)) >>= _) _ _ s
    refine wpAny_bind (wpAny_bind (wpAny_seqItems hT rfl (wpAny_pure ?_)))
    show wpAny _ A.in1 ((seqItems? (.ref T2) >>= fun o => pure ((o.getD #[]).toList.map unb1)) >>= _) _ _ s
    refine wpAny_bind (wpAny_bind (wpAny_seqItems hT2 rfl (wpAny_pure ?_)))
    rw [bits_back ps, bits_back]
    refine wpAny_bind (W.done s _ _ hst fun s' hm => ?_)
    simp only []
    rw [show Float64.isZero (Float64.zero false) = true by rw [(Ex.zero false).notZero]; rfl]
    simp only [Bool.not_true, Bool.false_eq_true, if_false]
    exact wpAny_bind (wpAny_mkFloat (wpAny_pure (hR _ _ _ (hm.then_heap (h' := s'.heap) (Nat.le_succ _) fun _ _ _ e => e) (fsum_end hps))))
  | succ k ih =>
    intro i s T T2 ps hk hi hst hTf hT2f hfp hT hT2 hps hR
    have hlt : i < n := by omega
    refine codeAny_builtin F.entry_fsum_loop ?_
    rw [Around.under_plainId F.plain_fsum_loop _]
    unfold Builtin.«math.fsum.loop»
    show wpAny _ A.in1 ((seqItems? (.ref T) >>= fun o => pure ((o.getD #[]).toList.map unb1)) >>= _) _ _ s
    refine wpAny_bind (wpAny_bind (wpAny_seqItems hT rfl (wpAny_pure ?_)))
    show wpAny _ A.in1 ((seqItems? (.ref T2) >>= fun o => pure ((o.getD #[]).toList.map unb1)) >>= _) _ _ s
    refine wpAny_bind (wpAny_bind (wpAny_seqItems hT2 rfl (wpAny_pure ?_)))
    rw [bits_back ps, bits_back]
    refine wpAny_bind (W.item i s _ _ hlt hst fun v s' hP hst' hm => ?_)
    simp only []
    have hv := hval i v hP
    refine wpAny_bind (wpAny_holding (realArg_num hA hv fun x tk hx htk => ?_))
    obtain ⟨hfin, hFS⟩ := fsum_step hps hx (hfit (i + 1) hlt)
    generalize Float64.fsumAdd ps x = q at hfin hFS ⊢
    obtain ⟨low, top⟩ := q
    simp only [] at hfin hFS ⊢
    rw [hfin]
    simp only [if_true]
    generalize (if Float64.isZero top = true then low else low ++ [top]) = ps' at hFS ⊢
    have hkeepT : ∀ b, b ∉ fp → ∀ o, s.heap.get? b = some o → s'.heap.get? b = some o := fun b hb o e => hm.heap b o (fun h => hb (W.sub _ h)) e
    have hT2' := hkeepT T2 hT2f _ hT2
    have hsz : ∀ b ∈ fp, b < s'.heap.objs.size := fun b hb => Nat.lt_trans (hfp b hb) (Heap.lt_size hT2')
    have hps' : ps'.length ≤ 1 := by
      rcases hFS with ⟨rfl, _⟩ | ⟨p, rfl, _⟩
      · exact Nat.zero_le _
      · exact Nat.le_refl _
    refine wpAny_bind (newTuple_ (vs := ps'.map fun x => rawInt (x.toNat : Int)) (by rw [List.length_map, PySem.sizeLine_eq]; omega) ?_)
    refine wpAny_pure ⟨plainId_quiet F.plain_fsum_loop _, ih (i + 1) _ _ _ ps' (by omega) hlt (W.frame _ s' _ _ hst' htk fun b hb o e => Heap.get?_push_of_some _ e) (fun h => Nat.lt_irrefl _ (hsz _ h)) hT2f hfp (Heap.get?_push_size _ rfl) (Heap.get?_push_of_some _ (hkeepT T2 hT2f _ hT2)) hFS fun s'' r t' hm' hr => hR s'' r t' ?_ hr⟩
    · exact Moved.trans W.gtrans (hm.then_heap htk fun b o _ e => Heap.get?_push_of_some _ e) hm'

theorem call_fsum {x : Value} {Q : Value → Shared → Prop} (hA : A.handled = none)
    (h : wpAny (model prog w) A.in1 (pyIter x) (fun it s₂ => ∃ I fp wr G n P St val, it = .ref I ∧ WalksS prog w A.in1 I fp wr G n P St ∧ St 0 s₂ ∧ (∀ b ∈ fp, b < s₂.heap.objs.size) ∧
      (∀ i v, P i v → NumV v (val i)) ∧ (∀ j, j ≤ n → Fits (preSum val j)) ∧
      ∀ s' r t', Moved wr G s₂ s' → Ex r (preSum val n) → Q (.float r t') s') E s) :
    wpAny (model prog w) A (call (.builtin "math.fsum") [x]) Q E s := by
  refine call_function_tree F.kind_fsum F.plain_fsum F.entry_fsum (F.args_fsum _) ?_
  unfold Builtin.«math.fsum»
  refine wpAny_bind (m := Builtin.Math.mathOne "fsum" _) (wpAny_pure ?_)
  refine wpAny_bind (wpAny_mono h (fun it s₂ h₂ => ?_) fun _ _ e => e)
  obtain ⟨I, fp, wr, G, n, P, St, val, rfl, W, hst, hfp, hval, hfit, hQ⟩ := h₂
  refine wpAny_bind (newTuple_ (vs := ([] : List UInt64).map fun x => rawInt (x.toNat : Int)) (by rw [PySem.sizeLine_eq]; simp) ?_)
  refine wpAny_bind (newTuple_ (vs := [Float64.zero false, Float64.zero false].map fun x => rawInt (x.toNat : Int)) (by rw [PySem.sizeLine_eq]; simp) ?_)
  have hs2 : ∀ b ∈ fp, b < s₂.heap.objs.size := hfp
  refine wpAny_pure ⟨plainId_quiet F.plain_fsum_loop _, codeAny_fsum_loop hA W val hval hfit n 0 _ _ _ [] rfl (Nat.zero_le _)
    (W.frame 0 s₂ _ s₂.toks hst (Nat.le_refl _) fun b _ o e => Heap.get?_push_of_some _ (Heap.get?_push_of_some _ e)) (fun hm => Nat.lt_irrefl _ (hfp _ hm)) (fun hm => ?_) (fun b hb => ?_)
    (Heap.get?_push_of_some _ (Heap.get?_push_size _ rfl)) (Heap.get?_push_size _ rfl) (.inl ⟨rfl, rfl⟩) fun s' r t' hm hr => hQ s' r t' ?_ hr⟩
  · have := hfp _ hm
    rw [Heap.size_push] at this
    exact absurd this (Nat.not_lt.mpr (Nat.le_succ _))
  · have := hfp _ hb
    show b < (s₂.heap.push _).objs.size
    rw [Heap.size_push]; exact Nat.lt_succ_of_lt this
  · exact ⟨fun b o hb e => hm.heap b o hb (Heap.get?_push_of_some _ (Heap.get?_push_of_some _ e)), hm.gens, hm.drawn, hm.os, hm.toks⟩
end
end Mine
end

section
namespace Mine
open PySem PySem.W PySem.Calls PyProof.Rows PySem.Flt
open Sem (wp)
set_option maxRecDepth 100000

namespace F
theorem kind_sumprod : builtinKind "math.sumprod" = none := by decide +kernel
theorem plain_sumprod : plainId "math.sumprod" = true := by decide +kernel
theorem entry_sumprod : entryFor table "math.sumprod" = some Builtin.«math.sumprod» := entryFor_of_fast (by kernel_rfl)
theorem args_sumprod (a b : Value) : argsOk "math.sumprod" ⟨[a, b], []⟩ := by unfold argsOk; kernel_rfl
theorem plain_sumprod_loop : plainId "math.sumprod.loop" = true := by decide +kernel
theorem entry_sumprod_loop : entryFor table "math.sumprod.loop" = some Builtin.«math.sumprod.loop» := entryFor_of_fast (by kernel_rfl)
end F

def isF (v : Value) : Bool := match v with | .float .. => true | _ => false

section
variable {prog : Program} {w : World} {A : Around} {E : Value → Shared → Prop} {s : Shared}
variable {I1 I2 : Addr} {fp1 wr1 fp2 wr2 : List Addr} {G1 G2 Gd : Array GenState → Array GenState → Prop} {n : Nat} {P1 P2 : Nat → Value → Prop} {St1 St2 : Nat → Shared → Prop} {R : Result → Shared → Prop}

structure Two (prog : Program) (w : World) (A : Around) (I1 I2 : Addr) (fp1 wr1 fp2 wr2 : List Addr) (G1 G2 Gd : Array GenState → Array GenState → Prop) (n : Nat) (P1 P2 : Nat → Value → Prop) (St1 St2 : Nat → Shared → Prop) : Prop where
  W1 : WalksS prog w A I1 fp1 wr1 G1 n P1 St1
  W2 : WalksS prog w A I2 fp2 wr2 G2 n P2 St2
  fr1 : ∀ i s s', St1 i s → Moved wr2 G2 s s' → St1 i s'
  fr2 : ∀ i s s', St2 i s → Moved wr1 G1 s s' → St2 i s'
  g1 : ∀ a b, G1 a b → Gd a b
  g2 : ∀ a b, G2 a b → Gd a b
  grefl : ∀ a, Gd a a
  gtrans : ∀ a b c, Gd a b → Gd b c → Gd a c

theorem Two.m1 {s s' : Shared} (W : Two prog w A I1 I2 fp1 wr1 fp2 wr2 G1 G2 Gd n P1 P2 St1 St2) (m : Moved wr1 G1 s s') : Moved (wr1 ++ wr2) Gd s s' :=
  ⟨fun b o hb e => m.heap b o (fun h => hb (List.mem_append_left _ h)) e, W.g1 _ _ m.gens, m.drawn, m.os, m.toks⟩
theorem Two.m2 {s s' : Shared} (W : Two prog w A I1 I2 fp1 wr1 fp2 wr2 G1 G2 Gd n P1 P2 St1 St2) (m : Moved wr2 G2 s s') : Moved (wr1 ++ wr2) Gd s s' :=
  ⟨fun b o hb e => m.heap b o (fun h => hb (List.mem_append_right _ h)) e, W.g2 _ _ m.gens, m.drawn, m.os, m.toks⟩

def asF (v : Value) : Option UInt64 := match v with
  | .float x _ => some x
  | .int i _ => if Float64.isInf (Float64.ofInt i) then none else some (Float64.ofInt i)
  | .bool b => some (Float64.ofInt (if b then 1 else 0))
  | _ => none
theorem asF_num {v : Value} {u : Int} (hv : NumV v u) : ∃ x, Ex x u ∧ asF v = some x := by
  cases hv with
  | int t e hf =>
    subst e
    refine ⟨_, Ex.ofInt hf, ?_⟩
    show (if _ then _ else _) = _
    rw [if_neg (by rw [(Ex.ofInt hf).notInf]; exact Bool.false_ne_true)]
  | float t hx => exact ⟨_, hx, rfl⟩
theorem nat_back (x : UInt64) : ((x.toNat : Int)).toNat.toUInt64 = x := by rw [Int.toNat_natCast]; exact UInt64.ofNat_toNat

theorem codeAny_sumprod_flt (W : Two prog w A.in1 I1 I2 fp1 wr1 fp2 wr2 G1 G2 Gd n P1 P2 St1 St2) (v1 v2 pr : Nat → Int)
    (hval : ∀ i a b, P1 i a → P2 i b → NumV a (v1 i) ∧ NumV b (v2 i) ∧ (isF a || isF b) = true) (hpr : ∀ i, i < n → v1 i * v2 i = pr i * 2 ^ 1074 ∧ Fits (pr i)) (hfit : ∀ j, j ≤ n → Fits (preSum pr j)) (hn : 0 < n) :
    ∀ (k i : Nat) (s : Shared) (T T0 : Addr) (t0 t1 : Tok) (hi lo ti : UInt64) (ob : Obj) (used : Bool), n - i = k → i ≤ n → used = decide (0 < i) → St1 i s → St2 i s → T ∉ fp1 → T ∉ fp2 → T0 ∉ fp1 → T0 ∉ fp2 → (∀ b ∈ fp1, b < T0) → (∀ b ∈ fp2, b < T0) →
    s.heap.get? T = some (bitsObj [hi, lo, ti]) → s.heap.get? T0 = some ob → TL (hi, lo, ti) (preSum pr i) →
    (∀ s' r t', Moved (wr1 ++ wr2) Gd s s' → Ex r (preSum pr n) → R (.ok (.ret (.float r t'))) s') →
    codeAny (model prog w) A (.builtin "math.sumprod.loop" ⟨[.ref I1, .ref I2, .int 0 t0, .bool (!used), .int 0 t1, .bool false, .bool true, .ref T, .bool used], []⟩) R s := by
  intro k
  induction k with
  | zero =>
    intro i s T T0 t0 t1 hi lo ti ob used hk hin hu hst1 hst2 hT1 hT2 hT01 hT02 hb1 hb2 hT hT0 htl hR
    have hin : i = n := by omega
    subst hin
    have hu' : used = true := by rw [hu]; simp [hn]
    subst hu'
    refine codeAny_builtin F.entry_sumprod_loop ?_
    rw [Around.under_plainId F.plain_sumprod_loop _]
    unfold Builtin.«math.sumprod.loop»
    refine wpAny_bind (wpAny_seqItems hT rfl ?_)
    show wpAny _ A.in1 (pyNext (.ref I1) >>= _) _ _ s
    refine wpAny_bind (W.W1.done s _ _ hst1 fun s1 hm1 => ?_)
    refine wpAny_bind (wpAny_holding (W.W2.done s1 _ _ (W.fr2 _ _ _ hst2 hm1) fun s2 hm2 => ?_))
    show wpAny _ A.in1 (rule "math.sumprod.leaves-floats" >>= _) _ _ s2
    refine wpAny_bind (wpAny_rule ?_)
    show wpAny _ A.in1 (mkFloat (Builtin.Math.tlToFloat (((hi.toNat : Int)).toNat.toUInt64, ((lo.toNat : Int)).toNat.toUInt64, ((ti.toNat : Int)).toNat.toUInt64)) >>= _) _ _ s2
    rw [nat_back, nat_back, nat_back]
    refine wpAny_bind (wpAny_mkFloat ?_)
    refine wpAny_bind (wpAny_holding (add_if_fits (by decide) ?_))
    refine wpAny_pure (hR _ _ _ (((W.m1 hm1).trans W.gtrans (W.m2 hm2)).then_heap (h' := s2.heap) (show s2.toks ≤ s2.toks + 1 + 1 by omega) fun _ _ _ e => e) ?_)
    have z0 : Fits ((0:Int) * 2 ^ 1074) := by rw [Int.zero_mul]; exact Fits.zero
    have z : Ex (Float64.ofInt 0) 0 := (Ex.ofInt z0).to (by rw [Int.zero_mul])
    exact (z.add htl.float (by rw [Int.zero_add]; exact htl.float.fits)).to (by rw [Int.zero_add])
  | succ k ih =>
    intro i s T T0 t0 t1 hi lo ti ob used hk hin hu hst1 hst2 hT1 hT2 hT01 hT02 hb1 hb2 hT hT0 htl hR
    have hlt : i < n := by omega
    refine codeAny_builtin F.entry_sumprod_loop ?_
    rw [Around.under_plainId F.plain_sumprod_loop _]
    unfold Builtin.«math.sumprod.loop»
    refine wpAny_bind (wpAny_seqItems hT rfl ?_)
    show wpAny _ A.in1 (pyNext (.ref I1) >>= _) _ _ s
    refine wpAny_bind (W.W1.item i s _ _ hlt hst1 fun va s1 hPa hst1' hm1 => ?_)
    refine wpAny_bind (wpAny_holding (W.W2.item i s1 _ _ hlt (W.fr2 _ _ _ hst2 hm1) fun vb s2 hPb hst2' hm2 => ?_))
    have hst1'' := W.fr1 _ _ _ hst1' hm2
    obtain ⟨na, nb, hf⟩ := hval i va vb hPa hPb
    obtain ⟨xa, hxa, ea⟩ := asF_num na
    obtain ⟨xb, hxb, eb⟩ := asF_num nb
    obtain ⟨hp1, hp2⟩ := hpr i hlt
    have htl' : TL (Builtin.Math.tlFma xa xb (hi, lo, ti)) (preSum pr (i + 1)) := htl.fma hxa hxb hp1 hp2 (hfit (i + 1) hlt)
    have k0 : ∀ b, b ∉ fp1 → b ∉ fp2 → ∀ o, s.heap.get? b = some o → s2.heap.get? b = some o := fun b h1 h2 o e => hm2.heap b o (fun h => h2 (W.W2.sub _ h)) (hm1.heap b o (fun h => h1 (W.W1.sub _ h)) e)
    have hT0' := k0 T0 hT01 hT02 _ hT0
    have f1 : s2.heap.objs.size ∉ fp1 := fun h => Nat.lt_irrefl _ (Nat.lt_trans (hb1 _ h) (Heap.lt_size hT0'))
    have f2 : s2.heap.objs.size ∉ fp2 := fun h => Nat.lt_irrefl _ (Nat.lt_trans (hb2 _ h) (Heap.lt_size hT0'))
    have tail : ∀ J J' : Sem Fin, wpAny (model prog w) A.in1 (match (asF va, asF vb) with
        | (some x, some y) => if Float64.isFinite (Builtin.Math.tlFma x y (((hi.toNat : Int)).toNat.toUInt64, ((lo.toNat : Int)).toNat.toUInt64, ((ti.toNat : Int)).toNat.toUInt64)).1 = true then
            (newTuple [rawInt ((Builtin.Math.tlFma x y (((hi.toNat : Int)).toNat.toUInt64, ((lo.toNat : Int)).toNat.toUInt64, ((ti.toNat : Int)).toNat.toUInt64)).1.toNat : Int), rawInt ((Builtin.Math.tlFma x y (((hi.toNat : Int)).toNat.toUInt64, ((lo.toNat : Int)).toNat.toUInt64, ((ti.toNat : Int)).toNat.toUInt64)).2.1.toNat : Int), rawInt ((Builtin.Math.tlFma x y (((hi.toNat : Int)).toNat.toUInt64, ((lo.toNat : Int)).toNat.toUInt64, ((ti.toNat : Int)).toNat.toUInt64)).2.2.toNat : Int)] >>= fun t =>
              again (.builtin "math.sumprod.loop" ⟨[.ref I1, .ref I2, .int 0 t0, .bool false, rawInt 0, .bool false, .bool true, t, .bool true], []⟩)) else J
        | _ => J')
        (fun fin s' => match fin with | .done f => R (.ok f) s' | .again c' => c'.quiet = true ∧ codeAny (model prog w) A c' R s') (fun e s' => R (.error e) s') s2 := by
      intro J J'
      rw [ea, eb]
      simp only [nat_back]
      generalize hq : Builtin.Math.tlFma xa xb (hi, lo, ti) = q at htl' ⊢
      obtain ⟨q1, q2, q3⟩ := q
      simp only []
      rw [htl'.1.fin]
      simp only [if_true]
      refine wpAny_bind (newTuple_ (by rw [PySem.sizeLine_eq]; simp) ?_)
      refine wpAny_pure ⟨plainId_quiet F.plain_sumprod_loop _, ?_⟩
      refine ih (i + 1) _ s2.heap.objs.size T0 t0 0 q1 q2 q3 ob true (by omega) hlt (by simp) (W.W1.frame _ s2 _ _ hst1'' (Nat.le_refl _) fun b _ o e => Heap.get?_push_of_some _ e) (W.W2.frame _ s2 _ _ hst2' (Nat.le_refl _) fun b _ o e => Heap.get?_push_of_some _ e)
        f1 f2 hT01 hT02 hb1 hb2 (Heap.get?_push_size _ rfl) (Heap.get?_push_of_some _ hT0') htl' fun s' r t' hm' hr => hR s' r t' ?_ hr
      exact Moved.trans W.gtrans (((W.m1 hm1).trans W.gtrans (W.m2 hm2)).then_heap (Nat.le_refl _) fun b o _ e => Heap.get?_push_of_some _ e) hm'
    cases used with
    | false =>
      cases na with
      | int t ea hfa =>
        cases nb with
        | int t' eb hfb => cases hf
        | float t' hxb =>
          show wpAny _ A.in1 (rule "math.sumprod.leaves-ints" >>= _) _ _ s2
          exact wpAny_bind (wpAny_rule (tail _ _))
      | float t hxa =>
        cases nb with
        | int t' eb hfb =>
          show wpAny _ A.in1 (rule "math.sumprod.leaves-ints" >>= _) _ _ s2
          exact wpAny_bind (wpAny_rule (tail _ _))
        | float t' hxb =>
          show wpAny _ A.in1 (rule "math.sumprod.leaves-ints" >>= _) _ _ s2
          exact wpAny_bind (wpAny_rule (tail _ (.unsupported "")))
    | true =>
      cases na with
      | int t ea hfa =>
        cases nb with
        | int t' eb hfb => cases hf
        | float t' hxb => exact tail _ _
      | float t hxa =>
        cases nb with
        | int t' eb hfb => exact tail _ _
        | float t' hxb => exact tail _ (.unsupported "")

theorem call_sumprod_flt {x y : Value} {Q : Value → Shared → Prop}
    (h : wpAny (model prog w) A.in1 (pyIter x) (fun it1 s1 => wpAny (model prog w) A.in1 (pyIter y) (fun it2 s2 => ∃ (I1 I2 : Addr) (fp1 wr1 fp2 wr2 : List Addr) (G1 G2 Gd : Array GenState → Array GenState → Prop) (n : Nat) (P1 P2 : Nat → Value → Prop) (St1 St2 : Nat → Shared → Prop) (v1 v2 pr : Nat → Int), it1 = .ref I1 ∧ it2 = .ref I2 ∧
      Two prog w A.in1 I1 I2 fp1 wr1 fp2 wr2 G1 G2 Gd n P1 P2 St1 St2 ∧ St1 0 s2 ∧ St2 0 s2 ∧ (∀ b ∈ fp1, b < s2.heap.objs.size) ∧ (∀ b ∈ fp2, b < s2.heap.objs.size) ∧
      (∀ i a b, P1 i a → P2 i b → NumV a (v1 i) ∧ NumV b (v2 i) ∧ (isF a || isF b) = true) ∧ (∀ i, i < n → v1 i * v2 i = pr i * 2 ^ 1074 ∧ Fits (pr i)) ∧ (∀ j, j ≤ n → Fits (preSum pr j)) ∧ 0 < n ∧
      ∀ s' r t', Moved (wr1 ++ wr2) Gd s2 s' → Ex r (preSum pr n) → Q (.float r t') s') E s1) E s) :
    wpAny (model prog w) A (call (.builtin "math.sumprod") [x, y]) Q E s := by
  refine call_function_tree F.kind_sumprod F.plain_sumprod F.entry_sumprod (F.args_sumprod _ _) ?_
  unfold Builtin.«math.sumprod»
  refine wpAny_bind (m := Builtin.Math.mathSome "sumprod" 2 2 _) (wpAny_pure ?_)
  refine wpAny_bind (wpAny_mono h (fun it1 s1 h1 => ?_) fun _ _ e => e)
  refine wpAny_bind (wpAny_holding (wpAny_mono h1 (fun it2 s2 h2 => ?_) fun _ _ e => e))
  obtain ⟨I1, I2, fp1, wr1, fp2, wr2, G1, G2, Gd, n, P1, P2, St1, St2, v1, v2, pr, rfl, rfl, W, hst1, hst2, hb1, hb2, hval, hpr, hfit, hn, hQ⟩ := h2
  refine wpAny_bind (wpAny_mkInt ?_)
  refine wpAny_bind (newTuple_ (vs := [Float64.zero false, Float64.zero false, Float64.zero false].map fun x => rawInt (x.toNat : Int)) (by rw [PySem.sizeLine_eq]; simp) ?_)
  have n1 : s2.heap.objs.size ∉ fp1 := fun h => Nat.lt_irrefl _ (hb1 _ h)
  have n2 : s2.heap.objs.size ∉ fp2 := fun h => Nat.lt_irrefl _ (hb2 _ h)
  refine wpAny_pure ⟨plainId_quiet F.plain_sumprod_loop _, codeAny_sumprod_flt W v1 v2 pr hval hpr hfit hn n 0 _ s2.heap.objs.size s2.heap.objs.size s2.toks 0 _ _ _ _ false rfl (Nat.zero_le _) rfl
    (W.W1.frame 0 s2 _ (s2.toks + 1) hst1 (Nat.le_succ _) fun b _ o e => Heap.get?_push_of_some _ e) (W.W2.frame 0 s2 _ (s2.toks + 1) hst2 (Nat.le_succ _) fun b _ o e => Heap.get?_push_of_some _ e)
    n1 n2 n1 n2 hb1 hb2 (Heap.get?_push_size _ rfl) (Heap.get?_push_size _ rfl) ⟨Ex.zero _, Ex.zero _, Ex.zero _⟩ fun s' r t' hm hr => hQ s' r t' ?_ hr⟩
  exact ⟨fun b o hb e => hm.heap b o hb (Heap.get?_push_of_some _ e), hm.gens, hm.drawn, hm.os, Nat.le_trans (Nat.le_succ _) hm.toks⟩

/-! all ints -/
end
end Mine
end

section
namespace Mine
open PySem PySem.W PySem.Calls PyProof.Rows PySem.Flt
open Sem (wp)
set_option maxRecDepth 100000

/-- the list's values, times 2^1074 -/
def NumsAre (vs : List Value) (us : List Int) : Prop := vs.length = us.length ∧ ∀ (i : Nat) v, vs[i]? = some v → NumV v (us.getD i 0)
def AllF (vs : List Value) : Prop := ∀ v ∈ vs, isF v = true

theorem preSum_list (us : List Int) : ∀ k, preSum (fun i => us.getD i 0) k = (us.take k).sum
  | 0 => by simp [preSum]
  | k + 1 => by
    show preSum _ k + us.getD k 0 = _
    rw [preSum_list us k]
    rcases Nat.lt_or_ge k us.length with h | h
    · rw [List.take_succ_eq_append_getElem h, List.sum_append, List.getD_eq_getElem?_getD, List.getElem?_eq_getElem h]; simp
    · rw [List.take_of_length_le h, List.take_of_length_le (Nat.le_succ_of_le h), List.getD_eq_getElem?_getD, List.getElem?_eq_none h]; simp
theorem preSum_congr {f g : Nat → Int} : ∀ {k : Nat}, (∀ i, i < k → f i = g i) → preSum f k = preSum g k
  | 0, _ => rfl
  | k + 1, h => by
    show preSum f k + f k = preSum g k + g k
    rw [preSum_congr (fun i hi => h i (Nat.lt_succ_of_lt hi)), h k (Nat.lt_succ_self _)]

section
variable {prog : Program} {w : World} {A : Around} {E : Value → Shared → Prop} {s : Shared} {ax ay : Addr} {xs ys : List Value} {us ws : List Int} {Q : Value → Shared → Prop}

abbrev Kept (h h' : Heap) : Prop := ∀ b o, h.get? b = some o → h'.get? b = some o

theorem moved_kept {s s2 s' : Shared} {wr : List Addr} {G : Array GenState → Array GenState → Prop} (hm : Moved wr G s2 s') (hk : Kept s.heap s2.heap) (hwr : ∀ b ∈ wr, s.heap.get? b = none) : Kept s.heap s'.heap := fun b o e =>
  hm.heap b o (fun hb => by rw [hwr b hb] at e; cases e) (hk b o e)
theorem get_none {h : Heap} {b : Addr} (hb : h.objs.size ≤ b) : h.get? b = none := by
  cases e : h.get? b with
  | none => rfl
  | some o => exact absurd (Heap.lt_size e) (Nat.not_lt.mpr hb)

theorem push2 (h : Heap) (o o' : Obj) (hf : o'.isFreed = false) : ((h.push o).push o').get? (h.objs.size + 1) = some o' := by
  have := Heap.get?_push_size (h.push o) (o := o') hf
  rw [Heap.size_push] at this
  exact this
theorem moved_eq {s s' : Shared} {wr : List Addr} (hm : Moved wr (fun a b => b = a) s s') : s' = { s with heap := s'.heap, toks := s'.toks } := by
  obtain ⟨h', g', d', t', o'⟩ := s'
  obtain ⟨_, hg, hd, ho, _⟩ := hm
  simp only at hg hd ho
  rw [hg, hd, ho]

theorem fsum_list (hA : A.handled = none) (hl : s.heap.IsList ax xs.toArray) (hv : NumsAre xs us) (hfit : ∀ j, j ≤ us.length → Fits (us.take j).sum)
    (h : ∀ h' tk r t, Kept s.heap h' → s.toks ≤ tk → Ex r us.sum → Q (.float r t) { s with heap := h', toks := tk }) :
    wpAny (model prog w) A (call (.builtin "math.fsum") [.ref ax]) Q E s := by
  refine call_fsum hA (wpAny_pyIter_list hl ?_)
  have hlt : ax < s.heap.objs.size := by obtain ⟨_, e, _⟩ := hl; exact Heap.lt_size e
  refine ⟨s.heap.objs.size, [s.heap.objs.size, ax], [s.heap.objs.size], _, xs.toArray.size, _, _, fun i => us.getD i 0, rfl, (Walks.list (A := A.in1) hA _ ax (Nat.ne_of_lt hlt) xs.toArray).toS, ⟨⟨_, Heap.get?_push_size _ rfl, rfl, rfl⟩, hl.push _⟩, ?_, ?_, ?_, ?_⟩
  · intro b hb
    show b < (s.heap.push _).objs.size
    rw [Heap.size_push]
    rcases List.mem_cons.mp hb with rfl | hb
    · exact Nat.lt_succ_self _
    · rcases List.mem_cons.mp hb with rfl | hb
      · exact Nat.lt_succ_of_lt hlt
      · cases hb
  · intro i v hi
    exact hv.2 i v (by simpa using hi)
  · intro j hj
    rw [preSum_list]
    exact hfit j (by rw [← hv.1]; simpa using hj)
  · intro s' r t hm hr
    rw [preSum_list, List.take_of_length_le (by simp [hv.1])] at hr
    rw [moved_eq hm]
    refine h s'.heap s'.toks r t (moved_kept hm (fun b o e => Heap.get?_push_of_some _ e) fun b hb => ?_) hm.toks hr
    rcases List.mem_cons.mp hb with rfl | hb
    · exact get_none (Nat.le_refl _)
    · cases hb

theorem two_lists (hA : A.handled = none) {I1 I2 : Addr} (h1 : ax ≠ I1) (h2 : ay ≠ I2) (h12 : I1 ≠ I2) (h12x : ax ≠ I2) (h21y : ay ≠ I1) (xa ya : Array Value) (e : xa.size = ya.size) :
    Two prog w A I1 I2 [I1, ax] [I1] [I2, ay] [I2] (fun a b => b = a) (fun a b => b = a) (fun a b => b = a) xa.size (fun i v => xa[i]? = some v) (fun i v => ya[i]? = some v)
      (fun i s => s.heap.IsListIter I1 ax i ∧ s.heap.IsList ax xa) (fun i s => s.heap.IsListIter I2 ay i ∧ s.heap.IsList ay ya) where
  W1 := (Walks.list hA I1 ax h1 xa).toS
  W2 := by rw [e]; exact (Walks.list hA I2 ay h2 ya).toS
  fr1 := fun i s s' st hm => ⟨st.1.at fun o e => hm.heap _ o (by simp [h12]) e, st.2.at fun o e => hm.heap _ o (by simp [h12x]) e⟩
  fr2 := fun i s s' st hm => ⟨st.1.at fun o e => hm.heap _ o (by simp [Ne.symm h12]) e, st.2.at fun o e => hm.heap _ o (by simp [h21y]) e⟩
  g1 := fun _ _ e => e
  g2 := fun _ _ e => e
  grefl := fun _ => rfl
  gtrans := fun _ _ _ a b => b.trans a

theorem sumprod_lists_pre (hl : s.heap.IsList ax xs.toArray) (hl2 : s.heap.IsList ay ys.toArray) {K : Addr → Addr → Shared → Prop}
    (h : ∀ I1 I2 s2, I1 = s.heap.objs.size → I2 = s.heap.objs.size + 1 → s2 = { s with heap := (s.heap.push { cls := .type "list_iterator", data := .fields #[.ref ax, .int 0 0] }).push { cls := .type "list_iterator", data := .fields #[.ref ay, .int 0 0] } } → K I1 I2 s2) :
    wpAny (model prog w) A.in1 (pyIter (.ref ax)) (fun it1 s1 => wpAny (model prog w) A.in1 (pyIter (.ref ay)) (fun it2 s2 => ∃ I1 I2, it1 = .ref I1 ∧ it2 = .ref I2 ∧ K I1 I2 s2) E s1) E s := by
  refine wpAny_pyIter_list hl (wpAny_pyIter_list (hl2.push _) ?_)
  refine ⟨_, _, rfl, rfl, h _ _ _ rfl ?_ rfl⟩
  show (s.heap.push _).objs.size = _
  rw [Heap.size_push]

theorem sumprod_flt_lists (hA : A.handled = none) (hl : s.heap.IsList ax xs.toArray) (hl2 : s.heap.IsList ay ys.toArray) (hv : NumsAre xs us) (hv2 : NumsAre ys ws) (hlen : xs.length = ys.length) (hn : 0 < xs.length) (hf : AllF xs ∨ AllF ys)
    (pr : Nat → Int) (hpr : ∀ i, i < xs.length → us.getD i 0 * ws.getD i 0 = pr i * 2 ^ 1074 ∧ Fits (pr i)) (hfit : ∀ j, j ≤ xs.length → Fits (preSum pr j))
    (h : ∀ h' tk r t, Kept s.heap h' → s.toks ≤ tk → Ex r (preSum pr xs.length) → Q (.float r t) { s with heap := h', toks := tk }) :
    wpAny (model prog w) A (call (.builtin "math.sumprod") [.ref ax, .ref ay]) Q E s := by
  refine call_sumprod_flt (wpAny_mono (sumprod_lists_pre hl hl2 (K := fun I1 I2 s2 => ∃ (fp1 wr1 fp2 wr2 : List Addr) (G1 G2 Gd : Array GenState → Array GenState → Prop) (n : Nat) (P1 P2 : Nat → Value → Prop) (St1 St2 : Nat → Shared → Prop) (v1 v2 pr : Nat → Int),
      Two prog w A.in1 I1 I2 fp1 wr1 fp2 wr2 G1 G2 Gd n P1 P2 St1 St2 ∧ St1 0 s2 ∧ St2 0 s2 ∧ (∀ b ∈ fp1, b < s2.heap.objs.size) ∧ (∀ b ∈ fp2, b < s2.heap.objs.size) ∧
      (∀ i a b, P1 i a → P2 i b → NumV a (v1 i) ∧ NumV b (v2 i) ∧ (isF a || isF b) = true) ∧ (∀ i, i < n → v1 i * v2 i = pr i * 2 ^ 1074 ∧ Fits (pr i)) ∧ (∀ j, j ≤ n → Fits (preSum pr j)) ∧ 0 < n ∧
      ∀ s' r t', Moved (wr1 ++ wr2) Gd s2 s' → Ex r (preSum pr n) → Q (.float r t') s') ?_)
    (fun it1 s1 h1 => wpAny_mono h1 (fun it2 s2 h2 => by obtain ⟨I1, I2, e1, e2, fp1, wr1, fp2, wr2, G1, G2, Gd, n, P1, P2, St1, St2, v1, v2, pr, r⟩ := h2; exact ⟨I1, I2, fp1, wr1, fp2, wr2, G1, G2, Gd, n, P1, P2, St1, St2, v1, v2, pr, e1, e2, r⟩) fun _ _ e => e) fun _ _ e => e)
  rintro I1 I2 s2 rfl rfl rfl
  have hlt : ax < s.heap.objs.size := by obtain ⟨_, e, _⟩ := hl; exact Heap.lt_size e
  have hlt2 : ay < s.heap.objs.size := by obtain ⟨_, e, _⟩ := hl2; exact Heap.lt_size e
  have e1 : s.heap.objs.size ≠ s.heap.objs.size + 1 := Nat.ne_of_lt (Nat.lt_succ_self _)
  have hsz : xs.toArray.size = ys.toArray.size := by simpa using hlen
  refine ⟨_, _, _, _, _, _, _, _, _, _, _, _, fun i => us.getD i 0, fun i => ws.getD i 0, pr, two_lists (A := A.in1) hA (Nat.ne_of_lt hlt) (Nat.ne_of_lt (Nat.lt_succ_of_lt hlt2)) e1 (Nat.ne_of_lt (Nat.lt_succ_of_lt hlt)) (Nat.ne_of_lt hlt2) xs.toArray ys.toArray hsz, ?_, ?_, ?_, ?_, ?_, ?_, ?_, ?_, ?_⟩
  · exact ⟨⟨_, Heap.get?_push_of_some _ (Heap.get?_push_size _ rfl), rfl, rfl⟩, (hl.push _).push _⟩
  · exact ⟨⟨_, push2 _ _ _ rfl, rfl, rfl⟩, (hl2.push _).push _⟩
  · intro b hb
    show b < ((s.heap.push _).push _).objs.size
    rw [Heap.size_push, Heap.size_push]
    rcases List.mem_cons.mp hb with rfl | hb
    · exact Nat.lt_succ_of_lt (Nat.lt_succ_self _)
    · rcases List.mem_cons.mp hb with rfl | hb
      · exact Nat.lt_succ_of_lt (Nat.lt_succ_of_lt hlt)
      · cases hb
  · intro b hb
    show b < ((s.heap.push _).push _).objs.size
    rw [Heap.size_push, Heap.size_push]
    rcases List.mem_cons.mp hb with rfl | hb
    · exact Nat.lt_succ_self _
    · rcases List.mem_cons.mp hb with rfl | hb
      · exact Nat.lt_succ_of_lt (Nat.lt_succ_of_lt hlt2)
      · cases hb
  · intro i a b ha hb
    have ha' : xs[i]? = some a := by simpa using ha
    have hb' : ys[i]? = some b := by simpa using hb
    refine ⟨hv.2 i a ha', hv2.2 i b hb', ?_⟩
    rcases hf with hf | hf
    · rw [hf a (List.mem_of_getElem? ha')]; rfl
    · rw [hf b (List.mem_of_getElem? hb')]; simp
  · intro i hi; exact hpr i (by simpa using hi)
  · intro j hj; exact hfit j (by simpa using hj)
  · simpa using hn
  · intro s' r t hm hr
    rw [moved_eq hm]
    refine h s'.heap s'.toks r t (moved_kept hm (fun b o e => Heap.get?_push_of_some _ (Heap.get?_push_of_some _ e)) fun b hb => ?_) hm.toks (by simpa using hr)
    simp only [List.cons_append, List.nil_append] at hb
    rcases List.mem_cons.mp hb with rfl | hb
    · exact get_none (Nat.le_refl _)
    · rcases List.mem_cons.mp hb with rfl | hb
      · exact get_none (Nat.le_succ _)
      · cases hb

end
end Mine
end

section
namespace Mine
open PySem PySem.W PySem.Calls PyProof.Rows PySem.Flt
set_option maxRecDepth 100000
section
variable {prog : Program} {w : World} {A : Around} {E : Value → Shared → Prop} {s : Shared} {Q : Value → Shared → Prop} {v : Value} {S V : Int} {x y : UInt64} {tk tk' : Tok} {n : Int}

theorem not_inf {n : Int} (h : Fits (n * 2 ^ 1074)) : ¬ Float64.isInf (Float64.ofInt n) = true := by rw [(Ex.ofInt h).notInf]; exact Bool.false_ne_true
theorem num_add (hv : NumV v S) (hz : Ex x V) (hf : Fits (S + V)) (h : ∀ r t, Ex r (S + V) → Q (.float r t) { s with toks := s.toks + 1 }) : wpAny (model prog w) A (binaryOp .Add v (.float x tk)) Q E s := by
  cases hv with
  | int t e hf' => subst e; exact AutoFloatOps.add_if_1 (not_inf hf') (h _ _ ((Ex.ofInt hf').add hz hf))
  | float t hx => exact AutoFloatOps.add_0 (h _ _ (hx.add hz hf))
theorem num_add_zero (hv : NumV v S) (hz : Ex x 0) (h : ∀ r t, Ex r S → Q (.float r t) { s with toks := s.toks + 1 }) : wpAny (model prog w) A (binaryOp .Add v (.float x tk)) Q E s :=
  num_add hv hz (by rw [Int.add_zero]; cases hv with
    | int t e hf => exact hf
    | float t hx => exact hx.fits) fun r t hr => h r t (hr.to (Int.add_zero _))
theorem num_sub (hv : NumV v S) (hz : Ex x V) (hf : Fits (S - V)) (h : ∀ r t, Ex r (S - V) → Q (.float r t) { s with toks := s.toks + 1 }) : wpAny (model prog w) A (binaryOp .Sub v (.float x tk)) Q E s := by
  cases hv with
  | int t e hf' => subst e; exact AutoFloatOps.sub_if_1 (not_inf hf') (h _ _ ((Ex.ofInt hf').sub hz hf))
  | float t hx => exact AutoFloatOps.sub_0 (h _ _ (hx.sub hz hf))
theorem not_zero {n : Int} (h : Fits (n * 2 ^ 1074)) (h0 : n ≠ 0) : ¬ Float64.isZero (Float64.ofInt n) = true := fun z => h0 ((isZero_ofInt n).mp z)
theorem num_div_zero (hA : A.handled = none) (hv : NumV v 0) (h : ∀ h' tk e, Heap.NewExc s.heap h' e "ZeroDivisionError" → E (.ref e) { s with heap := h', toks := tk }) : wpAny (model prog w) A (binaryOp .Div (.float x tk) v) Q E s := by
  cases hv with
  | int t e hf =>
    rename_i i
    have h0 : i = 0 := by
      rcases Int.mul_eq_zero.mp e.symm with h | h
      · exact h
      · exact absurd h (Int.ne_of_gt (Int.pow_pos (by decide)))
    subst h0
    exact truediv_fi hA (fun o => absurd o (not_over (n := 0) (by rw [Int.zero_mul]; exact Fits.zero))) (fun _ => h) (fun _ h0 => absurd rfl h0)
  | float t hy => exact truediv_float_or hA (fun _ => h) (fun h0 => absurd (by rw [hy.notZero]; rfl) h0)
/-- exact: a float by an int -/
theorem float_div_int (hx : Ex x S) (h0 : n ≠ 0) (hn : Fits (n * 2 ^ 1074)) (hV : S = V * n) (hf : Fits V) (h : ∀ r t, Ex r V → Q (.float r t) { s with toks := s.toks + 1 }) : wpAny (model prog w) A (binaryOp .Div (.float x tk) (.int n tk')) Q E s :=
  AutoFloatOps.truediv_fi_2 (not_inf hn) (not_zero hn h0) (h _ _ (hx.div (Ex.ofInt hn) (by
    intro z
    rcases Int.mul_eq_zero.mp z with h | h
    · exact h0 h
    · exact absurd h (Int.ne_of_gt (Int.pow_pos (by decide)))) (by rw [hV, Int.mul_assoc]) hf))
theorem float_mul (h : Q (.float (Float64.mul x y) s.toks) { s with toks := s.toks + 1 }) : wpAny (model prog w) A (binaryOp .Mult (.float x tk) (.float y tk')) Q E s := AutoFloatOps.mul_0 h
theorem float_sub (h : Q (.float (Float64.sub x y) s.toks) { s with toks := s.toks + 1 }) : wpAny (model prog w) A (binaryOp .Sub (.float x tk) (.float y tk')) Q E s := AutoFloatOps.sub_0 h
/-- int by int -/
theorem int_div_int {a b : Int} (hA : A.handled = none) (ha : a.natAbs < 2 ^ 1023) (hb : b ≠ 0) (h : ∀ r t, Quo r a b → Q (.float r t) { s with toks := s.toks + 1 }) : wpAny (model prog w) A (binaryOp .Div (.int a tk) (.int b tk')) Q E s :=
  div_ii_fits hA ha (fun h0 => absurd h0 hb) fun _ _ => h _ _ (quo_ofFrac hb)
theorem ex_lit0 : Ex (0 : UInt64) 0 := ⟨false, 0, -1074, decode_zero, by rw [Float64.val_eq decode_zero, Nat.zero_mul]; rfl⟩
/-- an exact quotient is a value -/
theorem Quo.ex {r : UInt64} {n d v : Int} (h : Quo r n d) (e : n * 2 ^ 1074 = v * d) (hf : Fits v) : Ex r v := by
  obtain ⟨hd, h0, h1⟩ := h
  by_cases hn : n = 0
  · refine (h0 hn).to ?_
    rw [hn, Int.zero_mul] at e
    rcases Int.mul_eq_zero.mp e.symm with h | h
    · exact h.symm
    · exact absurd h hd
  · obtain ⟨t, ht, hv⟩ := hf
    have e1 : n.natAbs * 2 ^ 1074 = d.natAbs * Float64.V t := by
      have := congrArg Int.natAbs e
      rw [Int.natAbs_mul, Int.natAbs_mul, Int.natAbs_pow] at this
      rw [hv, Nat.mul_comm d.natAbs]; exact this
    have := right_exact (h1 hn) (by omega) ht e1
    refine this.to ?_
    rw [hv]
    have hv0 : v ≠ 0 := fun z => by
      rw [z, Int.zero_mul] at e
      rcases Int.mul_eq_zero.mp e with h | h
      · exact hn h
      · exact absurd h (Int.ne_of_gt (Int.pow_pos (by decide)))
    have es := congrArg Int.sign e
    have hp : ((2 : Int) ^ 1074).sign = 1 := Int.sign_eq_one_of_pos (Int.pow_pos (by decide))
    rw [Int.sign_mul, Int.sign_mul, hp, Int.mul_one] at es
    have two : ∀ z : Int, z ≠ 0 → (z.sign = 1 ∧ decide (z < 0) = false) ∨ (z.sign = -1 ∧ decide (z < 0) = true) := fun z h => by
      rcases Int.lt_or_gt_of_ne h with a | a
      · exact .inr ⟨Int.sign_eq_neg_one_of_neg a, by simp; omega⟩
      · exact .inl ⟨Int.sign_eq_one_of_pos a, by simp; omega⟩
    have hs : (decide (n < 0) != decide (d < 0)) = decide (v < 0) := by
      rcases two n hn with ⟨a1, a2⟩ | ⟨a1, a2⟩ <;> rcases two d hd with ⟨b1, b2⟩ | ⟨b1, b2⟩ <;> rcases two v hv0 with ⟨c1, c2⟩ | ⟨c1, c2⟩ <;>
        rw [a1, b1, c1] at es <;> rw [a2, b2, c2] <;> first | rfl | (exfalso; revert es; decide)
    rw [hs]; exact sgn_of v
end
end Mine
end

section
open PySem PySem.W PySem.Calls PyProof.Rows
set_option maxRecDepth 100000
set_option maxHeartbeats 1000000
namespace Mine
theorem have_eq {α : Type} {x : Option α} {o : α} {P : Prop} (e : x = some o) (k : x = some o → P) : P := k e
abbrev lrObj (C dx : Addr) (v1 v2 : Value) : Obj := { cls := .ref C, dict := some dx, data := .seq #[v1, v2] }
/-- the new object that linear_regression gives back -/
def IsLR (h : Heap) (t : Addr) : Prop := ∃ dx u1 u2, h.get? t = some (lrObj 180 dx u1 u2)
theorem oi_args2 (a v1 v2 : Value) : argsOk "object.__init__" ⟨[a], [(Str.ofString "slope", v1), (Str.ofString "intercept", v2)]⟩ := by unfold argsOk; kernel_rfl
section
variable {w : World} {A : Around} {E : Value → Shared → Prop} {s : Shared} {h₀ : Heap} {L : Addr} {m : Str → Option Value} {news : List (Addr × Obj)}
theorem lr_made {h : Heap} : (Mine.hd.heap_39 w.params).In h → Looks (model PySem.Challenge.rw_kq0023_05.row.prog w) h (Bind.madeBy (.ref 180)) none := by
  k_fill
  intro X
  refine' have_eq (x := (Mine.hd.heap_39 w.params).lookup 180) ?e ?k
  case e => k_is
  intro hK
  have hC := X _ _ hK
  have hm : Looks (model PySem.Challenge.rw_kq0023_05.row.prog w) h (mroOf (.ref 180)) _ := ((Looks.ld (part := none) hC).andThen .now).andThen .now
  intro A Q E s k q
  unfold Bind.madeBy
  refine wpAny_bind (hm A _ E s k ?_)
  rw [List.forIn_cons]
  refine wpAny_bind (wpAny_bind (wpAny_bind (wpAny_bind (wpAny_loadPart (k _ _ hC) (wpAny_pure ?_)))))
  exact wpAny_pure (wpAny_pure (wpAny_pure q))
theorem best_tuple : Builtin.Slots.bestBase [.type "tuple"] = pure (.type "tuple") := by kernel_rfl
theorem lr_static {h : Heap} : (Mine.hd.heap_39 w.params).In h → Looks (model PySem.Challenge.rw_kq0023_05.row.prog w) h (Bind.staticBase (.ref 180)) (.type "tuple") := by
  k_fill
  intro X
  have hmade := lr_made X
  refine' have_eq (x := (Mine.hd.heap_39 w.params).lookup 180) ?e ?k
  case e => k_is
  intro hK
  have hC := X _ _ hK
  have hm : Looks (model PySem.Challenge.rw_kq0023_05.row.prog w) h (mroOf (.ref 180)) _ := ((Looks.ld (part := none) hC).andThen .now).andThen .now
  intro A Q E s k q
  unfold Bind.staticBase
  refine wpAny_bind (hm A _ E s k ?_)
  dsimp only
  rw [List.forIn_cons]
  refine wpAny_bind (wpAny_bind (wpAny_bind (hmade A _ E s k ?_)))
  repeat ((fail_if_success (with_reducible show wpAny _ _ (Builtin.Slots.bestBase _) _ _ _)); lk)
  have hm2 : Looks (model PySem.Challenge.rw_kq0023_05.row.prog w) h (Bind.madeBy (.type "tuple")) (some "tuple.__new__") := Looks.of_pure PySem.F.called_tuple.made
  have hC' := k _ _ hC
  refine wpAny_loadPart (k _ _ hC) ?_
  repeat ((fail_if_success (with_reducible show wpAny _ _ (Builtin.Slots.bestBase _) _ _ _)); lk)
  rw [best_tuple]
  refine wpAny_pure (wpAny_pure ?_)
  dsimp only
  rw [List.forIn_cons]
  refine wpAny_bind (wpAny_bind (hm2 A _ E s k ?_))
  exact wpAny_pure (wpAny_pure (wpAny_pure q))
theorem lr_make {v1 v2 : Value} {Q : Value → Shared → Prop} (F : Fr h₀ L s.heap m) (N : News h₀ L s.heap news)
  (h : wpAny (model PySem.Challenge.rw_kq0023_05.row.prog w) (A.under (.builtin "type.__call__" ⟨[.ref 180], [(Str.ofString "slope", v1), (Str.ofString "intercept", v2)]⟩)) (call (.ref 130) [.ref 180] [(Str.ofString "slope", v1), (Str.ofString "intercept", v2)])
    (fun v s' => ∃ t, v = .ref t ∧ IsLR s'.heap t ∧ (∀ b o, h₀.get? b = some o → s'.heap.get? b = some o) ∧ Q (.ref t) s') E { s with toks := s.toks + 1 }) :
  (Mine.hd.heap_39 w.params).In h₀ →
  wpAny (model PySem.Challenge.rw_kq0023_05.row.prog w) A (call (.ref 180) [] [(Str.ofString "slope", v1), (Str.ofString "intercept", v2)]) Q E s := by
  k_fill
  intro X₀
  have X := X₀.keeps F.keep
  have hmade := lr_made X
  have hcall : Looks (model PySem.Challenge.rw_kq0023_05.row.prog w) s.heap (specialOf (.ref 180) "__call__") (some (.builtin "type.__call__")) := looks_specialIn X (by k_is)
  have htyp : Looks (model PySem.Challenge.rw_kq0023_05.row.prog w) s.heap (isInstance (.ref 180) (.type "type")) true := looks_instIn X (by k_is)
  refine' have_eq (x := (Mine.hd.heap_39 w.params).lookup 180) ?e ?k
  case e => k_is
  intro hK
  have hC := X _ _ hK
  refine wpAny_call (codeAny_of_tree ?_)
  show wpAny _ _ (callAny (.ref 180) _) _ _ _
  obtain ⟨hp, g, d, tk, os⟩ := s
  refine nd_load hC ?_
  show wpAny _ _ (callAny.viaDunder (.ref 180) _) _ _ _
  unfold callAny.viaDunder
  refine wpAny_bind (hcall.at ?_)
  dsimp only
  rw [tc_bind]
  refine wpAny_bind (wpAny_pure (wpAny_bind (wpAny_pure ?_)))
  refine wpAny_pure (a := Fin.again (.call (.builtin "type.__call__") ⟨[.ref 180], _⟩)) (And.intro rfl ?_)
  refine codeAny_call_builtin_at (Code.quiet_builtin _ (by decide +kernel)) entry_typeCall (check_slot tc_kind tc_split htyp (tc_args _ _ _) ?_)
  unfold Builtin.«type.__call__»
  have hm : Looks (model PySem.Challenge.rw_kq0023_05.row.prog w) hp (mroOf (.ref 180)) _ := ((Looks.ld (part := none) hC).andThen .now).andThen .now
  repeat ((fail_if_success (with_reducible show wpAny _ _ (getAttr _ _ _) _ _ _)); lk)
  have F1 : Fr h₀ L (⟨hp, g, d, tk, os⟩ : Shared).heap m := F
  refine' cls_sm (rest := []) F1 X₀ ?k3 ?k4 ?k5 ?k6 ?k7 ?_
  case k3 => k_is
  case k4 => k_is
  case k5 => k_is
  case k6 => k_is
  case k7 => k_handed
  dsimp only
  refine wpAny_bind (wpAny_holding (wpAny_mono h ?_ fun _ _ x => x))
  rintro v s' ⟨t, rfl, ⟨dx, u1, u2, hx⟩, hk, q⟩
  have X' := X₀.keeps hk
  have t1 : Looks (model PySem.Challenge.rw_kq0023_05.row.prog w) s'.heap (typeOf (.ref t)) (.ref 180) := (Looks.ld hx).andThen .now
  have i1 : Looks (model PySem.Challenge.rw_kq0023_05.row.prog w) s'.heap (typeLookup (.ref 180) "__init__") (some (.builtin "object.__init__")) := looks_findIn X' (by k_is)
  have s1 : Looks (model PySem.Challenge.rw_kq0023_05.row.prog w) s'.heap (isSubtype (.ref 180) (.ref 180)) true := looks_subIn X' (by k_is)
  have s2 : Looks (model PySem.Challenge.rw_kq0023_05.row.prog w) s'.heap (isInstance (.ref t) (.type "object")) true := t1.andThen (looks_subIn X' (by k_is))
  have hmade' := lr_made X'
  obtain ⟨hp', g', d', tk', os'⟩ := s'
  have i2 : Looks (model PySem.Challenge.rw_kq0023_05.row.prog w) hp' (isInstance (.ref t) (.ref 180)) true := t1.andThen s1
  refine wpAny_bind (i2.here ?_)
  simp only [Bool.not_true, Bool.false_eq_true, if_false]
  refine wpAny_bind (wpAny_holding ?_)
  unfold callSpecial?
  have j1 : Looks (model PySem.Challenge.rw_kq0023_05.row.prog w) hp' (specialOf (.ref t) "__init__") (some (.builtin "object.__init__")) := t1.andThen i1
  refine wpAny_bind (j1.here ?_)
  dsimp only
  refine wpAny_holding ?_
  rw [oi_bind]
  refine wpAny_bind (wpAny_pure (wpAny_bind (wpAny_call ?_)))
  refine codeAny_call_builtin oi_plain entry_oi (@check_slot (model PySem.Challenge.rw_kq0023_05.row.prog w) _ _ _ "object.__init__" "object" "__init__" (.ref t) [] _ _ oi_kind oi_split s2 (oi_args2 (.ref t) v1 v2) ?_)
  unfold Builtin.«object.__init__»
  dsimp only
  simp only [List.isEmpty_nil, List.isEmpty_cons, Bool.not_true, Bool.not_false, Bool.or_true, if_true]
  refine wpAny_bind (t1.here ?_)
  refine wpAny_bind (i1.here ?_)
  refine wpAny_bind (hmade'.here ?_)
  simp only [bne_self_eq_false, Bool.false_eq_true, if_false]
  repeat lk
  exact q
theorem lr_new {p : Addr} {v1 v2 : Value} {c : Nat} {Q : Value → Shared → Prop} (F : Fr h₀ L s.heap m) (N : News h₀ L s.heap news) (hmem : (p, ({ cls := .type "tuple", data := .seq #[v1, v2] c } : Obj)) ∈ news)
  (h : ∀ t dx h' tk', Fr h₀ L h' m → News h₀ L h' ((t, lrObj 180 dx v1 v2) :: (dx, emptyDict) :: news) → (∀ b o, s.heap.get? b = some o → h'.get? b = some o) → (∀ p ∈ news, p.1 < dx) → dx < t → Q (.ref t) { s with heap := h', toks := tk' }) :
  (Mine.hd.heap_39 w.params).In h₀ →
  wpAny (model PySem.Challenge.rw_kq0023_05.row.prog w) A (call (.builtin "tuple.__new__") [.ref 180, .ref p]) Q E s := by
  k_fill
  intro X₀
  have hp := (N _ hmem).1
  have X := X₀.keeps F.keep
  have hmade := lr_made X
  have hstat := lr_static X
  have hsub : Looks (model PySem.Challenge.rw_kq0023_05.row.prog w) s.heap (isSubtype (.ref 180) (.type "tuple")) true := looks_subIn X (by k_is)
  have hini : Looks (model PySem.Challenge.rw_kq0023_05.row.prog w) s.heap (typeLookup (.ref 180) "__init__") (some (.builtin "object.__init__")) := looks_findIn X (by k_is)
  refine' have_eq (x := (Mine.hd.heap_39 w.params).lookup 180) ?e ?k
  case e => k_is
  intro hK
  have hC := X _ _ hK
  obtain ⟨hh, g, d, tk, os⟩ := s
  have hmt : Looks (model PySem.Challenge.rw_kq0023_05.row.prog w) hh (Bind.madeBy (.type "tuple")) (some "tuple.__new__") := Looks.of_pure PySem.F.called_tuple.made
  refine wpAny_call (codeAny_call_builtin_code (Code.quiet_builtin _ (by decide +kernel)) ?_)
  have e1 : builtinKind "tuple.__new__" = some .builtinFn := by decide +kernel
  have e2 : splitId "tuple.__new__" = some ("tuple", "__new__") := by decide +kernel
  simp only [checkBuiltinCall, e1, e2]
  repeat lk
  refine codeAny_builtin PySem.F.entry_tuple_new ?_
  unfold Builtin.«tuple.__new__»
  have hmh : Looks (model PySem.Challenge.rw_kq0023_05.row.prog w) hh (Bind.madeHere "tuple.__new__" (.ref 180)) () := hstat.andThen (hmt.andThen (Looks.of_pure (by simp only [Option.map_some, bne_self_eq_false, Bool.false_eq_true, if_false])))
  repeat ((fail_if_success (with_reducible show wpAny _ _ (collect _) _ _ _)); lk)
  refine wpAny_collect_seq p (.inr rfl) hp rfl rfl (fun h' hk => ?_) (by show 2 ≤ sizeLine; decide)
  dsimp only
  have F2 := Fr.keeps F hk
  have N2 := News.grown N hk
  have N3 := (N2.push F2 emptyDict).push (F2.push _) (lrObj 180 h'.objs.size v1 v2)
  rw [Heap.size_push] at N3
  have hC2 := hk _ _ hC
  refine wpAny_bind (wpAny_pure (wpAny_bind (wpAny_alloc ?_)))
  refine wpAny_bind ?_
  show wpAny _ _ (newObjAsIs _ _ _) _ _ _
  unfold newObjAsIs classHasDel
  refine wpAny_bind (wpAny_alloc (wpAny_bind (wpAny_bind (wpAny_load (Heap.get?_push_of_some _ (Heap.get?_push_of_some _ hC2)) (wpAny_pure ?_)))))
  refine wpAny_pure (wpAny_pure ?_)
  have q := h (h'.objs.size + 1) h'.objs.size ((h'.push emptyDict).push (lrObj 180 h'.objs.size v1 v2)) tk ((F2.push _).push _) N3
    (fun b o e => Heap.get?_push_of_some _ (Heap.get?_push_of_some _ (hk b o e))) (fun p hp => Heap.lt_size (N2 p hp).1) (Nat.lt_succ_self _)

  have z : (h'.push emptyDict).objs.size = h'.objs.size + 1 := Heap.size_push _ _
  rw [← z] at q
  exact q
end
end Mine
end

section
open PySem PySem.W PySem.Calls PyProof.Rows PySem.Spec
set_option maxRecDepth 100000
set_option maxHeartbeats 1000000
namespace Mine
/-- a code table whose entries are all codes -/
def TabL : List Value → Prop
  | [] => True
  | .int _ _ :: .int _ _ :: .ref _ :: rest => TabL rest
  | _ => False
structure TabOk (ps : Array Value) : Prop where
  is : TabL ps.toList
theorem tab_triples (l : List Value) (h : TabL l) : TriplesOk l := by
  fun_induction TabL l with
  | case1 => trivial
  | case2 a t b u x rest ih => exact ih h
  | case3 l h1 h2 => exact h.elim
theorem tab_code {pos : Pos} (l : List Value) (h : TabL l) : codeAmong pos l = none ∨ ∃ c, codeAmong pos l = some (.ref c) := by
  fun_induction TabL l with
  | case1 => exact .inl rfl
  | case2 a t b u x rest ih =>
    simp only [codeAmong]
    split
    · exact .inr ⟨_, rfl⟩
    · exact ih h
  | case3 l h1 h2 => exact h.elim
theorem tab_snoc (a b : Int) (c : Addr) (l : List Value) (h : TabL l) : TabL (l ++ [rawInt a, rawInt b, .ref c]) := by
  fun_induction TabL l with
  | case1 => simp [TabL, rawInt]
  | case2 a' t b' u x rest ih => simp only [List.cons_append, TabL]; exact ih h
  | case3 l h1 h2 => exact h.elim
theorem tab_nil : TabOk #[] := ⟨trivial⟩
section
variable {prog : Program} {w : World} {A : Around} {E : Value → Shared → Prop} {s : Shared} {env : Env} {c P : Addr} {ps : Array Value} {pos : Pos} {q : Str} {scope : Scope} {Q : Value → Shared → Prop}
/-- the code of a generator expression, made or found again -/
theorem gen_code (hc : env.code = .ref c) (hok : s.heap.IsCode c P ps) (htab : s.heap.TableAt c P ps) (hT : TabOk ps)
    (h : ∀ c' h' tk ps', Heap.ExtBut P s.heap h' → s.heap.objs.size ≤ h'.objs.size → TabOk ps' → h'.TableAt c P ps' → Q (.ref c') { s with heap := h', toks := tk }) : wpAny (model prog w) A (genexprCode env pos q scope) Q E s := by
  rcases tab_code (pos := pos) _ hT.is with hn | ⟨c', hf⟩
  · refine wpAny_genexprCodeX hc hok htab hn fun c' h' tk hx hge hlt _ _ ht _ => ?_
    exact h c' h' tk _ hx (Nat.le_of_lt (Nat.lt_of_le_of_lt hge hlt)) ⟨by rw [show (ps ++ #[rawInt pos.line, rawInt pos.col, Value.ref c']).toList = ps.toList ++ [rawInt pos.line, rawInt pos.col, .ref c'] by simp]; exact tab_snoc _ _ _ _ hT.is⟩ ht
  · exact wpAny_codeAt_hit hc hok hf (h c' s.heap s.toks ps (fun _ _ _ e => e) (Nat.le_refl _) hT htab)
end
section
variable {prog : Program} {w : World} {A : Around} {E : Value → Shared → Prop} {s : Shared} {env : Env} {elt iter : Expr} {x : Str} {px pos : Pos} {scope : Scope} {cl : List (Str × Addr)} {xs : List Value} {ay c P bm : Addr} {ps : Array Value} {ob : Obj} {mg : Str → Option Value} {ks : List Addr} {F : Nat → Value → Prop} {Q : Value → Shared → Prop}
theorem gen_listT (hh : A.handled = none) (hco : scope.isCoroutine = false) (hclos : closureFor scope env = pure cl) (hcell : ∀ y ∈ scope.names, y.2 ≠ .cell) (h0 : scope.names.lookup (".0" : Str) = some NameKind.local)
    (hx : scope.names.lookup x = some .local) (hkind : scope.kind = .function) (hroom : A.depth < recursionLimit)
    (hcode : env.code = .ref c) (hic : s.heap.IsCode c P ps) (htab : s.heap.TableAt c P ps) (hT : TabOk ps) (M : BMod s.heap env.globals mg bm ob) (hlim : s.heap.NoLimit) (hPs : P ≠ cStatics)
    (hl : s.heap.IsList ay xs.toArray) (hiter : ∀ Q' : Value → Shared → Prop, Q' (.ref ay) s → wpAny (model prog w) A (eval iter env) Q' E s)
    (hks : ∀ b ∈ ks, b < s.heap.objs.size) (hPk : P ∉ ks) (hPa : P ≠ ay)
    (helt : ∀ (c' C : Addr) (A' : Around) (E' : Value → Shared → Prop) i v (t : Shared) m₂, A'.handled = none → A'.depth ≤ A.depth + 1 → xs[i]? = some v → t.heap.Ns C m₂ → m₂ x = some v → (∀ b ∈ ks, ∀ o, s.heap.get? b = some o → t.heap.get? b = some o) →
      wpAny (model prog w) A' (eval elt (genEnv scope cl C (.ref c') builtinsNs env)) (fun y s₃ => F i y ∧ Keeps t s₃) E' t)
    (h : ∀ a C I ps' h₅ tk gs oa oC oI, TabOk ps' → gs.bare = true → (∀ b o, b ≠ P → s.heap.get? b = some o → h₅.get? b = some o) → h₅.get? P = some (tabObj ps') →
      h₅.get? a = some oa → h₅.get? C = some oC → h₅.get? I = some oI → @LE.le Nat _ s.heap.objs.size a → @LE.le Nat _ s.heap.objs.size C → @LE.le Nat _ s.heap.objs.size I → @Ne Nat a C → @Ne Nat a I → @Ne Nat C I →
      GenIs prog w A a C I ay ks s.gens.size xs.length F ⟨h₅, s.gens.push gs, s.drawn, tk, s.os⟩ → Q (.ref a) ⟨h₅, s.gens.push gs, s.drawn, tk, s.os⟩)
    (hs : ∀ x, genFold iter env x = pure x) :
    wpAny (model prog w) A (eval (.GeneratorExp elt [⟨.Name x px, iter, [], 0⟩] scope pos) env) Q E s := by
  have hlt : ay < s.heap.objs.size := by obtain ⟨_, e, _⟩ := hl; exact Heap.lt_size e
  have hPlt : P < s.heap.objs.size := Heap.lt_size htab.2
  have hclt : cStatics < s.heap.objs.size := let ⟨_, hn, _⟩ := hlim; hn.lt
  refine wpAny_GeneratorExp_make hco hclos hcell h0 hkind hroom (hiter _ ?_) hs
  refine wpAny_pyIter_list hl ⟨hlim.push _, ?_⟩
  refine gen_code hcode (hic.push _) (htab.push _) hT fun c' h₃ tk₃ ps' hx₃ hge hT' htab₃ => ?_
  have M₃ : BMod h₃ env.globals mg bm ob := (M.keeps fun _ _ e => Heap.get?_push_of_some _ e).extBut (htab.push _) hx₃
  refine wpAny_builtinsFor M₃.ns M₃.name M₃.ne M₃.obj M₃.cls M₃.dict M₃.data ?_
  intro h' hn' hs'
  have hsz2 : (s.heap.push { cls := .type "list_iterator", data := .fields #[.ref ay, .int 0 0] }).objs.size = s.heap.objs.size + 1 := Heap.size_push ..
  have hge' : s.heap.objs.size + 1 ≤ h₃.objs.size := by rw [← hsz2]; exact hge
  have hsz : h'.objs.size = h₃.objs.size + 1 := by rw [hs'.1, Heap.size_push]
  have up : ∀ b o, b ≠ P → (s.heap.push { cls := .type "list_iterator", data := .fields #[.ref ay, .int 0 0] }).get? b = some o → h'.get? b = some o := fun b o hb e =>
    hs'.extBut b o (Nat.ne_of_lt (Heap.lt_size (hx₃ b o hb e))) (Heap.get?_push_of_some _ (hx₃ b o hb e))
  have keep : ∀ b o, b ≠ P → s.heap.get? b = some o → (h'.push { cls := .type "generator", data := .fields #[.int s.gens.size 0, .str "<genexpr>" (tk₃ + 1), .str (env.qual ++ "<genexpr>") (tk₃ + 1 + 1)] }).get? b = some o := fun b o hb e =>
    Heap.get?_push_of_some _ (up b o hb (Heap.get?_push_of_some _ e))
  have hI : (h'.push { cls := .type "generator", data := .fields #[.int s.gens.size 0, .str "<genexpr>" (tk₃ + 1), .str (env.qual ++ "<genexpr>") (tk₃ + 1 + 1)] }).get? s.heap.objs.size = some { cls := .type "list_iterator", data := .fields #[.ref ay, .int 0 0] } :=
    Heap.get?_push_of_some _ (up _ _ (fun e => Nat.lt_irrefl _ (e ▸ hPlt)) (Heap.get?_push_size _ rfl))
  have hlim₃ : h₃.NoLimit := (hlim.push _).extBut hx₃ (Ne.symm hPs)
  have hlim₅ : (h'.push { cls := .type "generator", data := .fields #[.int s.gens.size 0, .str "<genexpr>" (tk₃ + 1), .str (env.qual ++ "<genexpr>") (tk₃ + 1 + 1)] }).NoLimit :=
    hlim₃.keeps fun b o e => Heap.get?_push_of_some _ (hs'.extBut b o (Nat.ne_of_lt (Heap.lt_size e)) (Heap.get?_push_of_some _ e))
  have n1 : ∀ b, @LT.lt Nat _ b h₃.objs.size → @Ne Nat h'.objs.size b := fun b hb e => by rw [hsz] at e; omega
  have hfx : ∀ b ∈ s.heap.objs.size :: ay :: cStatics :: ks, @LT.lt Nat _ b h₃.objs.size := fun b hb => by
    rcases List.mem_cons.mp hb with rfl | hb
    · omega
    · rcases List.mem_cons.mp hb with rfl | hb
      · exact Nat.lt_trans hlt (by omega)
      · rcases List.mem_cons.mp hb with rfl | hb
        · exact Nat.lt_trans hclt (by omega)
        · exact Nat.lt_trans (hks b hb) (by omega)
  have hCx : h₃.objs.size ∉ s.heap.objs.size :: ay :: cStatics :: ks := fun hm => Nat.lt_irrefl _ (hfx _ hm)
  have hax : h'.objs.size ∉ s.heap.objs.size :: ay :: cStatics :: ks := fun hm => n1 _ (hfx _ hm) rfl
  obtain ⟨oC, hoC⟩ : ∃ oC, h'.get? h₃.objs.size = some oC := by obtain ⟨o, _, _, ho, _⟩ := hn'; exact ⟨o, ho⟩
  refine h h'.objs.size h₃.objs.size s.heap.objs.size ps' _ _ _ _ oC _ hT' rfl keep (Heap.get?_push_of_some _ (hs'.extBut P _ (Nat.ne_of_lt (Heap.lt_size htab₃.2)) (Heap.get?_push_of_some _ htab₃.2))) (Heap.get?_push_size _ rfl) (Heap.get?_push_of_some _ hoC) hI
    (by show @LE.le Nat _ _ _; rw [hsz]; omega) (by omega) (Nat.le_refl _) (by show @Ne Nat _ _; rw [hsz]; omega) (by show @Ne Nat _ _; rw [hsz]; omega) (by omega) ⟨?_, ?_⟩
  · exact WalksS.genexpQ (A := A.in4) hh _ _ _ _ [s.heap.objs.size] allOf xs.length F (by show @Ne Nat _ _; rw [hsz]; omega) hax (fun b hb => by rw [List.mem_singleton.mp hb]; exact List.mem_cons_self) hroom
      (List.mem_cons_of_mem _ (List.mem_cons_of_mem _ List.mem_cons_self)) (Nat.ne_of_lt (Nat.lt_trans hclt (by omega))) (fun hm => Nat.ne_of_lt hclt (List.mem_singleton.mp hm))
  · have hne : ay ≠ s.heap.objs.size := Nat.ne_of_lt hlt
    have sz : xs.toArray.size = xs.length := List.size_toArray ..
    refine GenAt.freshD (A := A.in4) (cenv := genEnv scope cl h₃.objs.size (.ref c') builtinsNs env) (m := fun y => if y = ".0" then some (.ref s.heap.objs.size) else none) (P := fun i v => xs.toArray[i]? = some v) (St₀ := fun i h => h.IsListIter s.heap.objs.size ay i ∧ h.IsList ay xs.toArray) hh
      (fun A' hA => by
        have W := Walks.list (prog := prog) (w := w) hA s.heap.objs.size ay hne xs.toArray
        rw [sz] at W
        exact W.mono_fp fun b hb => by
          rcases List.mem_cons.mp hb with rfl | hb
          · exact List.mem_cons_self
          · rw [List.mem_singleton.mp hb]; exact List.mem_cons_of_mem _ List.mem_cons_self) allOf F hx (by simp [genEnv, hkind]) hco
      hCx ⟨?_, ?_⟩ ⟨_, _, _, Heap.get?_push_size _ rfl, rfl, rfl, rfl⟩ (Array.getElem?_push_size ..) ⟨⟨_, hI, rfl, rfl⟩, ?_⟩ (hn'.push _) hlim₅
    · intro A' E' i v s₂ m₂ _ _ _ _ _ _ _
      exact wpAny_pure ⟨rfl, s₂.heap, s₂.toks, rfl, fun _ _ e => e⟩
    · intro A' E' i v s₂ m₂ hA hD hU hv _ hn hm hk
      refine helt c' h₃.objs.size A' E' i v s₂ m₂ hA hD (by simpa using hv) hn hm fun b hb o e => ?_
      exact hk b (List.mem_cons_of_mem _ (List.mem_cons_of_mem _ (List.mem_cons_of_mem _ hb))) (fun hm => Nat.ne_of_lt (hks b hb) (List.mem_singleton.mp hm)) o (keep b o (fun e => hPk (e ▸ hb)) e)
    · obtain ⟨o, e, r⟩ := hl
      exact ⟨o, keep ay o (Ne.symm hPa) e, r⟩
end
end Mine
end

section
open PySem PySem.W PySem.Calls PyProof.Rows
set_option maxRecDepth 100000
set_option maxHeartbeats 400000
namespace Mine
theorem lr_code {w : World} {h : Heap} {ps : Array Value} (hT : TabOk ps) (hP : h.get? 186 = some (tabObj ps)) : (Mine.hd.heap_39 w.params).In h → PySem.Challenge.rw_kq0023_05 = PySem.Challenge.rw_kq0023_05 ∧ h.IsCode 188 186 ps ∧ h.TableAt 188 186 ps := by
  k_fill
  intro X
  refine' have_eq (x := (Mine.hd.heap_39 w.params).lookup 188) ?e ?k
  case e => k_is
  intro hK
  have hC := X _ _ hK
  refine ⟨rfl, ⟨_, _, _, _, _, _, _, _, _, _, hC, rfl, rfl, rfl, rfl, rfl, rfl, hP, rfl, tab_triples _ hT.is, by decide⟩, ⟨_, _, hC, rfl, rfl, rfl⟩, hP⟩
theorem cov_code {w : World} {h : Heap} {ps : Array Value} (hT : TabOk ps) (hP : h.get? 107 = some (tabObj ps)) : (Mine.hd.heap_39 w.params).In h → PySem.Challenge.rw_kq0023_05 = PySem.Challenge.rw_kq0023_05 ∧ h.IsCode 111 107 ps ∧ h.TableAt 111 107 ps := by
  k_fill
  intro X
  refine' have_eq (x := (Mine.hd.heap_39 w.params).lookup 111) ?e ?k
  case e => k_is
  intro hK
  have hC := X _ _ hK
  refine ⟨rfl, ⟨_, _, _, _, _, _, _, _, _, _, hC, rfl, rfl, rfl, rfl, rfl, rfl, hP, rfl, tab_triples _ hT.is, by decide⟩, ⟨_, _, hC, rfl, rfl, rfl⟩, hP⟩
end Mine
end

section
open PySem PySem.W PySem.Calls PyProof.Rows
set_option maxRecDepth 100000
set_option maxHeartbeats 400000
namespace Mine
theorem tab_eq {K : Frag} {h : Heap} {mg : Str → Option Value} {x : Str} {A C P0 : Addr} {oA oC : Obj} {fd0 : FuncData} {vs0 : Array Value} (X : K.In h) (hg : h.Ns mainGlobals mg) (e : nsIn K mainGlobals x = some (some (.ref A))) (eA : K.lookup A = some oA) (dA : oA.data = .func fd0) (cA : fd0.code = .ref C) (eC : K.lookup C = some oC) (dC : oC.data = .fields vs0) (hp : vs0.getD 11 .none = .ref P0)
    {a c P' : Addr} {o : Obj} {fd : FuncData} (h1 : mg x = some (.ref a)) (h2 : h.get? a = some o) (h3 : o.data = .func fd) (h4 : fd.code = .ref c) (h5 : h.IsCode c P' #[]) : P' = P0 := by
  rw [mg_of X hg e] at h1
  cases h1
  rw [X _ _ eA] at h2
  cases h2
  rw [dA] at h3
  cases h3
  rw [cA] at h4
  cases h4
  obtain ⟨o', vs, _, _, _, _, _, _, _, _, x1, x2, x3, _⟩ := h5
  rw [X _ _ eC] at x1
  cases x1
  rw [dC] at x2
  cases x2
  rw [hp] at x3
  cases x3
  rfl
theorem law_names : (recsOf Mine.vw).map (·.name) = [Str.ofString "_wall", Str.ofString "_law_odd", Str.ofString "_law_small", Str.ofString "_law_holds", Str.ofString "law"] := by rfl
theorem law_tabs {w : World} {h : Heap} {mg : Str → Option Value} (hg : h.Ns mainGlobals mg) : (Mine.hd.heap_39 w.params).In h → PySem.Challenge.rw_kq0023_05 = PySem.Challenge.rw_kq0023_05 ∧ ∀ d ∈ recsOf Mine.vw, ∀ a o fd c P', mg d.name = some (.ref a) → h.get? a = some o → o.data = .func fd → fd.code = .ref c → h.IsCode c P' #[] → P' ≠ 186 ∧ P' ≠ 107 := by
  k_fill
  intro X
  refine ⟨rfl, fun d hd a o fd c P' h1 h2 h3 h4 h5 => ?_⟩
  have hm : d.name ∈ (recsOf Mine.vw).map (·.name) := List.mem_map.mpr ⟨d, hd, rfl⟩
  rw [law_names] at hm
  rcases List.mem_cons.mp hm with e | hm
  · rw [e] at h1
    have key : ∀ {P0 : Addr}, P' = P0 → P0 ≠ 186 → P0 ≠ 107 → P' ≠ 186 ∧ P' ≠ 107 := fun e a b => ⟨e ▸ a, e ▸ b⟩
    refine' key (tab_eq X hg ?e0 ?eA0 ?dA0 ?cA0 ?eC0 ?dC0 ?hp0 h1 h2 h3 h4 h5) ?na0 ?nb0
    case e0 => k_is
    case eA0 => k_is
    case dA0 => exact rfl
    case cA0 => exact rfl
    case eC0 => k_is
    case dC0 => exact rfl
    case hp0 => exact rfl
    case na0 => decide
    case nb0 => decide
  · skip
    rcases List.mem_cons.mp hm with e | hm
    · rw [e] at h1
      have key : ∀ {P0 : Addr}, P' = P0 → P0 ≠ 186 → P0 ≠ 107 → P' ≠ 186 ∧ P' ≠ 107 := fun e a b => ⟨e ▸ a, e ▸ b⟩
      refine' key (tab_eq X hg ?e1 ?eA1 ?dA1 ?cA1 ?eC1 ?dC1 ?hp1 h1 h2 h3 h4 h5) ?na1 ?nb1
      case e1 => k_is
      case eA1 => k_is
      case dA1 => exact rfl
      case cA1 => exact rfl
      case eC1 => k_is
      case dC1 => exact rfl
      case hp1 => exact rfl
      case na1 => decide
      case nb1 => decide
    · skip
      rcases List.mem_cons.mp hm with e | hm
      · rw [e] at h1
        have key : ∀ {P0 : Addr}, P' = P0 → P0 ≠ 186 → P0 ≠ 107 → P' ≠ 186 ∧ P' ≠ 107 := fun e a b => ⟨e ▸ a, e ▸ b⟩
        refine' key (tab_eq X hg ?e2 ?eA2 ?dA2 ?cA2 ?eC2 ?dC2 ?hp2 h1 h2 h3 h4 h5) ?na2 ?nb2
        case e2 => k_is
        case eA2 => k_is
        case dA2 => exact rfl
        case cA2 => exact rfl
        case eC2 => k_is
        case dC2 => exact rfl
        case hp2 => exact rfl
        case na2 => decide
        case nb2 => decide
      · skip
        rcases List.mem_cons.mp hm with e | hm
        · rw [e] at h1
          have key : ∀ {P0 : Addr}, P' = P0 → P0 ≠ 186 → P0 ≠ 107 → P' ≠ 186 ∧ P' ≠ 107 := fun e a b => ⟨e ▸ a, e ▸ b⟩
          refine' key (tab_eq X hg ?e3 ?eA3 ?dA3 ?cA3 ?eC3 ?dC3 ?hp3 h1 h2 h3 h4 h5) ?na3 ?nb3
          case e3 => k_is
          case eA3 => k_is
          case dA3 => exact rfl
          case cA3 => exact rfl
          case eC3 => k_is
          case dC3 => exact rfl
          case hp3 => exact rfl
          case na3 => decide
          case nb3 => decide
        · skip
          have e := List.mem_singleton.mp hm
          rw [e] at h1
          have key : ∀ {P0 : Addr}, P' = P0 → P0 ≠ 186 → P0 ≠ 107 → P' ≠ 186 ∧ P' ≠ 107 := fun e a b => ⟨e ▸ a, e ▸ b⟩
          refine' key (tab_eq X hg ?e4 ?eA4 ?dA4 ?cA4 ?eC4 ?dC4 ?hp4 h1 h2 h3 h4 h5) ?na4 ?nb4
          case e4 => k_is
          case eA4 => k_is
          case dA4 => exact rfl
          case cA4 => exact rfl
          case eC4 => k_is
          case dC4 => exact rfl
          case hp4 => exact rfl
          case na4 => decide
          case nb4 => decide
end Mine
end

section
open PySem PySem.W PySem.Calls PyProof.Rows
set_option maxRecDepth 100000
namespace Mine
def fnBody : Stmt → List Stmt
  | .FunctionDef _ _ body _ _ _ _ _ _ _ => body
  | _ => []
def fnScope : Stmt → Scope
  | .FunctionDef _ _ _ _ _ _ sc _ _ _ => sc
  | _ => default
def lawFn : Stmt := PySem.Challenge.pw_kq0023_05.main.body.getLastD (.Pass default)
def lawRest (k : Nat) : List Stmt := (fnBody lawFn).drop k
def lawScope : Scope := fnScope lawFn
end Mine
end

section
open PySem PySem.W PySem.Calls PyProof.Rows PySem.Spec
set_option maxRecDepth 100000
set_option maxHeartbeats 1000000
namespace Mine
theorem push_any {A : Around} {base h₀ h : Heap} {outer : List Env} {env : Env} {L : Addr} {m : Str → Option Value} (K : Below A base outer h₀) (F : Fr h₀ L h m) (hf : env.frame = some L) (hk : env.scope.kind ≠ .module) :
    Below (A.deeper env) base (env :: outer) h :=
  ⟨Around.frames_deeper K.stack, fun b o e => F.keep b o (K.stays b o e), .cons hk hf F.ns (kts_none K.stays (kts_self F)) (K.frames.of_keeps fun b o e _ => ⟨o, F.keep b o e, rfl⟩)⟩
theorem mem_any {env : Env} {L b : Addr} {outer : List Env} (hf : env.frame = some L) (hm : b ∈ (env :: outer).filterMap (·.frame)) : b = L ∨ b ∈ outer.filterMap (·.frame) := by
  rw [List.filterMap_cons, hf] at hm
  exact List.mem_cons.mp hm
section
variable {M : Model} {A : Around} {E : Value → Shared → Prop} {s' : Shared} {base g g₂ h : Heap} {outer : List Env} {env : Env} {L e t : Addr} {m : Str → Option Value} {Q : Unit → Shared → Prop} {news : List (Addr × Obj)}
theorem hide_any {B : Heap} (K : Below A base outer g) (F : Fr g L h m) (N : News g L h news) (hf : env.frame = some L) (hk : env.scope.kind ≠ .module) (hB : B = hideAll h ((env :: outer).filterMap (·.frame))) :
    base.StaysIn B ∧ (∀ b o, g.get? b = some o → b ∉ outer.filterMap (·.frame) → B.get? b = some o) ∧ (∀ q ∈ news, B.get? q.1 = some q.2 ∧ g.get? q.1 = none ∧ base.get? q.1 = none) ∧ B.StaysIn h ∧ h.FunFrames B (env :: outer) ∧ (A.deeper env).frames = some (env :: outer) := by
  subst hB
  have K' := push_any K F hf hk
  refine ⟨fun b o q => hideAll_get _ (K'.stays b o q) fun hm => ?_, fun b o q nm => hideAll_get _ (F.keep b o q) fun hm => ?_, fun q hq => ⟨hideAll_get _ (N q hq).1 fun hm => ?_, (N q hq).2.2, fresh_of_stays K.stays (N q hq).2.2⟩,
    fun b o q => of_hideAll _ q, funFrames_hide K'.frames fun e he b hb => List.mem_filterMap.mpr ⟨e, he, hb⟩, K'.stack⟩
  · rw [(K'.frames.mem hm).1] at q; cases q
  · rcases mem_any hf hm with z | z
    · rw [z, kts_self F] at q; cases q
    · exact nm z
  · rcases mem_any hf hm with z | z
    · exact (N q hq).2.1 z
    · obtain ⟨o, ho, _⟩ := (K.frames.mem z).2
      rw [(N q hq).2.2] at ho; cases ho
theorem leave_raise_any {cls : Value} {vs : List Value} (K : Below A base outer g) (hx : Heap.MadeExcOf h s'.heap e cls vs) (F : Fr g L h m) (N : News g L h news) (hf : env.frame = some L) (hk : env.scope.kind ≠ .module)
    (hQ : ∀ h' t, RaisedS base g outer e cls t vs news h' → g.UpToSlots h' → Q () { s' with heap := h' }) : wpAny M (A.deeper env) (leaving env (.ref e)) Q E s' := by
  obtain ⟨a1, a2, a3, a4, a5, a6⟩ := hide_any K F N hf hk rfl
  exact wpAny_leaves_madeW a6 hf a4 a5 hx fun h' t x1 x2 x3 x4 =>
    hQ h' t ⟨⟨_, a1, a2, a3, x1, x3⟩, x2⟩ (((Heap.UpToSlots.of_keeps F.keep).trans (Heap.UpToSlots.of_keeps hx.keeps)).trans x4)
theorem ground_any {A₀ : Around} {G B h₅ : Heap} (K : Below A₀ base outer g) (F : Fr g L G m) (hf : env.frame = some L) (hBG : ∀ b o, G.get? b = some o → b ∉ (env :: outer).filterMap (·.frame) → B.get? b = some o) (hBh : B.StaysIn h₅) (hsm : G.UpToSlots h₅) :
    ∃ g', KtsTurn (outer.filterMap (·.frame)) g g' ∧ Fr g' L h₅ m ∧ Below A₀ base outer g' := by
  have keep : ∀ b o, g.get? b = some o → b ∉ outer.filterMap (·.frame) → h₅.get? b = some o := fun b o e nm => hBh b o (hBG b o (F.keep b o e) fun hm => by
    rcases mem_any hf hm with z | z
    · rw [z, kts_self F] at e; cases e
    · exact nm z)
  have slots : ∀ b o, g.get? b = some o → b ∈ outer.filterMap (·.frame) → ∃ sl, h₅.get? b = some { o with slots := sl } := fun b o e hm => by
    obtain ⟨_, o', ho', hd⟩ := K.frames.mem hm
    rw [e] at ho'
    cases ho'
    exact hsm b o (F.keep b o e) hd
  obtain ⟨T, S⟩ := kts_turn_at (fun b hb => let ⟨_, o, ho, _⟩ := K.frames.mem hb; ⟨o, ho⟩) keep slots
  have st : base.StaysIn (ktsHeap h₅ (outer.filterMap (·.frame)) g) := fun b o e => T.other b o (K.stays b o e) fun hm => by
    rw [(K.frames.mem hm).1] at e; cases e
  exact ⟨_, T, ⟨hsm.ns F.ns, S, by rw [T.size]; exact F.above⟩, K.stack, st, K.frames.of_keeps fun b o e _ => let ⟨sl, hs⟩ := T.up e; ⟨_, hs, rfl⟩⟩
end
theorem raised_sub {base G h : Heap} {l : List Env} {e t : Addr} {cls : Value} {vs : List Value} {n₁ n₂ : List (Addr × Obj)} (R : RaisedS base G l e cls t vs n₁ h) (hs : ∀ q ∈ n₂, q ∈ n₁) : RaisedS base G l e cls t vs n₂ h :=
  let ⟨⟨B, a, b, c, d⟩, f⟩ := R; ⟨⟨B, a, b, fun q hq => c q (hs q hq), d⟩, f⟩
section
variable {prog : Program} {w : World} {A : Around} {E : Value → Shared → Prop} {s : Shared} {env : Env} {h₀ : Heap} {L : Addr} {m mg : Str → Option Value}
  {x : Str} {C : Addr} {B newId initId : String} {bm : List Value} {np cpos pos : Pos} {Q : Flow → Shared → Prop}
theorem raise_any {e₀ : Expr} {rest : List Expr} (O : OwnCls x C bm newId mg h₀) (FB : ExcBaseFacts B newId initId bm) (hh : A.handled = none)
    (hname : ∀ Q : Value → Shared → Prop, Q (.ref C) s → wpAny (model prog w) A (eval (.Name x np) env) Q E s)
    (h : wpAny (model prog w) A (spliced (backTo cpos (starEach (e₀ :: rest) env))) (fun vs s₂ => vs.length ≤ sizeLine ∧ (∀ b o, h₀.get? b = some o → s₂.heap.get? b = some o) ∧
      ∀ h' e, Heap.MadeExcOf s₂.heap h' e (.ref C) vs → E (.ref e) { s₂ with heap := h' }) E s)
    (he : starEach (e₀ :: rest) env = (false, eval e₀ env) :: starEach rest env) (hplain : (backTo cpos (starEach rest env)).any (·.1) = false) :
    wpAny (model prog w) A (exec (.Raise (some (.Call (.Name x np) (e₀ :: rest) [] cpos)) none pos) env) Q E s := by
  obtain ⟨tl, N, nm, q, bs, hdct, sn, sub, ab, col, dd, k0, k1, k2, k3, k5, mN, hC, hN, hni, T⟩ := O.obj
  refine wpAny_Raise_call_subT (C := C) (nm := nm) (q := q) (N := N) (bs := bs) (bm := tl) (hdct := hdct) (sn := sn) (sub := sub) (ab := ab) (col := col) (dd := dd) (k0 := k0) (k1 := k1) (k2 := k2) (k3 := k3) (k5 := k5)
    FB (mN := mN) (T.hasType FB.hasBase) hh (by rw [he]; show (false || (backTo cpos (starEach rest env)).any (·.1)) = false; rw [hplain]; rfl) hni (hname _ ⟨rfl, ?_⟩)
  rw [he] at h ⊢
  exact evalArgs_plain (wpAny_mono h (fun vs s₂ h₂ => ⟨rfl, h₂.1, h₂.2.1 _ _ hC, hN.keeps h₂.2.1, T.keeps h₂.2.1, h₂.2.2⟩) fun _ _ y => y)
end
end Mine
end

section
open PySem PySem.W PySem.Calls PyProof.Rows PySem.Spec
set_option maxRecDepth 100000
set_option maxHeartbeats 1000000
namespace Mine
section
variable {prog : Program} {w : World} {A₀ A : Around} {s : Shared} {base h₀ : Heap} {L : Addr} {m : Str → Option Value} {env : Env} {news : List (Addr × Obj)} {K : Frag} {p : Program} {loose : List Str} {mean : ExcName → Option Value} {mg mb : Str → Option Value}
    {R : Result → Shared → Prop} {name qual : Str} {params : Arguments} {body : List Stmt} {scope : Scope} {dV kV doc pm cdv ct oc : Value} {an od : Option Addr} {osl : Array (Option Value)} {f : Addr} {args : Args} {binds : List (Str × Value)}
/-- what a def called with a frame of any kind ahead of it finds below it -/
theorem enter_any (B : Below A₀ base [] h₀) (F : Fr h₀ L s.heap m) (N : News h₀ L s.heap news) (hA : A.frames = some [env]) (hf : env.frame = some L) (hk : env.scope.kind = .function) :
    ∃ oL es ep, (hideAll s.heap (news.map (·.1))).get? L = some oL ∧ oL.data = .dict es ep ∧ (∀ (sl : Array (Option Value)) h', h'.get? L = some { oL with slots := sl } → Heap.Ns h' L m) ∧
      h₀.StaysIn (hideAll s.heap (news.map (·.1))) ∧ Below A base [env] (hideAll s.heap (news.map (·.1))) := by
  have off : ∀ b o, h₀.get? b = some o → b ∉ news.map (·.1) := fun b o e q => by
    obtain ⟨r, hr, rfl⟩ := List.mem_map.mp q
    rw [(N r hr).2.2] at e; cases e
  have offL : L ∉ news.map (·.1) := fun q => by
    obtain ⟨r, hr, e⟩ := List.mem_map.mp q
    exact (N r hr).2.1 e
  have stay : h₀.StaysIn (hideAll s.heap (news.map (·.1))) := fun b o e => hideAll_get _ (F.keep b o e) (off b o e)
  obtain ⟨oL, es, ep, e1, e2, e3, e4⟩ := F.ns
  have BX := pushX B F hf hk
  refine ⟨oL, es, ep, hideAll_get _ e1 offL, e2, fun sl h' e => ⟨_, es, ep, e, e2, e3, e4⟩, stay, hA, fun b o e => stay b o (B.stays b o e), funFrames_hideAll BX.frames fun en hen b hb hfb => ?_⟩
  rw [List.mem_singleton.mp hen, hf] at hfb
  exact offL ((Option.some.inj hfb : L = b) ▸ hb)
theorem code_any0 (B : Below A₀ base [] h₀) (F : Fr h₀ L s.heap m) (X₀ : K.In h₀) (N : News h₀ L s.heap news) (T : Top p loose mean mg mb h₀) (hA : A.frames = some [env]) (hf : env.frame = some L) (hke : env.scope.kind = .function)
    (ho : K.lookup f = some ⟨oc, od, .func (fnOf name qual params body scope dV kV doc pm an cdv ct), osl⟩) (hcd : codeIn K cdv qual = true) (hroom : A.depth < recursionLimit)
    (hbind : BindsTo s (fnOf name qual params body scope dV kV doc pm an cdv ct) args binds) (hloc : ∀ y ∈ binds, scope.names.lookup y.1 = some .local)
    (h : ∀ g L' h₁, Fr h₀ L g m → Fr g L' h₁ (fun y => binds.reverse.lookup y) → News g L' h₁ news → Below A base [env] g → K.In g → Top p loose mean mg mb g → KtsDicts ([env].filterMap (·.frame)) g → (∀ p ∈ news, p.1 < L') →
      wpAny (model prog w) (A.deeper (envOf qual scope L' f cdv)) (execs body (envOf qual scope L' f cdv))
        (fun fl s' => LeaveS0 ([env].filterMap (·.frame)) h₀ L m g R (match fl with | .ret v => v | _ => .none) s')
        (fun e s' => wpAny (model prog w) (A.deeper (envOf qual scope L' f cdv)) (leaving (envOf qual scope L' f cdv) e) (fun _ s'' => R (.error e) s'') (fun e' s'' => R (.error e') s'') s')
        { s with heap := h₁, toks := s.toks + binds.length })
    (hco : scope.isCoroutine = false) (hgen : scope.isGenerator = false) (hk : scope.kind = .function) (hcell : ∀ x ∈ scope.names, x.2 ≠ .cell) : codeAny (model prog w) A (.call (.ref f) args) R s := by
  obtain ⟨oL, es, ep, gL, gd, gN, gS, gB⟩ := enter_any B F N hA hf hke
  have X := X₀.keeps F.keep
  have fs : [env].filterMap (·.frame) = [L] := by simp [hf]
  refine codeAny_call_def (fd := fnOf name qual params body scope dV kV doc pm an cdv ct) (body := body) (binds := binds) hroom (X _ _ ho) rfl (T.nolimit.keeps F.keep) (codeRec_of X hcd) rfl hbind hcell hloc (fun h₁ hns hk₁ => ?_) hco hgen hk
  have below : ∀ q ∈ news, q.1 < s.heap.objs.size := fun q hq => Heap.lt_size (N q hq).1
  refine wpAny_mono (h _ s.heap.objs.size h₁ ⟨gN _ _ gL, gS, F.above⟩ ⟨hns, fun b o e => hk₁ b o (of_hideAll _ e), Nat.le_of_eq (hideAll_size _ _)⟩
    (fun q hq => ⟨hk₁ _ _ (N q hq).1, Nat.ne_of_lt (below q hq), hideAll_none _ (List.mem_map_of_mem hq)⟩) gB (X₀.keeps gS) (T.keeps gS) (fun b hb => by rw [fs, List.mem_singleton] at hb; subst hb; exact ⟨oL, es, ep, gL, gd⟩) below) (fun fl s' hl => ?_) fun _ _ y => y
  obtain ⟨g', L', m', news', TT, F', N', k⟩ := hl
  rw [fs] at TT
  obtain ⟨sl, eL⟩ := TT.up gL
  have back : ∀ b o, h₀.get? b = some o → g'.get? b = some o := fun b o e => TT.other b o (gS b o e) fun q => by
    rw [List.mem_singleton.mp q, kts_self F] at e; cases e
  refine k ⟨gN sl _ (F'.keep _ _ eL), fun b o e => F'.keep b o (back b o e), F.above⟩ fun q hq => ⟨(N' q hq).1, fun z => ?_, ?_⟩
  · have := (N' q hq).2.2
    rw [z, eL] at this; cases this
  · cases e : h₀.get? q.1 with
    | none => rfl
    | some o => have := (N' q hq).2.2; rw [back _ _ e] at this; cases this
end
end Mine
end

section
open PySem PySem.W PySem.Calls PyProof.Rows PySem.Spec
set_option maxRecDepth 100000
set_option maxHeartbeats 1000000
namespace Mine
inductive RelI (R : Int → Value → Prop) : List Int → List Value → Prop
  | nil : RelI R [] []
  | cons {k : Int} {y : Value} {us : List Int} {ys : List Value} (h : R k y) (t : RelI R us ys) : RelI R (k :: us) (y :: ys)
theorem RelI.snoc {R : Int → Value → Prop} {k : Int} {y : Value} (h : R k y) : ∀ {us : List Int} {ys : List Value}, RelI R us ys → RelI R (us ++ [k]) (ys ++ [y])
  | _, _, .nil => .cons h .nil
  | _, _, .cons a t => .cons a (t.snoc h)
theorem RelI.length {R : Int → Value → Prop} : ∀ {us : List Int} {ys : List Value}, RelI R us ys → ys.length = us.length
  | _, _, .nil => rfl
  | _, _, .cons _ t => by simp [t.length]
theorem RelI.at {R : Int → Value → Prop} : ∀ {us : List Int} {ys : List Value}, RelI R us ys → ∀ (i : Nat) v, ys[i]? = some v → R (us.getD i 0) v
  | _, _, .nil, _, _, e => by simp at e
  | _, _, .cons h _, 0, v, e => by simp at e; subst e; simpa using h
  | _, _, .cons _ t, i + 1, v, e => by simpa using t.at i v (by simpa using e)
def CompEl (news : List (Addr × Obj)) (P : Value → Prop) (y : Value) (news' : List (Addr × Obj)) : Prop := news' = news ∧ P y
section
variable {prog : Program} {w : World} {A : Around} {h₀ : Heap} {L : Addr} {m : Str → Option Value} {env : Env} {elt : Expr} {x : Str} {scope : Scope} {cl : List (Str × Addr)} {s : Shared} {S : List (Addr × Obj) → Prop} {P : Nat → Value → Prop} {Fin : List Value → List (Addr × Obj) → Prop} {news : List (Addr × Obj)}
theorem comp_rel {n : Nat} {ks : List Int} (R : Int → Value → Prop) (hks : ks.length = n) (hP : ∀ i v, i < n → P i v → ∃ k t, ks[i]? = some k ∧ v = .int k t)
    (turn : ∀ k t I oI C oC D m₂ ys h tk (E' : Value → Shared → Prop), k ∈ ks → LCg.NsObj oC m₂ → m₂ x = some (.int k t) → Fr h₀ L h m → News h₀ L h ((I, oI) :: (C, oC) :: (D, LCg.lst ys) :: news) → LCg.Off3 I C D news → ((@Ne Nat I C) ∧ (@Ne Nat I D) ∧ (@Ne Nat C D)) →
      wpAny (model prog w) A (eval elt (compEnvC scope cl C env)) (LCg.CompEnd h₀ L m { s with heap := h, toks := tk } I oI C oC D (LCg.lst ys) S (fun y news' => CompEl news (R k) y news')) E' { s with heap := h, toks := tk })
    (fin : ∀ ys, RelI R ks ys → Fin ys news) : LCg.CompRest prog w A h₀ L m env elt x scope cl s S P Fin n 0 [] news := by
  suffices key : ∀ (j i : Nat) (ys : List Value), i + j = n → RelI R (ks.take i) ys → LCg.CompRest prog w A h₀ L m env elt x scope cl s S P Fin j i ys news from key n 0 [] (by omega) .nil
  intro j
  induction j with
  | zero => intro i ys hi hy; rw [List.take_of_length_le (by omega)] at hy; exact LCg.CompRest.zero (fin ys hy)
  | succ j ih =>
    intro i ys hi hy
    refine LCg.CompRest.succ fun v I oI C oC D m₂ h tk E' hv hC hx F N off ne => ?_
    obtain ⟨k, t, hk, rfl⟩ := hP i v (by omega) hv
    refine wpAny_mono (turn k t I oI C oC D m₂ ys h tk E' (List.mem_of_getElem? hk) hC hx F N off ne) (fun y s₂ hq => ?_) fun _ _ e => e
    obtain ⟨h', tk', nw, e, F', N', off', hS, rfl, hy'⟩ := hq
    refine ⟨h', tk', nw, e, F', N', off', hS, ih (i + 1) _ (by omega) ?_⟩
    rw [List.take_add_one, hk]
    exact hy.snoc hy'
theorem comp_ints {vs : List Value} {ns : List Int} (R : Int → Value → Prop) (hi : IntsAre vs ns)
    (turn : ∀ k t I oI C oC D m₂ ys h tk (E' : Value → Shared → Prop), k ∈ ns → LCg.NsObj oC m₂ → m₂ x = some (.int k t) → Fr h₀ L h m → News h₀ L h ((I, oI) :: (C, oC) :: (D, LCg.lst ys) :: news) → LCg.Off3 I C D news → ((@Ne Nat I C) ∧ (@Ne Nat I D) ∧ (@Ne Nat C D)) →
      wpAny (model prog w) A (eval elt (compEnvC scope cl C env)) (LCg.CompEnd h₀ L m { s with heap := h, toks := tk } I oI C oC D (LCg.lst ys) S (fun y news' => CompEl news (R k) y news')) E' { s with heap := h, toks := tk })
    (fin : ∀ ys, RelI R ns ys → Fin ys news) : LCg.CompRest prog w A h₀ L m env elt x scope cl s S (fun i v => vs.toArray[i]? = some v) Fin vs.toArray.size 0 [] news :=
  comp_rel R (by rw [List.size_toArray]; exact hi.length.symm) (fun i v _ hv => by
    obtain ⟨k, t, e, hk⟩ := IntsAre.at hi i v (by simpa using hv)
    exact ⟨k, t, hk, e⟩) turn fin
inductive RelV (R : Value → Value → Prop) : List Value → List Value → Prop
  | nil : RelV R [] []
  | cons {v y : Value} {us ys : List Value} (h : R v y) (t : RelV R us ys) : RelV R (v :: us) (y :: ys)
theorem RelV.snoc {R : Value → Value → Prop} {k y : Value} (h : R k y) : ∀ {us ys : List Value}, RelV R us ys → RelV R (us ++ [k]) (ys ++ [y])
  | _, _, .nil => .cons h .nil
  | _, _, .cons a t => .cons a (t.snoc h)
theorem RelV.length {R : Value → Value → Prop} : ∀ {us ys : List Value}, RelV R us ys → ys.length = us.length
  | _, _, .nil => rfl
  | _, _, .cons _ t => by simp [t.length]
theorem compEnd_el {h₀ : Heap} {L I C D : Addr} {m : Str → Option Value} {s₁ : Shared} {oI oC oD : Obj} {S : List (Addr × Obj) → Prop} {P : Value → Prop} {y : Value} {h' : Heap} {tk : Nat} {all news : List (Addr × Obj)}
    (F : Fr h₀ L h' m) (N : News h₀ L h' all) (sub : ∀ p ∈ (I, oI) :: (C, oC) :: (D, oD) :: news, p ∈ all) (off : LCg.Off3 I C D news) (hS : S news) (r : P y) :
    LCg.CompEnd h₀ L m s₁ I oI C oC D oD S (fun y news' => CompEl news P y news') y { s₁ with heap := h', toks := tk } := LCg.CompEnd.intro F N news sub off hS ⟨rfl, r⟩
def IsFloatT (y : Value) : Prop := y = .type "float"
end
end Mine
end

section
open PySem PySem.W PySem.Calls PyProof.Rows PySem.Spec
set_option maxRecDepth 100000
set_option maxHeartbeats 1000000
namespace Mine
section
variable {prog : Program} {w : World} {A : Around} {E : Value → Shared → Prop} {s : Shared} {h₀ : Heap} {L : Addr} {m : Str → Option Value} {news : List (Addr × Obj)} {xs : List Value} {l : Addr} {c : Nat} {value slice : Expr}
end
end Mine
end

section
open PySem PySem.W PySem.Calls PyProof.Rows
set_option maxRecDepth 100000
set_option maxHeartbeats 1000000
namespace Mine
/-- a short factor -/
structure Sm (n : Int) : Prop where
  bits : Builtin.Int.intBits n ≤ 64
structure SmAll (us : List Int) : Prop where
  small : ∀ k ∈ us, k.natAbs < 2 ^ 40
theorem SmAll.sm {us : List Int} (h : SmAll us) {k : Int} (hk : k ∈ us) : Sm k := ⟨PySem.intBits_le_64 (by have := h.small k hk; omega) (by have := h.small k hk; omega)⟩
theorem SmAll.at {us : List Int} (h : SmAll us) (i : Nat) : Sm (us.getD i 0) := by
  rcases Nat.lt_or_ge i us.length with c | c
  · rw [List.getD_eq_getElem?_getD, List.getElem?_eq_getElem c]; exact h.sm (List.getElem_mem c)
  · rw [List.getD_eq_getElem?_getD, List.getElem?_eq_none c]; exact ⟨by decide⟩
structure ElF (f : Int → Int) (k : Int) (y : Value) : Prop where
  is : ∃ t, y = .int (f k) t
theorem ints_of {f : Int → Int} : ∀ {ks : List Int} {ys : List Value}, RelI (ElF f) ks ys → IntsAre ys (ks.map f)
  | _, _, .nil => .nil
  | _, _, .cons h t => by
    obtain ⟨u, rfl⟩ := h.is
    exact .cons _ _ (ints_of t)
theorem rng_line {n : Nat} (h : n < 200) : n ≤ sizeLine := by
  have z : 200 ≤ sizeLine := by decide
  omega
section
variable {prog : Program} {w : World} {A : Around} {h₀ : Heap} {L : Addr} {m : Str → Option Value} {env : Env} {elt : Expr} {x : Str} {scope : Scope} {cl : List (Str × Addr)} {s₁ : Shared} {Fin : Shared → List Value → List (Addr × Obj) → Prop} {news : List (Addr × Obj)} {vs us : List Int} {ys xs : List Value} {ay r : Addr} {c : Nat} {t u v : Tok}
end
section
variable {M : Model} {prog : Program} {w : World} {A : Around} {E : Value → Shared → Prop} {s : Shared} {h₀ : Heap} {L a c : Addr} {cn : Str} {cs : Scope} {ccd : Value} {cl : List (Str × Addr)} {news : List (Addr × Obj)} {o : Obj} {v : Value} {x : Str} {m : Str → Option Value} {ys : List Value} {ks : List Int}
theorem mul_l {x y : Int} {t u : Tok} {Q : Value → Shared → Prop} (h : Sm x) (hQ : Q (.int (x * y) s.toks) { s with toks := s.toks + 1 }) : wpAny (model prog w) A (binaryOp .Mult (.int x t) (.int y u)) Q E s := PyProof.Rows.mul_int hQ (IntMulOk.of_left h.bits)
theorem mul_r {x y : Int} {t u : Tok} {Q : Value → Shared → Prop} (h : Sm y) (hQ : Q (.int (x * y) s.toks) { s with toks := s.toks + 1 }) : wpAny (model prog w) A (binaryOp .Mult (.int x t) (.int y u)) Q E s := PyProof.Rows.mul_int hQ (IntMulOk.of_right h.bits)
end
end Mine
end

section
open PySem PySem.W PySem.Calls PyProof.Rows PySem.Spec
set_option maxRecDepth 100000
namespace Mine
section
variable {prog : Program} {w : World} {A : Around} {E : Value → Shared → Prop} {s : Shared} {env : Env} {test : Expr} {body : List Stmt} {pos : Pos} {Q : Flow → Shared → Prop}
/-- what a turn of a while leaves: the invariant at a lesser measure -/
def TurnEnd (J : Nat → Shared → Prop) (n : Nat) (Q : Flow → Shared → Prop) (f : Flow) (s : Shared) : Prop := match f with
  | .next | .cont => ∃ m, m < n ∧ J m s
  | .brk => Q .next s
  | .ret v => Q (.ret v) s
theorem while_inv (hE : PassesOwn (model prog w) A env E) (J : Nat → Shared → Prop) (n : Nat) (h0 : J n s)
    (turn : ∀ n s, J n s → wpAny (model prog w) A (isTrue test env (eval test env)) (fun b s₂ => if b then wpAny (model prog w) A (execs body env) (TurnEnd J n Q) E s₂ else Q .next s₂) E s) :
    wpAny (model prog w) A (exec (.While test body [] pos) env) Q E s := by
  refine wpAny_While (codeAny_whileLoop J (fun n s hJ => ?_) n h0)
  refine wpAny_mono (turn n s hJ) (fun b s₂ h₂ => ?_) hE
  cases b with
  | true =>
    simp only [if_true] at h₂ ⊢
    refine wpAny_mono h₂ (fun f s₃ h₃ => ?_) hE
    cases f <;> exact h₃
  | false =>
    simp only [Bool.false_eq_true, if_false] at h₂ ⊢
    exact wpAny_execs_nil h₂
/-- `half` so far: a power of two, not yet (or just now) past the bound -/
def HalfAt (P H : Int) : Prop := ∃ j : Nat, H = 2 ^ j ∧ (j = 0 ∨ (2 ^ (j - 1) : Int) * 2 ^ 54 ≤ P)
def HalfEnd (g : Heap) (L : Addr) (m : Str → Option Value) (s : Shared) (f : Obj → List (Addr × Obj)) (P H : Int) (Q : Flow → Shared → Prop) (fl : Flow) (s' : Shared) : Prop := match fl with
  | .next | .cont => H * 2 ^ 54 ≤ P ∧ ∃ h tk o t, s' = { s with heap := h, toks := tk } ∧ Fr g L h m ∧ News g L h (f o) ∧ o.data = .cell (some (.int (H * 2) t))
  | .brk => Q .next s'
  | .ret v => Q (.ret v) s'
end
end Mine
end

section
open PySem PySem.W PySem.Calls PyProof.Rows
set_option maxRecDepth 100000
set_option maxHeartbeats 1000000
namespace Mine
theorem zz_OD : True := by
  w_top off
  k_with_none
  trivial
def smallF (k : Int) : Int := if (if k < 0 then -k else k) < 2 ^ Int.toNat 18 then k else k.fmod (2 ^ Int.toNat 18)
theorem small_in {k : Int} (h : (if k < 0 then -k else k) < 2 ^ Int.toNat 18) : smallF k = k := if_pos h
theorem small_out {k : Int} (h : ¬ (if k < 0 then -k else k) < 2 ^ Int.toNat 18) : smallF k = k.fmod (2 ^ Int.toNat 18) := if_neg h
theorem small_t {w : World} {dp un : Nat} {gd : Option (List Code)} {cn : Str} {cs : Scope} {a : Addr} {ccd : Value} {cl : List (Str × Addr)} {A₀ : Around} {base h₀ : Heap} {L : Addr} {m : Str → Option Value} {s : Shared} {Q E : Value → Shared → Prop}
    {mean : ExcName → Option Value} {mg mb : Str → Option Value} {news : List (Addr × Obj)} {x : Int} {t : Tok}
    (B : Below A₀ base [] h₀) (F : Fr h₀ L s.heap m) (N : News h₀ L s.heap news) (T : Top Mine.vw (looseW Mine.vw [Str.ofString "_tuplegetter", Str.ofString "LinearRegression", Str.ofString "linear_regression", Str.ofString "covariance"]) mean mg mb h₀) (hk : cs.kind = .function) (hd : dp + 9 < recursionLimit) (hu : un + 60 < cLine)
    (hQ : ∀ h' tk t', Fr h₀ L h' m → News h₀ L h' news → Q (.int (smallF x) t') { s with heap := h', toks := tk }) :
    (Mine.hd.heap_39 w.params).In h₀ → wpAny (model PySem.Challenge.rw_kq0023_05.row.prog w) (ktrTop dp un gd cn cs L a ccd cl []) (call (.ref 203) [.int x t]) Q E s := by
  k_fill
  intro X
  refine wpAny_call ?_
  refine' code_any0 ?k1 ?k2 ?k3 ?k4 ?k5 ?kA ?kF ?kK ?k6 ?k7 ?k8 ?k9 ?kB ?_ ?c2 ?c3 ?c4 ?c5; (case kA => exact rfl); (case kF => exact rfl); (case kK => exact hk); (case k2 => k_asm); (case k1 => k_asm); (case k3 => k_asm); (case k4 => k_asm); (case k5 => k_asm); (case k6 => k_is); (case k7 => k_is); (case k8 => ktr_room); (case k9 => exact BindsTo.of_eq rfl); (case kB => exact locs rfl); (case c2 => exact rfl); (case c3 => exact rfl); (case c4 => exact rfl); (case c5 => decide)
  intro g' L' h' FG' F' N' B' X' T' D' l1
  (try dsimp only)
  (try k_fold)
  k_steps
  all_goals (try k_data)
  · have e := hQ
    rw [small_in (by assumption)] at e
    exact e _ _ _ (by assumption) (by assumption)
  · have e := hQ
    rw [small_out (by assumption)] at e
    exact e _ _ _ (by assumption) (by assumption)

/-- d is n without its factors 2 -/
structure OddOf (n d : Int) : Prop where
  pos : 1 ≤ d
  odd : d.fmod 2 ≠ 0
  pow : ∃ j : Nat, n = d * 2 ^ j
structure HalfOf (n k : Int) : Prop where
  pos : 1 ≤ k
  pow : ∃ j : Nat, n = k * 2 ^ j
section
variable {prog : Program} {w : World} {A : Around} {E : Value → Shared → Prop} {s : Shared} {env : Env} {test : Expr} {body : List Stmt} {pos : Pos} {Q : Flow → Shared → Prop}
theorem map_at {m : Str → Option Value} {k : Str} {v : Value} (h : m k = some v) : m = fun z => if z = k then some v else m z := by
  funext z
  by_cases e : z = k
  · rw [if_pos e, e, h]
  · rw [if_neg e]
theorem fr_twice {g h : Heap} {L : Addr} {m : Str → Option Value} {k : Str} {a b : Option Value} (F : Fr g L h (fun y => if y = k then a else if y = k then b else m y)) : Fr g L h (fun y => if y = k then a else m y) := by
  have e : (fun y => if y = k then a else if y = k then b else m y) = fun y => if y = k then a else m y := by
    funext y
    by_cases h : y = k
    · rw [if_pos h, if_pos h]
    · rw [if_neg h, if_neg h, if_neg h]
  exact e ▸ F
def OddEnd (g : Heap) (L : Addr) (m : Str → Option Value) (s : Shared) (news : List (Addr × Obj)) (k : Int) (Q : Flow → Shared → Prop) (fl : Flow) (s' : Shared) : Prop := match fl with
  | .next | .cont => k.fmod 2 = 0 ∧ ∃ h tk t, s' = { s with heap := h, toks := tk } ∧ Fr g L h (fun z => if z = Str.ofString "n" then some (.int (k.fdiv 2) t) else m z) ∧ News g L h news
  | .brk => Q .next s'
  | .ret v => Q (.ret v) s'
theorem while_odd {g : Heap} {L : Addr} {m : Str → Option Value} {news : List (Addr × Obj)} {n : Int} {t : Tok} (hE : PassesOwn (model prog w) A env E) (F : Fr g L s.heap m) (hm : m (Str.ofString "n") = some (.int n t)) (N : News g L s.heap news) (hn : 1 ≤ n)
    (turn : ∀ k h tk t, HalfOf n k → Fr g L h (fun z => if z = Str.ofString "n" then some (.int k t) else m z) → News g L h news →
      wpAny (model prog w) A (isTrue test env (eval test env)) (fun b s₂ => if b then wpAny (model prog w) A (execs body env) (OddEnd g L m s news k Q) E s₂ else Q .next s₂) E { s with heap := h, toks := tk }) :
    wpAny (model prog w) A (exec (.While test body [] pos) env) Q E s := by
  refine while_inv hE (fun c s' => ∃ k h tk t, s' = { s with heap := h, toks := tk } ∧ HalfOf n k ∧ Fr g L h (fun z => if z = Str.ofString "n" then some (.int k t) else m z) ∧ News g L h news ∧ c = k.toNat) n.toNat ⟨n, s.heap, s.toks, t, rfl, ⟨hn, 0, by simp⟩, map_at hm ▸ F, N, rfl⟩ ?_
  rintro c s' ⟨k, h, tk, t', rfl, hk, F', N', rfl⟩
  refine wpAny_mono (turn k h tk t' hk F' N') (fun b s₂ h₂ => ?_) fun _ _ e => e
  cases b with
  | false => exact h₂
  | true =>
    simp only [if_true] at h₂ ⊢
    refine wpAny_mono h₂ (fun fl s₃ h₃ => ?_) fun _ _ e => e
    have step : ∀ {s₃ : Shared}, (k.fmod 2 = 0 ∧ ∃ h tk t, s₃ = { s with heap := h, toks := tk } ∧ Fr g L h (fun z => if z = Str.ofString "n" then some (.int (k.fdiv 2) t) else m z) ∧ News g L h news) →
        ∃ c, c < k.toNat ∧ ∃ k h tk t, s₃ = { s with heap := h, toks := tk } ∧ HalfOf n k ∧ Fr g L h (fun z => if z = Str.ofString "n" then some (.int k t) else m z) ∧ News g L h news ∧ c = k.toNat := by
      rintro s₃ ⟨he, h₁, tk₁, t₁, rfl, F₁, N₁⟩
      obtain ⟨hp, j, hj⟩ := hk
      have e1 := Int.mul_fdiv_add_fmod k 2
      rw [he, Int.add_zero] at e1
      refine ⟨(k.fdiv 2).toNat, by omega, k.fdiv 2, h₁, tk₁, t₁, rfl, ⟨by omega, j + 1, ?_⟩, F₁, N₁, rfl⟩
      rw [hj, Int.pow_succ]
      conv => lhs; rw [← e1]
      grind
    cases fl with
    | next => exact step h₃
    | cont => exact step h₃
    | brk => exact h₃
    | ret v => exact h₃
end
def StopO (P : Prop) : Prop := P
theorem stopO_ {P : Prop} (h : StopO P) : P := h
theorem zz_OD_1 : True := by
  k_with "my exec While Compare cons nil" =>
    (k_here; refine stopO_ ?_)
  k_with "my OddEnd" =>
    (refine stopO_ ?_)
  trivial
theorem odd_t {w : World} {dp un : Nat} {gd : Option (List Code)} {cn : Str} {cs : Scope} {a : Addr} {ccd : Value} {cl : List (Str × Addr)} {A₀ : Around} {base h₀ : Heap} {L : Addr} {m : Str → Option Value} {s : Shared} {Q E : Value → Shared → Prop}
    {mean : ExcName → Option Value} {mg mb : Str → Option Value} {news : List (Addr × Obj)} {x : Int} {t : Tok}
    (B : Below A₀ base [] h₀) (F : Fr h₀ L s.heap m) (N : News h₀ L s.heap news) (T : Top Mine.vw (looseW Mine.vw [Str.ofString "_tuplegetter", Str.ofString "LinearRegression", Str.ofString "linear_regression", Str.ofString "covariance"]) mean mg mb h₀) (hk : cs.kind = .function) (hd : dp + 9 < recursionLimit) (hu : un + 60 < cLine) (hx : 1 ≤ x)
    (hQ : ∀ h' tk d t', OddOf x d → Fr h₀ L h' m → News h₀ L h' news → Q (.int d t') { s with heap := h', toks := tk }) :
    (Mine.hd.heap_39 w.params).In h₀ → wpAny (model PySem.Challenge.rw_kq0023_05.row.prog w) (ktrTop dp un gd cn cs L a ccd cl []) (call (.ref 196) [.int x t]) Q E s := by
  k_fill
  intro X
  refine wpAny_call ?_
  refine' code_any0 ?k1 ?k2 ?k3 ?k4 ?k5 ?kA ?kF ?kK ?k6 ?k7 ?k8 ?k9 ?kB ?_ ?c2 ?c3 ?c4 ?c5; (case kA => exact rfl); (case kF => exact rfl); (case kK => exact hk); (case k2 => k_asm); (case k1 => k_asm); (case k3 => k_asm); (case k4 => k_asm); (case k5 => k_asm); (case k6 => k_is); (case k7 => k_is); (case k8 => ktr_room); (case k9 => exact BindsTo.of_eq rfl); (case kB => exact locs rfl); (case c2 => exact rfl); (case c3 => exact rfl); (case c4 => exact rfl); (case c5 => decide)
  intro g' L' h' FG' F' N' B' X' T' D' l1
  (try dsimp only)
  (try k_fold)
  k_steps
  unfold StopO
  refine while_odd (by passes_own) (by assumption) (t := t) ?hm N' hx (fun k h tk t hk FF NN => ?_)
  case hm => rfl
  clear F' N'
  k_steps
  all_goals (try k_data)
  · unfold StopO
    rename News _ _ _ _ => N2
    rename Fr _ _ _ _ => F2
    exact ⟨by assumption, _, _, _, rfl, fr_twice F2, N2⟩
  · exact hQ _ _ _ _ ⟨hk.pos, by assumption, hk.pow⟩ (by assumption) (by assumption)
end Mine
end

section
open PySem PySem.W PySem.Calls PyProof.Rows PySem.Spec
set_option maxRecDepth 100000
set_option maxHeartbeats 1000000
namespace Mine
section
variable {prog : Program} {w : World} {A₀ A : Around} {s : Shared} {base h₀ : Heap} {L : Addr} {m : Str → Option Value} {env : Env} {news : List (Addr × Obj)} {K : Frag} {p : Program} {loose : List Str} {mean : ExcName → Option Value} {mg mb : Str → Option Value}
    {R : Result → Shared → Prop} {name qual : Str} {params : Arguments} {body : List Stmt} {scope : Scope} {dV kV doc pm cdv ct oc : Value} {an od : Option Addr} {osl : Array (Option Value)} {f : Addr} {args : Args} {binds : List (Str × Value)}
/-- a def with cells of its own, called with a frame of any kind ahead of it -/
theorem code_anyC (B : Below A₀ base [] h₀) (F : Fr h₀ L s.heap m) (X₀ : K.In h₀) (N : News h₀ L s.heap news) (T : Top p loose mean mg mb h₀) (hA : A.frames = some [env]) (hf : env.frame = some L) (hke : env.scope.kind = .function)
    (ho : K.lookup f = some ⟨oc, od, .func (fnOf name qual params body scope dV kV doc pm an cdv ct), osl⟩) (hcd : codeIn K cdv qual = true) (hroom : A.depth < recursionLimit)
    (hbind : BindsTo s (fnOf name qual params body scope dV kV doc pm an cdv ct) args binds) (hkind : (binds.all fun y => scope.names.lookup y.1 == some .local || scope.names.lookup y.1 == some .cell) = true)
    (hnd : ((cellsFrom 0 scope.names []).map (·.1)).Nodup)
    (h : ∀ g L' h₁ tk cells, Fr h₀ L g m → Fr g L' h₁ (bindL (envOfC qual scope L' f cdv).kindOf binds fun _ => none) → News g L' h₁ (cells ++ news) → CellsAre (bindC (envOfC qual scope L' f cdv).kindOf binds fun _ => none) (cellsFrom (L' + 1) scope.names []) cells → Below A base [env] g → K.In g → Top p loose mean mg mb g → KtsDicts ([env].filterMap (·.frame)) g → (∀ p ∈ news, p.1 < L') →
      wpAny (model prog w) (A.deeper (envOfC qual scope L' f cdv)) (execs body (envOfC qual scope L' f cdv))
        (fun fl s' => LeaveS0 ([env].filterMap (·.frame)) h₀ L m g R (match fl with | .ret v => v | _ => .none) s')
        (fun e s' => wpAny (model prog w) (A.deeper (envOfC qual scope L' f cdv)) (leaving (envOfC qual scope L' f cdv) e) (fun _ s'' => R (.error e) s'') (fun e' s'' => R (.error e') s'') s')
        { s with heap := h₁, toks := tk })
    (hco : scope.isCoroutine = false) (hgen : scope.isGenerator = false) (hk : scope.kind = .function) : codeAny (model prog w) A (.call (.ref f) args) R s := by
  obtain ⟨oL, es, ep, gL, gd, gN, gS, gB⟩ := enter_any B F N hA hf hke
  have X := X₀.keeps F.keep
  have fs : [env].filterMap (·.frame) = [L] := by simp [hf]
  refine codeAny_call_function hroom (X _ _ ho) rfl hco hgen rfl (codeRec_of X hcd) (hbind _ _ _ _ ?_)
  refine wpAny_newFunctionEnv_cells hk (kindsX hkind _) fun env' he s' x => ?_
  subst he
  refine ⟨(T.nolimit.keeps F.keep).keeps x.toInCall.keep, codeAny_func ?_⟩
  obtain ⟨h₁, tk, rfl, _⟩ := x.done
  have hk₁ := x.toInCall.keep
  obtain ⟨cells, NC, Y⟩ := Cl.news (h₀ := s.heap) (Nat.le_refl _) fun n c hm => ⟨x.cell n c (lookup_of_mem_nodup (cellsFrom_names scope.names 0 (s.heap.objs.size + 1) [] [] rfl ▸ hnd) hm), x.above n c hm⟩
  have below : ∀ q ∈ news, q.1 < s.heap.objs.size := fun q hq => Heap.lt_size (N q hq).1
  refine wpAny_mono (h _ s.heap.objs.size h₁ tk cells ⟨gN _ _ gL, gS, F.above⟩ ⟨x.toInCall.ns, fun b o e => hk₁ b o (of_hideAll _ e), Nat.le_of_eq (hideAll_size _ _)⟩ (fun p hp => ?_) Y gB (X₀.keeps gS) (T.keeps gS)
    (fun b hb => by rw [fs, List.mem_singleton] at hb; subst hb; exact ⟨oL, es, ep, gL, gd⟩) below) (fun fl s' hl => ?_) fun _ _ y => y
  · rcases List.mem_append.mp hp with hp | hp
    · refine ⟨(NC p hp).1, (NC p hp).2.1, ?_⟩
      cases q : (hideAll s.heap (news.map (·.1))).get? p.1 with
      | none => rfl
      | some o => have := of_hideAll _ q; rw [(NC p hp).2.2] at this; cases this
    · exact ⟨hk₁ _ _ (N p hp).1, Nat.ne_of_lt (Heap.lt_size (N p hp).1), hideAll_none _ (List.mem_map_of_mem hp)⟩
  · obtain ⟨g', L', m', news', TT, F', N', k⟩ := hl
    rw [fs] at TT
    obtain ⟨sl, eL⟩ := TT.up gL
    have back : ∀ b o, h₀.get? b = some o → g'.get? b = some o := fun b o e => TT.other b o (gS b o e) fun q => by
      rw [List.mem_singleton.mp q, kts_self F] at e; cases e
    refine k ⟨gN sl _ (F'.keep _ _ eL), fun b o e => F'.keep b o (back b o e), F.above⟩ fun q hq => ⟨(N' q hq).1, fun z => ?_, ?_⟩
    · have := (N' q hq).2.2
      rw [z, eL] at this; cases this
    · cases e : h₀.get? q.1 with
      | none => rfl
      | some o => have := (N' q hq).2.2; rw [back _ _ e] at this; cases this
end
end Mine
end

section
open PySem PySem.W PySem.Calls PyProof.Rows PySem.Spec Float64
set_option maxRecDepth 100000
set_option maxHeartbeats 1000000
namespace Mine
section
variable {prog : Program} {w : World} {A : Around} {E : Value → Shared → Prop} {s s5 : Shared} {a C I ax ay : Addr} {ks : List Addr} {g n : Nat} {F : Nat → Value → Prop} {xs : List Value} {Q : Value → Shared → Prop}
theorem moved_eqG {s s' : Shared} {wr : List Addr} {G : Array GenState → Array GenState → Prop} (hm : Moved wr G s s') : s' = ⟨s'.heap, s'.gens, s.drawn, s'.toks, s.os⟩ := by
  obtain ⟨h', g', d', t', o'⟩ := s'
  obtain ⟨_, hg, hd, ho, _⟩ := hm
  simp only at hd ho
  rw [hd, ho]
theorem GenIs.in1 (hG : GenIs prog w A a C I ay ks g n F s5) : WalksS prog w A.in1 a (a :: C :: I :: ay :: cStatics :: ks) (C :: [I]) (GenOnlyQ g) n (fun j y => F j y) (GenAt prog w A.in4 a g C (I :: ay :: cStatics :: ks) [I] allOf n F) := by
  have W : WalksS prog w A.in1 a (a :: C :: I :: ay :: cStatics :: ks) (C :: [I]) (GenOnlyQ g) (passing allOf n 0).length (fun j y => ∃ i, (passing allOf n 0)[j]? = some i ∧ F i y) (GenAt prog w A.in4 a g C (I :: ay :: cStatics :: ks) [I] allOf n F) :=
    WalksS.of_in1 (WalksS.of_in1 (WalksS.of_in1 hG.walks))
  rw [passing_all, List.length_range] at W
  exact { W with
    item := fun i s Q E hi st hQ => W.item i s Q E hi st fun v s' hP => hQ v s' (by
      obtain ⟨j, hj, hF⟩ := hP
      have : i = j := by
        rw [List.getElem?_range hi] at hj
        exact Option.some.inj hj
      exact this ▸ hF) }
theorem two_list_gen (hA : A.in1.handled = none) (hG : GenIs prog w A a C I ay ks g n F s5) {I1 : Addr} (h1 : ax ≠ I1) (hfp : ∀ b ∈ (a :: C :: I :: ay :: cStatics :: ks), b ≠ I1) (hC : C ≠ ax) (hI : I ≠ ax) (xa : Array Value) (e : xa.size = n) :
    Two prog w A.in1 I1 a [I1, ax] [I1] (a :: C :: I :: ay :: cStatics :: ks) (C :: [I]) (fun a b => b = a) (GenOnlyQ g) (GenOnlyQ g) n (fun i v => xa[i]? = some v) F
      (fun i s => s.heap.IsListIter I1 ax i ∧ s.heap.IsList ax xa) (GenAt prog w A.in4 a g C (I :: ay :: cStatics :: ks) [I] allOf n F) where
  W1 := by rw [← e]; exact (Walks.list hA I1 ax h1 xa).toS
  W2 := hG.in1
  fr1 := fun i s s' st hm => by
    have hc : C ≠ I1 := hfp C (by simp)
    have hi : I ≠ I1 := hfp I (by simp)
    exact ⟨st.1.at fun o e => hm.heap _ o (by simp [Ne.symm hc, Ne.symm hi]) e, st.2.at fun o e => hm.heap _ o (by simp [Ne.symm hC, Ne.symm hI]) e⟩
  fr2 := fun i s s' st hm => by
    rw [moved_eq hm]
    exact hG.in1.frame i s _ _ st hm.toks fun b hb o e => hm.heap b o (by simpa using hfp b hb) e
  g1 := fun _ _ e => .inl e
  g2 := fun _ _ e => e
  grefl := fun _ => .inl rfl
  gtrans := fun _ _ _ a b => a.trans b
theorem sumprod_list_gen (hA : A.in1.handled = none) (hl : s.heap.IsList ax xs.toArray) (hG : GenIs prog w A a C I ay ks g n F s5) (hst : GenAt prog w A.in4 a g C (I :: ay :: cStatics :: ks) [I] allOf n F 0 s) (hxn : xs.length = n) (hn : 0 < n)
    (hfp : ∀ b ∈ (a :: C :: I :: ay :: cStatics :: ks), b < s.heap.objs.size) (hC : C ≠ ax) (hI : I ≠ ax) (v1 v2 pr : Nat → Int) (hv1 : ∀ i v, xs[i]? = some v → NumV v (v1 i)) (hv2 : ∀ i y, F i y → NumV y (v2 i) ∧ isF y = true)
    (hpr : ∀ i, i < n → v1 i * v2 i = pr i * 2 ^ 1074 ∧ Fits (pr i)) (hfit : ∀ j, j ≤ n → Fits (preSum pr j))
    (h : ∀ h' gs' tk r t, (∀ b o, b ≠ C → b ≠ I → s.heap.get? b = some o → h'.get? b = some o) → GenOnlyQ g s.gens gs' → s.toks ≤ tk → Ex r (preSum pr n) → Q (.float r t) ⟨h', gs', s.drawn, tk, s.os⟩) :
    wpAny (model prog w) A (call (.builtin "math.sumprod") [.ref ax, .ref a]) Q E s := by
  have hlt : ax < s.heap.objs.size := by obtain ⟨_, e, _⟩ := hl; exact Heap.lt_size e
  refine call_sumprod_flt (wpAny_pyIter_list hl ?_)
  have hst2 : GenAt prog w A.in4 a g C (I :: ay :: cStatics :: ks) [I] allOf n F 0 { s with heap := s.heap.push { cls := .type "list_iterator", data := .fields #[.ref ax, .int 0 0] } } :=
    hG.in1.frame 0 s _ s.toks hst (Nat.le_refl _) fun b _ o e => Heap.get?_push_of_some _ e
  refine hG.in1.self 0 _ _ _ hst2 ?_
  have hne : ∀ b ∈ (a :: C :: I :: ay :: cStatics :: ks), b ≠ s.heap.objs.size := fun b hb => Nat.ne_of_lt (hfp b hb)
  refine ⟨s.heap.objs.size, a, _, _, _, _, _, _, _, n, _, _, _, _, v1, v2, pr, rfl, rfl, two_list_gen hA hG (Nat.ne_of_lt hlt) hne hC hI xs.toArray (by simpa using hxn), ⟨⟨_, Heap.get?_push_size _ rfl, rfl, rfl⟩, hl.push _⟩, hst2, ?_, ?_, ?_, hpr, hfit, hn, ?_⟩
  · intro b hb
    show b < (s.heap.push _).objs.size
    rw [Heap.size_push]
    rcases List.mem_cons.mp hb with rfl | hb
    · exact Nat.lt_succ_self _
    · rw [List.mem_singleton.mp hb]; exact Nat.lt_succ_of_lt hlt
  · intro b hb
    show b < (s.heap.push _).objs.size
    rw [Heap.size_push]
    exact Nat.lt_succ_of_lt (hfp b hb)
  · intro i x y hx hy
    have := hv2 i y hy
    exact ⟨hv1 i x (by simpa using hx), this.1, by rw [this.2]; simp⟩
  · intro s' r t hm hr
    rw [moved_eqG hm]
    refine h s'.heap s'.gens s'.toks r t (fun b o hb hb2 e => ?_) hm.gens hm.toks hr
    refine hm.heap b o (fun hbm => ?_) (Heap.get?_push_of_some _ e)
    have hlb := Heap.lt_size e
    simp only [List.cons_append, List.nil_append] at hbm
    rcases List.mem_cons.mp hbm with rfl | hbm
    · exact Nat.lt_irrefl _ hlb
    · rcases List.mem_cons.mp hbm with h | hbm
      · exact hb h
      · exact hb2 (List.mem_singleton.mp hbm)
end
end Mine
end

section
open PySem PySem.W PySem.Calls PyProof.Rows PySem.Spec Float64
set_option maxRecDepth 100000
set_option maxHeartbeats 1000000
namespace Mine
structure SubAt (ws : List Int) (Y : Int) (i : Nat) (y : Value) : Prop where
  is : ∃ r t, y = .float r t ∧ Ex r (ws.getD i 0 - Y)
section
variable {prog : Program} {w : World} {A : Around} {E : Value → Shared → Prop} {s : Shared} {g : Heap} {L ay c P cyb : Addr} {m : Str → Option Value} {all : List (Addr × Obj)} {f : Obj → List (Addr × Obj)} {env : Env} {x z : Str} {px pz p1 p2 p3 pos : Pos} {iter : Expr} {scope : Scope} {cl : List (Str × Addr)} {ys : List Value} {cy : Nat} {ws : List Int} {yb : UInt64} {tb : Tok} {Y : Int} {oyb : Obj} {mg : Str → Option Value} {Q : Value → Shared → Prop}
theorem eval_local {env : Env} {s : Shared} {v : Value} (hd : (x == ("__debug__" : Str)) = false) (hk : env.scope.kind = .function) (hl : env.kindOf x = some .local) {m₂ : Str → Option Value} (hn : s.heap.Ns env.locals m₂) (hv : m₂ x = some v) (h : Q v s) : wpAny (model prog w) A (eval (.Name x px) env) Q E s := by
  rw [eval_Name _ _ _ hd]
  exact wpAny_bind (wpAny_standAt (wpAny_loadName_local hk hl hn hv h))
theorem eval_free {env : Env} {s : Shared} {v : Value} {cx : Addr} (hd : (x == ("__debug__" : Str)) = false) (hk : env.scope.kind = .function) (hl : env.kindOf x = some .free) (hc : env.cells.lookup x = some cx) (hv : s.heap.IsCell cx (some v)) (hn : (x == ("__classdict__" : Str)) = false) (h : Q v s) : wpAny (model prog w) A (eval (.Name x px) env) Q E s := by
  rw [eval_Name _ _ _ hd]
  exact wpAny_bind (wpAny_standAt (wpAny_loadName_free hk hl hc hv h hn))
structure GenReady (prog : Program) (w : World) (A : Around) (g : Heap) (a C I ay cyb : Addr) (oa oC oI oy oyb : Obj) (g0 n : Nat) (F : Nat → Value → Prop) (gs : Array GenState) (dr : Drawn) (os : OsState) (tk : Nat) : Prop where
  is : ∃ s5, GenIs prog w A a C I ay [cyb] g0 n F s5
  now : ∀ h' tk', tk ≤ tk' → h'.get? a = some oa → h'.get? C = some oC → h'.get? I = some oI → h'.get? ay = some oy → h'.get? cyb = some oyb → (∀ o, g.get? cStatics = some o → h'.get? cStatics = some o) → GenAt prog w A.in4 a g0 C (I :: ay :: cStatics :: [cyb]) [I] allOf n F 0 ⟨h', gs, dr, tk', os⟩
theorem gen_ready {gs : Array GenState} {dr : Drawn} {os : OsState} {tk : Nat} {h₅ : Heap} {a C I : Addr} {oa oC oI oy : Obj} {g0 n : Nat} {F : Nat → Value → Prop} (hlim : g.NoLimit) (Fr5 : ∀ b o, g.get? b = some o → h₅.get? b = some o) (ha : h₅.get? a = some oa) (hC : h₅.get? C = some oC) (hI : h₅.get? I = some oI) (hy : h₅.get? ay = some oy) (hyb : h₅.get? cyb = some oyb)
    (hG : GenIs prog w A a C I ay [cyb] g0 n F ⟨h₅, gs, dr, tk, os⟩) : GenReady prog w A g a C I ay cyb oa oC oI oy oyb g0 n F gs dr os tk :=
  ⟨⟨_, hG⟩, fun h' tk' ht a1 a2 a3 a4 a5 a6 => hG.in1.frame 0 _ h' tk' hG.at0 ht fun b hb o e => by
    have e : h₅.get? b = some o := e
    obtain ⟨_, hns, _⟩ := hlim
    obtain ⟨os', _, _, hos, _⟩ := hns
    rcases List.mem_cons.mp hb with rfl | hb
    · rw [ha] at e; cases e; exact a1
    · rcases List.mem_cons.mp hb with rfl | hb
      · rw [hC] at e; cases e; exact a2
      · rcases List.mem_cons.mp hb with rfl | hb
        · rw [hI] at e; cases e; exact a3
        · rcases List.mem_cons.mp hb with rfl | hb
          · rw [hy] at e; cases e; exact a4
          · rcases List.mem_cons.mp hb with rfl | hb
            · rw [Fr5 _ _ hos] at e; cases e; exact a6 _ hos
            · rw [List.mem_singleton.mp hb] at e ⊢
              rw [hyb] at e; cases e; exact a5⟩
theorem sum_gen {rest : List (Addr × Obj)} {a C I ax : Addr} {oa oC oI oy : Obj} {xs : List Value} {us : List Int} {cx g0 n tk5 : Nat} {gs : Array GenState} {dr : Drawn} {os : OsState} (pr : Nat → Int) {h : Heap} {tk : Nat}
    (hA : A.in1.handled = none) (F : Fr g L h m) (N : News g L h ((a, oa) :: (C, oC) :: (I, oI) :: rest)) (hR : GenReady prog w A g a C I ay cyb oa oC oI oy oyb g0 n (SubAt ws Y) gs dr os tk5) (hlim : g.NoLimit) (htk : tk5 ≤ tk) (hlt : ∀ p ∈ rest, p.1 < a ∧ p.1 < C ∧ p.1 < I)
    (hy : (ay, oy) ∈ rest) (hyb : (cyb, oyb) ∈ rest) (hx : (ax, listOf xs.toArray cx) ∈ rest) (hn : NumsAre xs us) (hln : xs.length = n) (hpos : 0 < n)
    (hpr : ∀ i, i < n → us.getD i 0 * (ws.getD i 0 - Y) = pr i * 2 ^ 1074 ∧ Fits (pr i)) (hfit : ∀ j, j ≤ n → Fits (preSum pr j))
    (k : ∀ h' gs' tk' r t, Fr g L h' m → News g L h' rest → GenOnlyQ g0 gs gs' → tk ≤ tk' → Ex r (preSum pr n) → Q (.float r t) ⟨h', gs', dr, tk', os⟩) :
    wpAny (model prog w) A (call (.builtin "math.sumprod") [.ref ax, .ref a]) Q E ⟨h, gs, dr, tk, os⟩ := by
  obtain ⟨s5, hG⟩ := hR.is
  have ma := (N _ (.head _))
  have mC := (N _ (.tail _ (.head _)))
  have mI := (N _ (.tail _ (.tail _ (.head _))))
  have mr : ∀ p ∈ rest, h.get? p.1 = some p.2 ∧ p.1 ≠ L ∧ g.get? p.1 = none := fun p hp => N p (.tail _ (.tail _ (.tail _ hp)))
  have hst := hR.now h tk htk ma.1 mC.1 mI.1 (mr _ hy).1 (mr _ hyb).1 fun o e => F.keep _ _ e
  obtain ⟨_, hns, _⟩ := hlim
  obtain ⟨os', _, _, hos, _⟩ := hns
  refine sumprod_list_gen (s := ⟨h, gs, dr, tk, os⟩) hA ⟨_, (mr _ hx).1, rfl, _, rfl⟩ hG hst hln hpos (fun b hb => ?_) (Nat.ne_of_gt (hlt _ hx).2.1) (Nat.ne_of_gt (hlt _ hx).2.2) (fun i => us.getD i 0) (fun i => ws.getD i 0 - Y) pr (fun i v hv => hn.2 i v hv) (fun i y hy => ?_) hpr hfit fun h' gs' tk' r t hk hgs ht hr => ?_
  · show b < h.objs.size
    rcases List.mem_cons.mp hb with rfl | hb
    · exact Heap.lt_size ma.1
    · rcases List.mem_cons.mp hb with rfl | hb
      · exact Heap.lt_size mC.1
      · rcases List.mem_cons.mp hb with rfl | hb
        · exact Heap.lt_size mI.1
        · rcases List.mem_cons.mp hb with rfl | hb
          · exact Heap.lt_size (mr _ hy).1
          · rcases List.mem_cons.mp hb with rfl | hb
            · exact Heap.lt_size (F.keep _ _ hos)
            · rw [List.mem_singleton.mp hb]; exact Heap.lt_size (mr _ hyb).1
  · obtain ⟨r, t, rfl, hr⟩ := hy.is
    exact ⟨.float t hr, rfl⟩
  · have hkC : ∀ b o, h.get? b = some o → b ≠ C → b ≠ I → h'.get? b = some o := fun b o e h1 h2 => hk b o h1 h2 e
    refine k h' gs' tk' r t ⟨F.ns.at' fun o e => hkC L o e (Ne.symm mC.2.1) (Ne.symm mI.2.1), fun b o e => hkC b o (F.keep b o e) (fun eb => ?_) (fun eb => ?_), F.above⟩ (fun p hp => ⟨hkC _ _ (mr p hp).1 (Nat.ne_of_lt (hlt p hp).2.1) (Nat.ne_of_lt (hlt p hp).2.2), (mr p hp).2⟩) hgs ht hr
    · have := mC.2.2; rw [← eb, e] at this; cases this
    · have := mI.2.2; rw [← eb, e] at this; cases this
end
end Mine
end

section
open PySem PySem.W PySem.Calls PyProof.Rows PySem.Spec Float64
set_option maxRecDepth 100000
set_option maxHeartbeats 1000000
namespace Mine
/-- what the line that goes not through the origin asks of its points (all times 2^1074) -/
structure FullOk (xs ys : List Value) (us ws : List Int) (n : Nat) (Xb Yb : Int) (pr qr : Nat → Int) : Prop where
  nx : NumsAre xs us
  ny : NumsAre ys ws
  lx : xs.length = n
  ly : ys.length = n
  fx : ∀ j, j ≤ us.length → Fits (us.take j).sum
  fy : ∀ j, j ≤ ws.length → Fits (ws.take j).sum
  sx : us.sum = Xb * n
  sy : ws.sum = Yb * n
  fxb : Fits Xb
  fyb : Fits Yb
  fn : Fits ((n : Int) * 2 ^ 1074)
  dx : ∀ i, i < n → Fits (us.getD i 0 - Xb)
  dy : ∀ i, i < n → Fits (ws.getD i 0 - Yb)
  pxy : ∀ i, i < n → (us.getD i 0 - Xb) * (ws.getD i 0 - Yb) = pr i * 2 ^ 1074 ∧ Fits (pr i)
  pxx : ∀ i, i < n → (us.getD i 0 - Xb) * (us.getD i 0 - Xb) = qr i * 2 ^ 1074 ∧ Fits (qr i)
  sxy : ∀ j, j ≤ n → Fits (preSum pr j)
  sxx : ∀ j, j ≤ n → Fits (preSum qr j)
structure FullEnd (n : Nat) (Xb Yb : Int) (pr qr : Nat → Int) (Sl M : Int) : Prop where
  ne : preSum qr n ≠ 0
  sl : preSum pr n * 2 ^ 1074 = Sl * preSum qr n
  fsl : Fits Sl
  m : Sl * Xb = M * 2 ^ 1074
  fm : Fits M
  fi : Fits (Yb - M)
structure TokOk (t : Tok) : Prop where
  ne : t ≠ 0
theorem TokOk.pos {t : Tok} (h : 0 < t) : TokOk t := ⟨Nat.ne_of_gt h⟩
theorem TokOk.lt {t : Tok} (h : TokOk t) : 0 < t := Nat.pos_of_ne_zero h.ne
theorem tok_keep {α : Type} {M : Model} {A : Around} {t : Sem α} {Q : α → Shared → Prop} {E : Value → Shared → Prop} {h : Heap} {g : Array GenState} {d : Drawn} {X : Nat} {o : OsState} (k : ∀ tk, TokOk tk → wpAny M A t Q E ⟨h, g, d, tk, o⟩) : wpAny M A t Q E ⟨h, g, d, X + 1, o⟩ := k _ (.pos (Nat.succ_pos _))
structure SubL (zs : List Value) (us : List Int) (Xb : Int) (n : Nat) : Prop where
  nums : NumsAre zs (us.map fun u => u - Xb)
  allF : AllF zs
  len : zs.length = n
section
variable {prog : Program} {w : World} {A : Around} {E : Value → Shared → Prop} {s : Shared} {h₀ : Heap} {L a : Addr} {m : Str → Option Value} {news : List (Addr × Obj)} {xs ys : List Value} {us ws : List Int} {n c : Nat} {Xb Yb Sl M : Int} {pr qr : Nat → Int} {r xb yb : UInt64} {t tb tk2 : Tok} {v : Value}
theorem fsum_x {Q : Value → Shared → Prop} (K : FullOk xs ys us ws n Xb Yb pr qr) (hA : A.in1.handled = none) (hA0 : A.handled = none) (F : Fr h₀ L s.heap m) (N : News h₀ L s.heap news) (hm : (a, listOf xs.toArray c) ∈ news)
    (h : ∀ h' tk r t, Fr h₀ L h' m → News h₀ L h' news → Ex r (Xb * n) → Q (.float r t) { s with heap := h', toks := tk }) : wpAny (model prog w) A (call (.builtin "math.fsum") [.ref a]) Q E s :=
  fsum_list hA0 (N.isList hm) K.nx K.fx fun h' tk r t hk _ hr => h h' tk r t (F.keeps hk) (N.grown hk) (hr.to K.sx)
theorem fsum_y {Q : Value → Shared → Prop} (K : FullOk xs ys us ws n Xb Yb pr qr) (hA : A.in1.handled = none) (hA0 : A.handled = none) (F : Fr h₀ L s.heap m) (N : News h₀ L s.heap news) (hm : (a, listOf ys.toArray c) ∈ news)
    (h : ∀ h' tk r t, Fr h₀ L h' m → News h₀ L h' news → Ex r (Yb * n) → Q (.float r t) { s with heap := h', toks := tk }) : wpAny (model prog w) A (call (.builtin "math.fsum") [.ref a]) Q E s :=
  fsum_list hA0 (N.isList hm) K.ny K.fy fun h' tk r t hk _ hr => h h' tk r t (F.keeps hk) (N.grown hk) (hr.to K.sy)
theorem div_x {Q : Value → Shared → Prop} (K : FullOk xs ys us ws n Xb Yb pr qr) (hn : 0 < n) (hr : Ex r (Xb * n)) (h : ∀ r t, Ex r Xb → Q (.float r t) { s with toks := s.toks + 1 }) : wpAny (model prog w) A (binaryOp .Div (.float r t) (.int xs.length tk2)) Q E s := by
  rw [K.lx]
  exact float_div_int hr (by omega) K.fn rfl K.fxb h
theorem div_y {Q : Value → Shared → Prop} (K : FullOk xs ys us ws n Xb Yb pr qr) (hn : 0 < n) (hr : Ex r (Yb * n)) (h : ∀ r t, Ex r Yb → Q (.float r t) { s with toks := s.toks + 1 }) : wpAny (model prog w) A (binaryOp .Div (.float r t) (.int xs.length tk2)) Q E s := by
  rw [K.lx]
  exact float_div_int hr (by omega) K.fn rfl K.fyb h
theorem sub_x {Q : Value → Shared → Prop} {i : Nat} (K : FullOk xs ys us ws n Xb Yb pr qr) (hi : i < n) (hv : NumV v (us.getD i 0)) (hE : Ex xb Xb) (h : ∀ r t, Ex r (us.getD i 0 - Xb) → Q (.float r t) { s with toks := s.toks + 1 }) : wpAny (model prog w) A (binaryOp .Sub v (.float xb tb)) Q E s :=
  num_sub hv hE (K.dx i hi) h
theorem nums_sub {zs : List Value} (hl : zs.length = us.length) (h : ∀ i y, zs[i]? = some y → SubAt us Xb i y) : NumsAre zs (us.map fun u => u - Xb) ∧ AllF zs := by
  refine ⟨⟨by rw [List.length_map]; exact hl, fun i v hv => ?_⟩, fun v hv => ?_⟩
  · obtain ⟨r, t, rfl, hr⟩ := (h i v hv).is
    have hi : i < us.length := by
      rcases Nat.lt_or_ge i zs.length with c | c
      · omega
      · rw [List.getElem?_eq_none c] at hv; cases hv
    have e : (us.map fun u => u - Xb).getD i 0 = us.getD i 0 - Xb := by
      rw [List.getD_eq_getElem?_getD, List.getD_eq_getElem?_getD, List.getElem?_map, List.getElem?_eq_getElem hi]; rfl
    rw [e]; exact .float t hr
  · obtain ⟨i, hi, e⟩ := List.mem_iff_getElem.mp hv
    obtain ⟨r, t, rfl, _⟩ := (h i v (by rw [List.getElem?_eq_getElem hi, e])).is
    rfl
theorem getD_sub {i : Nat} (hi : i < us.length) : (us.map fun u => u - Xb).getD i 0 = us.getD i 0 - Xb := by
  rw [List.getD_eq_getElem?_getD, List.getD_eq_getElem?_getD, List.getElem?_map, List.getElem?_eq_getElem hi]; rfl
section
variable {env : Env} {elt : Expr} {x : Str} {scope : Scope} {cl : List (Str × Addr)} {Fin : Shared → List Value → List (Addr × Obj) → Prop} {ax : Addr}
theorem src_sub (K : FullOk xs ys us ws n Xb Yb pr qr) (hn : n < 200) (hh : A.handled = none) (F : Fr h₀ L s.heap m) (N : News h₀ L s.heap news) (hm : (ax, listOf xs.toArray c) ∈ news)
    (turn : ∀ (i : Nat) v I oI C oC D' m₂ zs h tk (E' : Value → Shared → Prop), i < n → NumV v (us.getD i 0) → LCg.NsObj oC m₂ → m₂ x = some v → Fr h₀ L h m → News h₀ L h ((I, oI) :: (C, oC) :: (D', LCg.lst zs) :: news) → LCg.Off3 I C D' news → ((@Ne Nat I C) ∧ (@Ne Nat I D') ∧ (@Ne Nat C D')) →
      wpAny (model prog w) A (eval elt (compEnvC scope cl C env)) (LCg.CompEnd h₀ L m ⟨h, s.gens, s.drawn, tk, s.os⟩ I oI C oC D' (LCg.lst zs) (LCg.SrcAt h₀ ax xs.toArray) (fun y news' => CompEl news (SubAt us Xb i) y news')) E' ⟨h, s.gens, s.drawn, tk, s.os⟩)
    (fin : ∀ g zs, SubL zs us Xb n → zs.length < 200 → Fin ⟨g, s.gens, s.drawn, s.toks, s.os⟩ zs news) :
    LCg.CompSrc prog w A h₀ L m env elt x scope cl Fin (.ref ax) s := by
  have z : 200 ≤ sizeLine := by decide
  have lu : us.length = n := by rw [← K.nx.1, K.lx]
  refine LCg.CompSrc.ledger hh F N hm (by rw [List.size_toArray, K.lx]; omega) fun g => ?_
  rw [List.size_toArray, K.lx]
  suffices key : ∀ (j i : Nat) (zs : List Value), i + j = n → zs.length = i → (∀ k y, zs[k]? = some y → SubAt us Xb k y) → LCg.CompRest prog w A h₀ L m env elt x scope cl { s with heap := g } (LCg.SrcAt h₀ ax xs.toArray) (fun i v => xs.toArray[i]? = some v) (Fin { s with heap := g }) j i zs news from key n 0 [] (by omega) rfl (fun k y hk => by simp at hk)
  intro j
  induction j with
  | zero =>
    intro i zs hi hz hR
    have := nums_sub (zs := zs) (us := us) (Xb := Xb) (by omega) hR
    exact LCg.CompRest.zero (fin g zs ⟨this.1, this.2, by omega⟩ (by omega))
  | succ j ih =>
    intro i zs hi hz hR
    refine LCg.CompRest.succ fun v I oI C oC D m₂ h tk E' hv hC hx F N off ne => ?_
    have hk : xs[i]? = some v := by simpa using hv
    refine wpAny_mono (turn i v I oI C oC D m₂ zs h tk E' (by omega) (K.nx.2 i v hk) hC hx F N off ne) (fun y s₂ hq => ?_) fun _ _ e => e
    obtain ⟨h', tk', nw, e, F', N', off', hS, rfl, hy'⟩ := hq
    refine ⟨h', tk', nw, e, F', N', off', hS, ih (i + 1) _ (by omega) (by simp [hz]) fun k y hky => ?_⟩
    rcases Nat.lt_or_ge k zs.length with c | c
    · rw [List.getElem?_append_left c] at hky; exact hR k y hky
    · rw [List.getElem?_append_right c] at hky
      rcases Nat.eq_zero_or_pos (k - zs.length) with e0 | e0
      · rw [e0] at hky
        have : k = i := by omega
        subst this
        cases hky
        exact hy'
      · rw [List.getElem?_eq_none (by show 1 ≤ _; exact e0)] at hky; cases hky
end
theorem sum_xx {zs : List Value} {Q : Value → Shared → Prop} (K : FullOk xs ys us ws n Xb Yb pr qr) (hn : 0 < n) (hS : SubL zs us Xb n) (hA : A.handled = none) (F : Fr h₀ L s.heap m) (N : News h₀ L s.heap news) (hm : (a, LCg.lst zs) ∈ news) (hpos : 0 < s.toks)
    (h : ∀ h' tk r t, Fr h₀ L h' m → News h₀ L h' news → Ex r (preSum qr n) → TokOk tk → Q (.float r t) { s with heap := h', toks := tk }) : wpAny (model prog w) A (call (.builtin "math.sumprod") [.ref a, .ref a]) Q E s := by
  have lu : us.length = n := by rw [← K.nx.1, K.lx]
  have hl : s.heap.IsList a zs.toArray := ⟨_, (N _ hm).1, rfl, _, rfl⟩
  refine sumprod_flt_lists hA hl hl hS.nums hS.nums rfl (by rw [hS.len]; exact hn) (.inl hS.allF) qr (fun i hi => ?_) (fun j hj => K.sxx j (by rw [hS.len] at hj; exact hj)) fun h' tk r t hk htk hr => ?_
  · rw [hS.len] at hi
    rw [getD_sub (by omega)]
    exact K.pxx i hi
  · rw [hS.len] at hr
    exact h h' tk r t (F.keeps hk) (N.grown hk) hr (.pos (Nat.lt_of_lt_of_le hpos htk))
theorem slope_ex {Q : Value → Shared → Prop} {x : UInt64} (D : FullEnd n Xb Yb pr qr Sl M) (hx : Ex x (preSum pr n)) (hv : Ex r (preSum qr n)) (hp : TokOk s.toks) (h : ∀ r t, Ex r Sl → TokOk t → Q (.float r t) { s with toks := s.toks + 1 }) : wpAny (model prog w) A (binaryOp .Div (.float x tb) (.float r t)) Q E s :=
  AutoFloatOps.truediv_1 (by rw [hv.notZero]; simpa using D.ne) (h _ _ ((hx.quo hv D.ne).ex D.sl D.fsl) hp)
theorem mul_ex {Q : Value → Shared → Prop} (D : FullEnd n Xb Yb pr qr Sl M) (hr : Ex r Sl) (hx : Ex xb Xb) (h : ∀ r t, Ex r M → Q (.float r t) { s with toks := s.toks + 1 }) : wpAny (model prog w) A (binaryOp .Mult (.float r t) (.float xb tb)) Q E s :=
  float_mul (h _ _ (hr.mul hx D.m D.fm))
theorem inter_ex {Q : Value → Shared → Prop} (D : FullEnd n Xb Yb pr qr Sl M) (hy : Ex yb Yb) (hr : Ex r M) (hp : 0 < s.toks) (h : ∀ r t, Ex r (Yb - M) → TokOk t → Q (.float r t) { s with toks := s.toks + 1 }) : wpAny (model prog w) A (binaryOp .Sub (.float yb tb) (.float r t)) Q E s :=
  float_sub (h _ _ (hy.sub hr D.fi) (.pos hp))
theorem bare_after {gs0 gs' : Array GenState} {gsx : GenState} (h0 : AllBare gs0) (hx : gsx.bare = true) (hg : GenOnlyQ gs0.size (gs0.push gsx) gs') : AllBare gs' := by
  rcases hg with rfl | ⟨⟨hsz, hk⟩, hb⟩
  · exact h0.push hx
  · intro x hx'
    obtain ⟨k, hk', e0⟩ := Array.mem_iff_getElem.mp hx'
    have hkx : gs'[k]? = some x := by rw [Array.getElem?_eq_getElem hk', e0]
    by_cases e : k = gs0.size
    · subst e; exact hb x hkx
    · rw [hk k e] at hkx
      exact (h0.push hx) x (Array.mem_of_getElem? hkx)
theorem dy_all (K : FullOk xs ys us ws n Xb Yb pr qr) : ∀ i, i < ys.length → Fits (ws.getD i 0 - Yb) := fun i hi => K.dy i (by rw [← K.ly]; exact hi)
theorem sum_xy {Q : Value → Shared → Prop} {g : Heap} {rest : List (Addr × Obj)} {a C I ax ay cyb : Addr} {oa oC oI oy oyb : Obj} {zs : List Value} {cx g0 tk5 : Nat} {gs : Array GenState} {dr : Drawn} {os : OsState} {h : Heap} {tk : Nat} (K : FullOk xs ys us ws n Xb Yb pr qr) (hpos : 0 < n) (hS : SubL zs us Xb n)
    (hA : A.in1.handled = none) (F : Fr g L h m) (N : News g L h ((a, oa) :: (C, oC) :: (I, oI) :: rest)) (hR : GenReady prog w A g a C I ay cyb oa oC oI oy oyb g0 ys.length (SubAt ws Yb) gs dr os tk5) (hlim : g.NoLimit) (htk : tk5 ≤ tk) (hlt : ∀ p ∈ rest, p.1 < a ∧ p.1 < C ∧ p.1 < I)
    (hy : (ay, oy) ∈ rest) (hyb : (cyb, oyb) ∈ rest) (hx : (ax, listOf zs.toArray cx) ∈ rest)
    (k : ∀ h' gs' tk' r t, Fr g L h' m → News g L h' rest → GenOnlyQ g0 gs gs' → Ex r (preSum pr n) → Q (.float r t) ⟨h', gs', dr, tk', os⟩) :
    wpAny (model prog w) A (call (.builtin "math.sumprod") [.ref ax, .ref a]) Q E ⟨h, gs, dr, tk, os⟩ := by
  have lu : us.length = n := by rw [← K.nx.1, K.lx]
  rw [K.ly] at hR
  exact sum_gen pr hA F N hR hlim htk hlt hy hyb hx hS.nums hS.len hpos (fun i hi => by rw [getD_sub (by omega)]; exact K.pxy i hi) K.sxy fun h' gs' tk' r t F' N' hg _ hr => k h' gs' tk' r t F' N' hg hr
theorem add_zero_ex {Q : Value → Shared → Prop} {S : Int} (hr : Ex r S) (h : ∀ r t, Ex r S → Q (.float r t) { s with toks := s.toks + 1 }) : wpAny (model prog w) A (binaryOp .Add (.float r t) (.float 0 tb)) Q E s :=
  num_add_zero (.float t hr) ex_lit0 h
end
end Mine
end

section
open PySem PySem.W PySem.Calls PyProof.Rows Float64
set_option maxRecDepth 100000
set_option maxHeartbeats 1000000
namespace Mine
structure Tny (k : Int) : Prop where
  is : k.natAbs < 2 ^ 1023
structure FlEl (f : Int → Int) (k : Int) (y : Value) : Prop where
  is : ∃ r t, y = .float r t ∧ Mine.Ex r (f k)
/-- h / d is exact and is h * P -/
structure DivP (h d P : Int) : Prop where
  tny : Tny h
  ex : ∀ r, Quo r h d → Mine.Ex r (h * P)
/-- (h / d + e * x), exact -/
structure AddP (h P e : Int) (vs : List Int) : Prop where
  fk : ∀ k ∈ vs, Fits (e * k * 2 ^ 1074)
  fs : ∀ k ∈ vs, Fits (h * P + e * k * 2 ^ 1074)
section
variable {prog : Program} {w : World} {A : Around} {E : Value → Shared → Prop} {s : Shared} {Q : Value → Shared → Prop} {h d P e k S : Int} {x : UInt64} {tk tk' : Tok} {vs : List Int}
/-- a difference of two floats, exact -/
structure SubP (a b : Int) : Prop where
  f : Fits (a - b)
end
/-- an element that may be added to h * P -/
structure InP (h P k : Int) : Prop where
  a : Fits (2 * k * 2 ^ 1074)
  b : Fits (h * P + 2 * k * 2 ^ 1074)
  c : Fits (k * 2 ^ 1074)
  d : Fits (h * P - k * 2 ^ 1074)
structure AllP (h P : Int) (vs : List Int) : Prop where
  is : ∀ k ∈ vs, InP h P k
def twoF (h P : Int) (k : Int) : Int := h * P + 2 * k * 2 ^ 1074
def oneF (h P : Int) (k : Int) : Int := h * P - k * 2 ^ 1074
section
variable {prog : Program} {w : World} {A : Around} {E : Value → Shared → Prop} {s : Shared} {Q : Value → Shared → Prop} {h P k : Int} {x : UInt64} {tk tk' : Tok}
end
section
variable {prog : Program} {w : World} {A : Around} {h₀ : Heap} {L : Addr} {m : Str → Option Value} {env : Env} {elt : Expr} {x : Str} {scope : Scope} {cl : List (Str × Addr)} {s₁ : Shared} {Fin : Shared → List Value → List (Addr × Obj) → Prop} {news : List (Addr × Obj)} {vs : List Int} {ys : List Value} {ay : Addr} {c : Nat} {f : Int → Int} {h P : Int}
end
end Mine
end

section
open PySem PySem.W PySem.Calls PyProof.Rows PySem.Spec
set_option maxRecDepth 100000
set_option maxHeartbeats 1000000
namespace Mine
def nbIn (K : Frag) : Bool := match K.lookup cStatics with
  | some ⟨_, _, .dict es _, _⟩ => es.toList.all (fun e => match e.key with | .str _ _ => true | _ => false) && (nsFind es sharingNotToldKey).isNone
  | _ => false
theorem nb_of {K : Frag} {h : Heap} (X : K.In h) (e : nbIn K = true) : NoneBooked h := by
  unfold nbIn at e
  split at e
  · rename_i es n _ ho
    rw [Bool.and_eq_true] at e
    refine ⟨fun nm => nsFind es nm, ⟨_, es, _, X _ _ ho, rfl, fun x hx => ?_, fun _ => rfl⟩, Option.isNone_iff_eq_none.mp e.2⟩
    have := List.all_eq_true.mp e.1 x (Array.mem_toList_iff.mpr hx)
    cases hk : x.key <;> simp [hk] at this
    exact ⟨_, _, rfl⟩
  · cases e
section
variable {prog : Program} {w : World} {A : Around} {E : Value → Shared → Prop} {s : Shared}
theorem isSame_flt {M : Model} {a b : UInt64} {t u : Tok} {Q : Bool → Shared → Prop} (ht : t ≠ 0) (hu : u ≠ 0) (hb : NoneBooked s.heap) (hq : ∀ b, Q b s) : wpAny M A (isSame (.float a t) (.float b u)) Q E s := by
  show wpAny M A (isSame.created (a == b && !Float64.isNaN a) t u) Q E s
  have h0 : (t == 0 || u == 0) = false := by simp [ht, hu]
  unfold isSame.created
  refine wpAny_ite ?_
  split
  · rename_i h; rw [h0] at h; exact absurd h Bool.false_ne_true
  refine wpAny_ite ?_
  split
  · exact wpAny_pure (hq _)
  refine wpAny_ite ?_
  split
  · exact wpAny_pure (hq _)
  refine wpAny_bind (wpAny_sharingNotTold_none hb ?_)
  first | rw [if_neg Bool.false_ne_true] | simp only [Bool.false_eq_true, if_false]
  refine wpAny_bind (wpAny_sharingNotTold_none hb ?_)
  first | rw [if_neg Bool.false_ne_true] | simp only [Bool.false_eq_true, if_false]
  exact wpAny_bind (wpAny_rule (wpAny_bind (wpAny_askSetting (wpAny_pure (hq _)))))
theorem eqB_flt {a b : UInt64} {t u : Tok} {v : Int} {Q : Bool → Shared → Prop} (ht : t ≠ 0) (hu : u ≠ 0) (hb : NoneBooked s.heap) (h1 : Ex a v) (h2 : Ex b v) (h : Q true s) : wpAny (model prog w) A (eqBool (.float a t) (.float b u)) Q E s := by
  unfold eqBool
  refine wpAny_holding ?_
  show wpAny _ _ (if (Value.float a t == Value.float b u) = true then _ else _) Q E s
  by_cases hab : (Value.float a t == Value.float b u) = true
  · rw [if_pos hab]
    exact wpAny_bind (wpAny_rule (wpAny_pure h))
  · rw [if_neg hab]
    dsimp only
    refine wpAny_bind (isSame_flt ht hu hb fun c => ?_)
    cases c
    · simp only [Bool.false_eq_true, if_false]
      refine wpAny_bind ?_
      have key : wpAny (model prog w) A (compareOp .Eq (.float a t) (.float b u)) (fun v s' => wpAny (model prog w) A (truthOfDropped v) Q E s') E s := AutoFloatOps.eq_0 (by
        rw [h1.cmpEq h2, decide_eq_true rfl]
        exact wpAny_truthy_bool h)
      exact key
    · simp only [if_true]
      exact wpAny_pure h
end
end Mine
end

section
open PySem PySem.W PySem.Calls PyProof.Rows PySem.Spec
set_option maxRecDepth 100000
set_option maxHeartbeats 1000000
namespace Mine
section
variable {prog : Program} {w : World} {A : Around} {E : Value → Shared → Prop} {s : Shared} {h₀ : Heap} {L a b : Addr} {news : List (Addr × Obj)}
theorem eqB_same (v : Value) (hv : (v == v) = true) : MeetsSeq.EqGives v v true := fun prog w A E s Q h => by
  unfold eqBool
  refine wpAny_holding ?_
  show wpAny _ _ (if (v == v) = true then _ else _) Q E s
  rw [if_pos hv]
  exact wpAny_bind (wpAny_rule (wpAny_pure h))
theorem eq_same {vs : List Value} {c d : Nat} {Q : Value → Shared → Prop} (N : News h₀ L s.heap news) (hu : A.units < cLine) (ha : (a, listOf vs.toArray c) ∈ news) (hb : (b, listOf vs.toArray d) ∈ news) (hs : ∀ v ∈ vs, (v == v) = true) (h : Q (.bool true) s) :
    wpAny (model prog w) A (compareOp .Eq (.ref a) (.ref b)) Q E s := by
  refine SeqAt.eq_listAt (e := fun _ => true) (N.isList ha) (N.isList hb) rfl hu (fun j h1 h2 => (eqB_same _ (hs _ ?_)).at _ _) ?_
  · simp
  · have e : ((List.range vs.toArray.size).all fun _ => true) = true := by rw [List.all_eq_true]; intros; rfl
    rw [e]; exact h
end
end Mine
end

section
open PySem PySem.W PySem.Calls PyProof.Rows PySem.Spec
set_option maxRecDepth 100000
set_option maxHeartbeats 1000000
namespace Mine
def d8 (k : Int) : Int := k * 2 ^ 1071
def u8 (far k : Int) : Int := d8 k + far * 2 ^ 1074
def v1 (far k : Int) : Int := (k + far) * 2 ^ 1074
structure UsP (far k : Int) : Prop where
  tny : Tny k
  f1 : Fits (d8 k)
  f2 : Fits (far * 2 ^ 1074)
  f3 : Fits (u8 far k)
structure UsAll (far : Int) (vs : List Int) : Prop where
  is : ∀ k ∈ vs, UsP far k
structure UsEl (far k : Int) (y : Value) : Prop where
  is : ∃ r t, y = .float r t ∧ Mine.Ex r (u8 far k) ∧ TokOk t
section
variable {prog : Program} {w : World} {A : Around} {E : Value → Shared → Prop} {s : Shared} {Q : Value → Shared → Prop} {far k : Int} {x : UInt64} {tk tk' : Tok}
theorem div_8 (D : UsP far k) (hA : A.handled = none) (hQ : ∀ r t, Mine.Ex r (d8 k) → Q (.float r t) { s with toks := s.toks + 1 }) : wpAny (model prog w) A (binaryOp .Div (.int k tk) (.int 8 tk')) Q E s :=
  int_div_int hA D.tny.is (by decide) fun r t hq => hQ r t (hq.ex (by unfold d8; rw [show (1074 : Nat) = 1071 + 3 from rfl, Int.pow_add, ← Int.mul_assoc]; rfl) D.f1)
theorem add_8 (D : UsP far k) (hx : Mine.Ex x (d8 k)) (hp : 0 < s.toks) (hQ : ∀ r t, Mine.Ex r (u8 far k) → TokOk t → Q (.float r t) { s with toks := s.toks + 1 }) : wpAny (model prog w) A (binaryOp .Add (.float x tk) (.int far tk')) Q E s :=
  AutoFloatOps.add_fi_1 (not_inf D.f2) (hQ _ _ (hx.add (Ex.ofInt D.f2) D.f3) (.pos hp))
end
section
variable {prog : Program} {w : World} {A : Around} {h₀ : Heap} {L : Addr} {m : Str → Option Value} {env : Env} {elt : Expr} {x : Str} {scope : Scope} {cl : List (Str × Addr)} {s₁ : Shared} {Fin : Shared → List Value → List (Addr × Obj) → Prop} {news : List (Addr × Obj)} {vs : List Int} {ys : List Value} {ay : Addr} {c : Nat} {far : Int}
theorem src_u (hh : A.handled = none) (F : Fr h₀ L s₁.heap m) (N : News h₀ L s₁.heap news) (hm : (ay, listOf ys.toArray c) ∈ news) (hl : IntsAre ys vs) (hq : UsAll far vs) (h2 : ys.length < 200)
    (turn : ∀ (k : Int) t I oI C oC D' m₂ zs g tk (E' : Value → Shared → Prop), UsP far k → LCg.NsObj oC m₂ → m₂ x = some (.int k t) → Fr h₀ L g m → News h₀ L g ((I, oI) :: (C, oC) :: (D', LCg.lst zs) :: news) → LCg.Off3 I C D' news → ((@Ne Nat I C) ∧ (@Ne Nat I D') ∧ (@Ne Nat C D')) →
      wpAny (model prog w) A (eval elt (compEnvC scope cl C env)) (LCg.CompEnd h₀ L m ⟨g, s₁.gens, s₁.drawn, tk, s₁.os⟩ I oI C oC D' (LCg.lst zs) (LCg.SrcAt h₀ ay ys.toArray) (fun y news' => CompEl news (UsEl far k) y news')) E' ⟨g, s₁.gens, s₁.drawn, tk, s₁.os⟩)
    (fin : ∀ g zs, zs.length = ys.length → zs.length < 200 → RelI (UsEl far) vs zs → Fin ⟨g, s₁.gens, s₁.drawn, s₁.toks, s₁.os⟩ zs news) :
    LCg.CompSrc prog w A h₀ L m env elt x scope cl Fin (.ref ay) s₁ := by
  have e : ys.length = vs.length := IntsAre.length hl
  refine LCg.CompSrc.ledger hh F N hm (by rw [List.size_toArray]; exact rng_line h2) fun g => ?_
  refine comp_ints (UsEl far) hl (fun k t I oI C oC D' m₂ zs h tk E' hk => turn k t I oI C oC D' m₂ zs h tk E' (hq.is k hk)) fun zs hR => ?_
  exact fin g zs (by rw [RelI.length hR]; omega) (by rw [RelI.length hR]; omega) hR
theorem src_v {oF : Obj} {tf : Tok} (_hF : oF.data = .cell (some (.int far tf))) (hh : A.handled = none) (F : Fr h₀ L s₁.heap m) (N : News h₀ L s₁.heap news) (hm : (ay, listOf ys.toArray c) ∈ news) (hl : IntsAre ys vs) (h2 : ys.length < 200)
    (turn : ∀ (k : Int) t I oI C oC D' m₂ zs g tk (E' : Value → Shared → Prop), LCg.NsObj oC m₂ → m₂ x = some (.int k t) → Fr h₀ L g m → News h₀ L g ((I, oI) :: (C, oC) :: (D', LCg.lst zs) :: news) → LCg.Off3 I C D' news → ((@Ne Nat I C) ∧ (@Ne Nat I D') ∧ (@Ne Nat C D')) →
      wpAny (model prog w) A (eval elt (compEnvC scope cl C env)) (LCg.CompEnd h₀ L m ⟨g, s₁.gens, s₁.drawn, tk, s₁.os⟩ I oI C oC D' (LCg.lst zs) (LCg.SrcAt h₀ ay ys.toArray) (fun y news' => CompEl news (ElF (fun k => k + far) k) y news')) E' ⟨g, s₁.gens, s₁.drawn, tk, s₁.os⟩)
    (fin : ∀ g zs, zs.length = ys.length → zs.length < 200 → IntsAre zs (vs.map fun k => k + far) → Fin ⟨g, s₁.gens, s₁.drawn, s₁.toks, s₁.os⟩ zs news) :
    LCg.CompSrc prog w A h₀ L m env elt x scope cl Fin (.ref ay) s₁ := by
  have e : ys.length = vs.length := IntsAre.length hl
  refine LCg.CompSrc.ledger hh F N hm (by rw [List.size_toArray]; exact rng_line h2) fun g => ?_
  refine comp_ints (ElF fun k => k + far) hl (fun k t I oI C oC D' m₂ zs h tk E' _ => turn k t I oI C oC D' m₂ zs h tk E') fun zs hR => ?_
  exact fin g zs (by rw [RelI.length hR]; omega) (by rw [RelI.length hR]; omega) (ints_of hR)
end
theorem getD_mp {f : Int → Int} {us : List Int} {i : Nat} (h : i < us.length) : (us.map f).getD i 0 = f (us.getD i 0) := by
  rw [List.getD_eq_getElem?_getD, List.getD_eq_getElem?_getD, List.getElem?_map, List.getElem?_eq_getElem h]; rfl
theorem nums_us {far : Int} {us : List Int} {zs : List Value} (h : RelI (UsEl far) us zs) : NumsAre zs (us.map (u8 far)) := by
  have hl := h.length
  refine ⟨by rw [List.length_map]; exact hl, fun i v hv => ?_⟩
  obtain ⟨r, t, rfl, hr, _⟩ := (h.at i v hv).is
  have hi : i < us.length := by
    rcases Nat.lt_or_ge i zs.length with c | c
    · omega
    · rw [List.getElem?_eq_none c] at hv; cases hv
  rw [getD_mp hi]
  exact .float t hr
theorem nums_vs {far : Int} {us : List Int} {zs : List Value} (h : IntsAre zs (us.map fun k => k + far)) (hf : ∀ k ∈ us, Fits (v1 far k)) : NumsAre zs (us.map (v1 far)) := by
  have hl := h.length
  rw [List.length_map] at hl
  refine ⟨by rw [List.length_map]; exact hl, fun i v hv => ?_⟩
  have hi : i < us.length := by
    rcases Nat.lt_or_ge i zs.length with c | c
    · omega
    · rw [List.getElem?_eq_none c] at hv; cases hv
  obtain ⟨n, t, rfl, e⟩ := h.at i v hv
  rw [List.getElem?_map, List.getElem?_eq_getElem hi] at e
  obtain rfl : us[i] + far = n := Option.some.inj e
  rw [getD_mp hi, List.getD_eq_getElem?_getD, List.getElem?_eq_getElem hi]
  exact .int t rfl (hf _ (List.getElem_mem hi))
section
variable {prog : Program} {w : World} {A : Around} {E : Value → Shared → Prop} {s : Shared} {h₀ : Heap} {L la lb : Addr} {news : List (Addr × Obj)}
theorem eq_us {zs ys : List Value} {us : List Int} {far : Int} {c d : Nat} {Q : Value → Shared → Prop} (N : News h₀ L s.heap news) (hA : A.units < cLine) (ha : (la, listOf zs.toArray c) ∈ news) (hb : (lb, listOf ys.toArray d) ∈ news)
    (nb : NoneBooked s.heap) (h1 : RelI (UsEl far) us zs) (h2 : RelI (UsEl far) us ys) (h : Q (.bool true) s) :
    wpAny (model prog w) A (compareOp .Eq (.ref la) (.ref lb)) Q E s := by
  have l1 := h1.length
  have l2 := h2.length
  refine SeqAt.eq_listAt (e := fun _ => true) (N.isList ha) (N.isList hb) (by simp; omega) hA (fun j hj hj' => ?_) ?_
  · intro prog w E Q hq
    obtain ⟨r, t, e1, x1, k1⟩ := (h1.at j zs.toArray[j] (by simp at hj ⊢)).is
    obtain ⟨r', t', e2, x2, k2⟩ := (h2.at j ys.toArray[j] (by simp at hj' ⊢)).is
    rw [e1, e2]
    exact eqB_flt k1.ne k2.ne nb x1 x2 hq
  · have e : ((List.range zs.toArray.size).all fun _ => true) = true := by rw [List.all_eq_true]; intros; rfl
    rw [e]; exact h
end
end Mine
end

section
open PySem PySem.W PySem.Calls PyProof.Rows
set_option maxRecDepth 100000
namespace Mine
def hoFn : Stmt := (PySem.Challenge.pw_kq0023_05.main.body.dropLast).getLastD (.Pass default)
def hoRest (k : Nat) : List Stmt := (fnBody hoFn).drop k
def hoScope : Scope := fnScope hoFn
end Mine
end

section
open PySem PySem.W PySem.Calls PyProof.Rows
set_option maxRecDepth 100000
set_option maxHeartbeats 1000000
namespace Mine
theorem zz_HL : True := by
  w_top off
  k_with_none
  trivial
def StopL (P : Prop) : Prop := P
theorem stopL_ {P : Prop} (h : StopL P) : P := h
theorem zz_HL_2 : True := by
  k_with "my execs cons" =>
    ((with_reducible show wpAny _ _ (execs (Stmt.For _ _ _ _ _ :: _) _) _ _ _); refine stopL_ ?_)
  k_with "my eval ListComp" =>
    (k_here; k_dflt (refine LCg.ListComp_U (F₀ := by k_asm) (by with_unfolding_all rfl) (by decide) (by rfl) (by decide) (by rfl) ?_))
  k_with "my CompSrc" =>
    (k_here; k_dflt ((show LCg.CompSrc _ _ _ _ _ _ _ (Expr.BinOp (Expr.BinOp _ Operator.Div _ _) Operator.Add _ _) _ _ _ _ _ _); (refine' src_u ?zz5hh ?zz5F ?zz5N ?zz5hm ?zz5hl ?zz5hq ?zz5h2 (fun kzz5' tzz5' Izz5' oIzz5' Czz5' oCzz5' Dzz5' mzz5' yszz5' hzz5' tkzz5' Ezz5' hkzz5' hCzz5' hxzz5' Fzz5' Nzz5' offzz5' nezz5' => ?_) (fun gzz5' yszz5' hlzz5' hl2zz5' hIzz5' => ?_)); (case zz5hh => rfl); (case zz5F => k_asm); (case zz5N => k_asm); (case zz5hm => k_ownIn); (case zz5hl => assumption); (case zz5hq => assumption); (case zz5h2 => omega); (all_goals (try (simp only [LCg.Off3, and_true] at offzz5')))))
  k_with "my CompSrc" =>
    (k_here; k_dflt ((show LCg.CompSrc _ _ _ _ _ _ _ (Expr.BinOp (Expr.Name _ _) Operator.Add _ _) _ _ _ _ _ _); (refine' src_v ?zz6hF ?zz6hh ?zz6F ?zz6N ?zz6hm ?zz6hl ?zz6h2 (fun kzz6' tzz6' Izz6' oIzz6' Czz6' oCzz6' Dzz6' mzz6' yszz6' hzz6' tkzz6' Ezz6' hCzz6' hxzz6' Fzz6' Nzz6' offzz6' nezz6' => ?_) (fun gzz6' yszz6' hlzz6' hl2zz6' hIzz6' => ?_)); (case zz6hF => assumption); (case zz6hh => rfl); (case zz6F => k_asm); (case zz6N => k_asm); (case zz6hm => k_ownIn); (case zz6hl => assumption); (case zz6h2 => omega); (all_goals (try (simp only [LCg.Off3, and_true] at offzz6')))))
  k_with "my binaryOp Div int int" =>
    (k_here; k_dflt ((refine' div_8 ?zz7D ?zz7h ?_; (case zz7D => assumption); (case zz7h => rfl)); intro rzz7' tzz7' qzz7'))
  k_with "my binaryOp Add float int" =>
    (k_here; k_dflt ((refine' add_8 ?zz8D ?zz8h ?zz8p ?_; (case zz8D => assumption); (case zz8h => assumption); (case zz8p => exact Nat.succ_pos _)); intro rzz8' tzz8' qzz8' kzz8'))
  k_with "my CompEnd" =>
    (refine' compEnd_el ?zz9F ?zz9N ?zz9sub ?zz9off ?zz9S ?zz9r; (case zz9r => first | exact UsEl.mk ⟨_, _, rfl, by assumption, by assumption⟩ | exact ElF.mk ⟨_, rfl⟩); (case zz9F => assumption); (case zz9N => assumption); (case zz9sub => kcf_all); (case zz9off => first | assumption | (simp only [LCg.Off3, and_true]; done) | (simp only [LCg.Off3, and_true]; assumption)); (case zz9S => first | exact trivial | exact rfl | lcg_src | assumption | exact Or.inr ⟨_, by k_ownIn, rfl, _, rfl⟩))
  trivial
theorem news_tl {h₀ h : Heap} {L : Addr} {p : Addr × Obj} {r : List (Addr × Obj)} (N : News h₀ L h (p :: r)) : News h₀ L h r := fun q hq => N q (.tail _ hq)
theorem h1 {w : World} {dp un : Nat} {gd : Option (List Code)} {cn : Str} {cs : Scope} {a : Addr} {ccd : Value} {cl : List (Str × Addr)} {base g : Heap} {L0 L : Addr} {m : Str → Option Value} {s : Shared} {Q : Flow → Shared → Prop} {E : Value → Shared → Prop}
    {mean : ExcName → Option Value} {mg mb : Str → Option Value} {news : List (Addr × Obj)} {pc ps : Array Value} {ax ay : Addr} {zx zy : List Value} {xs ys : List Int} {cx cy n : Nat} {far xy xx : Int} {tf tn t1 t2 : Tok} {oF : Obj}
    (B : Below (ktrTop dp un gd cn cs L0 a ccd cl []) base [envX cn cs L0 a ccd cl] g) (F : Fr g L s.heap (fun z => if z = Str.ofString "xs" then some (.ref ax) else if z = Str.ofString "ys" then some (.ref ay) else if z = Str.ofString "n" then some (.int (n : Int) tn) else if z = Str.ofString "xy" then some (.int xy t1) else if z = Str.ofString "xx" then some (.int xx t2) else m z)) (N : News g L s.heap ((L + 1, oF) :: (107, tabObj pc) :: (186, tabObj ps) :: news)) (dF : oF.data = .cell (some (.int far tf))) (T : Top Mine.vw (looseW Mine.vw [Str.ofString "_tuplegetter", Str.ofString "LinearRegression", Str.ofString "linear_regression", Str.ofString "covariance"]) mean mg mb g)
    (hx : (ax, listOf zx.toArray cx) ∈ news) (hy : (ay, listOf zy.toArray cy) ∈ news) (ix : IntsAre zx xs) (iy : IntsAre zy ys) (hu : UsAll far xs) (l1 : zx.length < 200) (l2 : zy.length < 200)
    (hQ : ∀ h' tk aU aV zu zv, Fr g L h' (fun z => if z = Str.ofString "us" then some (.ref aU) else if z = Str.ofString "vs" then some (.ref aV) else if z = Str.ofString "xs" then some (.ref ax) else if z = Str.ofString "ys" then some (.ref ay) else if z = Str.ofString "n" then some (.int (n : Int) tn) else if z = Str.ofString "xy" then some (.int xy t1) else if z = Str.ofString "xx" then some (.int xx t2) else m z) → News g L h' ((aV, LCg.lst zv) :: (aU, LCg.lst zu) :: (L + 1, oF) :: (107, tabObj pc) :: (186, tabObj ps) :: news) → zu.length = zx.length → zv.length = zy.length → RelI (UsEl far) xs zu → IntsAre zv (ys.map fun k => k + far) →
      wpAny (model PySem.Challenge.rw_kq0023_05.row.prog w) ((ktrTop dp un gd cn cs L0 a ccd cl []).deeper (envOfC (Str.ofString "_law_holds") hoScope L 208 (Value.ref 207))) (execs (hoRest 1) (envOfC (Str.ofString "_law_holds") hoScope L 208 (Value.ref 207))) Q E ⟨h', s.gens, s.drawn, tk, s.os⟩) :
    (Mine.hd.heap_39 w.params).In g → wpAny (model PySem.Challenge.rw_kq0023_05.row.prog w) ((ktrTop dp un gd cn cs L0 a ccd cl []).deeper (envOfC (Str.ofString "_law_holds") hoScope L 208 (Value.ref 207))) (execs (hoRest 0) (envOfC (Str.ofString "_law_holds") hoScope L 208 (Value.ref 207))) Q E s := by
  k_fill
  intro X
  dsimp only [hoRest, hoScope, hoFn, fnScope, fnBody, PySem.Challenge.pw_kq0023_05, List.getLastD, List.getLast, List.drop, List.dropLast]
  k_steps
  all_goals (try k_data)
  unfold StopL
  rename News _ _ _ _ => NN
  rename Fr _ _ _ _ => FF
  exact hQ _ _ _ _ _ _ FF (news_tl NN) (by assumption) (by assumption) (by assumption) (by assumption)
end Mine
end

section
open PySem PySem.W PySem.Calls PyProof.Rows PySem.Spec Float64
set_option maxRecDepth 100000
set_option maxHeartbeats 1000000
namespace Mine
theorem cmp_self {r : UInt64} (h : Float64.isNaN r = false) : Float64.cmp r r = some .eq := by
  cases hd : decode r with
  | nan => unfold Float64.isNaN at h; rw [hd] at h; cases h
  | inf a => unfold Float64.cmp; rw [hd]; simp
  | fin a m e => rw [cmp_right hd hd]; simp
theorem right_nan {r neg W D} (h : Right r neg W D) : Float64.isNaN r = false := by
  obtain ⟨t, rfl, ht, _⟩ := h
  exact isNaN_pack _ ht
theorem quo_nan {r : UInt64} {n d : Int} (h : Quo r n d) : Float64.isNaN r = false := by
  obtain ⟨_, h0, h1⟩ := h
  by_cases hn : n = 0
  · exact (h0 hn).notNaN
  · exact right_nan (h1 hn)
theorem quo_cmp {r r' : UInt64} {n d n' d' : Int} (h : Quo r n d) (h' : Quo r' n' d') (e : n * d' = n' * d) : Float64.cmp r r' = some .eq := by
  rcases quo_eq h h' e with rfl | ⟨a, b⟩
  · exact cmp_self (quo_nan h)
  · rw [a.cmp b]; simp
/-- the covariance is the float that the number makes -/
structure CovEq (n : Nat) (S due : Int) : Prop where
  is : S * (64 * (n : Int) * ((n : Int) - 1)) = due * (((n : Int) - 1) * 2 ^ 1074)
structure SlopeEq (S T xy xx : Int) : Prop where
  is : S * xx = 8 * xy * T
section
variable {prog : Program} {w : World} {A : Around} {E : Value → Shared → Prop} {s : Shared} {Q : Value → Shared → Prop} {n : Nat} {S T due xy xx : Int} {r r' : UInt64} {t t' : Tok}
theorem div_due (hA : A.handled = none) (D : Tny due) (h2 : 2 ≤ n) (hQ : ∀ r t, Quo r due (64 * (n : Int) * ((n : Int) - 1)) → Q (.float r t) { s with toks := s.toks + 1 }) : wpAny (model prog w) A (binaryOp .Div (.int due t) (.int (64 * (n : Int) * ((n : Int) - 1)) t')) Q E s :=
  int_div_int hA D.is (Int.mul_ne_zero (by omega) (by omega)) hQ
theorem ne_due (K : CovEq n S due) (q1 : Quo r S (((n : Int) - 1) * 2 ^ 1074)) (q2 : Quo r' due (64 * (n : Int) * ((n : Int) - 1))) (h : Q (.bool false) s) : wpAny (model prog w) A (compareOp .NotEq (.float r t) (.float r' t')) Q E s := by
  refine AutoFloatOps.ne_0 ?_
  rw [quo_cmp q1 q2 K.is]; exact h
theorem div_slope (hA : A.handled = none) (D : Tny (8 * xy)) (h0 : xx ≠ 0) (hQ : ∀ r t, Quo r (8 * xy) xx → Q (.float r t) { s with toks := s.toks + 1 }) : wpAny (model prog w) A (binaryOp .Div (.int (8 * xy) t) (.int xx t')) Q E s :=
  int_div_int hA D.is h0 hQ
theorem eq_slope (K : SlopeEq S T xy xx) (q1 : Quo r S T) (q2 : Quo r' (8 * xy) xx) (h : Q (.bool true) s) : wpAny (model prog w) A (compareOp .Eq (.float r t) (.float r' t')) Q E s := by
  refine AutoFloatOps.eq_0 ?_
  rw [quo_cmp q1 q2 K.is]; exact h
end
end Mine
end

section
open PySem PySem.W PySem.Calls PyProof.Rows PySem.Spec
set_option maxRecDepth 100000
set_option maxHeartbeats 1000000
namespace Mine
/-- what the note of a new exception leaves: every object that is no frame and not the exception stays; frames change their slots alone -/
structure Noted (fs : List Addr) (z T : Addr) (cls a0 : Value) (h h' : Heap) : Prop where
  other : ∀ b o, h.get? b = some o → b ≠ z → b ∉ fs → h'.get? b = some o
  slots : ∀ b o, h.get? b = some o → b ≠ z → ∃ sl, h'.get? b = some { o with slots := sl }
  exc : ∃ o, h'.get? z = some o ∧ o.cls = cls ∧ o.data = .fields #[a0, .ref T, .none, .none, .bool false, .none]
  tb : ∃ o ts, h'.get? T = some o ∧ o.data = .fields ts ∧ 3 < ts.size
  new : h.get? T = none
  ne : T ≠ z
section
variable {M : Model} {A : Around} {E : Value → Shared → Prop} {s : Shared} {base : Heap} {outer : List Env} {env : Env} {L z : Addr} {Q : Unit → Shared → Prop} {oe : Obj} {a0 : Value}
theorem note_new (hfr : A.frames = some (env :: outer)) (hl : s.heap.FunFrames base (env :: outer)) (hf : env.frame = some L) (he : s.heap.get? z = some oe) (hd : oe.data = .fields #[a0, .none, .none, .none, .bool false, .none])
    (hQ : ∀ h' T, Noted ((env :: outer).filterMap (·.frame)) z T oe.cls a0 s.heap h' → Q () { s with heap := h' }) : wpAny M A (noteFrame (.ref z) env) Q E s := by
  have hz : z ∉ (env :: outer).filterMap (·.frame) := fun hm => by
    obtain ⟨_, o, ho, hnf⟩ := hl.mem hm
    rw [he] at ho; cases ho; exact hnf _ hd
  unfold noteFrame
  simp only [hf]
  refine wpAny_bind (wpAny_field he hd (x := .none) rfl ?_)
  rw [if_neg (by decide)]
  refine wpAny_bind (wpAny_frameOf_fun hfr hl hf fun h₁ hs => wpAny_bind (wpAny_entryPlaceOf fun pl hpl => ?_))
  unfold EntryCells.newEntry newFields
  refine wpAny_bind (wpAny_newObj_type ?_ (hpl.sizeOk5 _ _ _ _ _))
  have he₁ : h₁.get? z = some oe := (hs.2.1 z hz).trans he
  refine wpAny_setField (Heap.get?_push_of_some _ he₁) hd (by show 1 < 6; decide) (hQ _ h₁.objs.size ?_)
  have hne : h₁.objs.size ≠ z := Nat.ne_of_gt (Heap.lt_size he₁)
  have hd' := Obj.data_mapFields hd (·.setIfInBounds 1 (Value.ref h₁.objs.size))
  have pushed : ∀ (oT : Obj) {b : Addr} {o : Obj}, b ≠ z → h₁.get? b = some o → ((h₁.push oT).update z (Obj.mapFields (·.setIfInBounds 1 (Value.ref h₁.objs.size)))).get? b = some o := fun oT b o hb e =>
    (Heap.get?_update_other _ _ (Ne.symm hb)).trans (Heap.get?_push_of_some _ e)
  refine ⟨fun b o e hb hm => pushed _ hb ((hs.2.1 b hm).trans e), fun b o e hb => ?_, ⟨_, Heap.get?_update_self _ (Heap.get?_push_of_some _ he₁) (Obj.isFreed_of_fields hd'), Obj.cls_mapFields _ _, hd'⟩, ⟨_, _, (Heap.get?_update_other _ _ (Ne.symm hne)).trans (Heap.get?_push_size h₁ rfl), rfl, ?_⟩, ?_, hne⟩
  · obtain ⟨sl, q⟩ := hs.2.2 b o e
    exact ⟨sl, pushed _ hb q⟩
  · rcases hpl with rfl | ⟨_, _, _, _, _, _, _, rfl⟩ <;> simp
  · cases q : s.heap.get? h₁.objs.size with
    | none => rfl
    | some o =>
      obtain ⟨sl, q'⟩ := hs.2.2 _ o q
      exact absurd (Heap.lt_size q') (Nat.lt_irrefl _)
/-- setting no flight leaves the note as it is -/
theorem land_new {fs : List Addr} {T : Addr} {cls : Value} {h : Heap} (hN : Noted fs z T cls a0 h s.heap) (hQ : ∀ h', Noted fs z T cls a0 h h' → Q () { s with heap := h' }) : wpAny M A (setFlight (.ref z) none) Q E s := by
  obtain ⟨oz, e1, e2, e3⟩ := hN.exc
  obtain ⟨oT, ts, t1, t2, t3⟩ := hN.tb
  refine wpAny_setFlight_none e1 e3 (tb := T) rfl t1 t2 t3 (hQ _ ?_)
  have oth : ∀ {b : Addr} {o : Obj}, b ≠ T → s.heap.get? b = some o → (s.heap.update T (Obj.mapFields (·.setIfInBounds 3 Value.none))).get? b = some o := fun hb e => (Heap.get?_update_other _ _ (Ne.symm hb)).trans e
  have nT : ∀ {b : Addr} {o : Obj}, h.get? b = some o → b ≠ T := fun e q => by rw [q, hN.new] at e; cases e
  refine ⟨fun b o e hb hm => oth (nT e) (hN.other b o e hb hm), fun b o e hb => ?_, ⟨oz, oth (Ne.symm hN.ne) e1, e2, e3⟩, ⟨_, _, Heap.get?_update_self _ t1 (Obj.isFreed_of_fields (Obj.data_mapFields t2 _)), Obj.data_mapFields t2 _, by simpa using t3⟩, hN.new, hN.ne⟩
  obtain ⟨sl, q⟩ := hN.slots b o e hb
  exact ⟨sl, oth (nT e) q⟩
end
section
variable {prog : Program} {w : World} {A : Around} {E : Value → Shared → Prop} {s : Shared} {env : Env} {z : Addr}
variable {nm q : Str} {C N : Addr} {bs bm bmB : List Value} {hdct : Bool} {sn : List Str} {sub : List Value} {ab : Bool} {col : Option Bool} {dd : Option Addr} {k0 k1 k2 k3 k5 : Option Value} {B newId initId : String}
theorem entry_unchain : entryFor table "proto.unchain" = some Builtin.«proto.unchain» := entryFor_of_tree (by kernel_rfl)
theorem unchain_one {e : Addr} {oz : Obj} {vs : Array Value} {Q : Value → Shared → Prop} (hz : s.heap.get? z = some oz) (hd : oz.data = .fields vs) (h2 : vs[2]? = some .none) (h : Q .none s) :
    wpAny (model prog w) A (runValue (.builtin "proto.unchain" ⟨[.ref e, .ref z, .ref z, .bool false], []⟩)) Q E s := by
  refine wpAny_runValue (codeAny_builtin entry_unchain ?_)
  unfold Builtin.«proto.unchain»
  refine wpAny_bind (wpAny_field hz hd h2 ?_)
  rw [if_pos (by decide)]
  exact wpAny_pure (a := Fin.done (.ret .none)) h
theorem raiseNew_some {α : Type} {e : Addr} {oe oz : Obj} {vs ws : Array Value} {Q : α → Shared → Prop} (hh : A.handled = some (.ref z)) (hne : z ≠ e) (he : s.heap.get? e = some oe) (hde : oe.data = .fields ws) (hsz : 2 < ws.size)
    (hz : s.heap.get? z = some oz) (hd : oz.data = .fields vs) (h2 : vs[2]? = some .none) (h : E (.ref e) { s with heap := s.heap.update e (Obj.mapFields (·.setIfInBounds 2 (.ref z))) }) : wpAny (model prog w) A (raiseNew (.ref e) : Sem α) Q E s := by
  unfold raiseNew
  refine wpAny_bind (wpAny_handled ?_)
  rw [hh]
  dsimp only
  rw [if_pos (by simpa using hne)]
  refine wpAny_bind (wpAny_holding (unchain_one hz hd h2 ?_))
  refine wpAny_bind ?_
  have := wpAny_setField (M := model prog w) (A := A) (E := E) (s := s) (a := e) (i := 2) (x := .ref z) (Q := fun _ s' => wpAny (model prog w) A (throw (Value.ref e)) Q E s') he hde hsz (wpAny_throw h)
  exact this
theorem raise_again {x : Sem Value} {Q : Flow → Shared → Prop} (hbase : bm.contains (.type "BaseException") = true) (hh : A.handled = some (.ref z))
    (h : wpAny (model prog w) A x (fun v s₁ => ∃ e t, v = .ref e ∧ s₁.heap.get? C = some (excClassObj nm q C N bs bm hdct sn sub ab col dd k0 k1 k2 k3 k5 newId) ∧
      s₁.heap.get? e = some { cls := .ref C, data := .fields #[.ref t, .none, .none, .none, .bool false, .none] } ∧ z ≠ e ∧ (∃ oz vs, s₁.heap.get? z = some oz ∧ oz.data = .fields vs ∧ vs[2]? = some .none) ∧
      E (.ref e) { s₁ with heap := s₁.heap.update e (Obj.mapFields (·.setIfInBounds 2 (.ref z))) }) E s) : wpAny (model prog w) A (raiseStmt env (some x) none) Q E s := by
  have hcB : (Value.ref C :: bm).contains (.type "BaseException") = true := by rw [List.contains_cons, hbase, Bool.or_true]
  unfold raiseStmt
  refine wpAny_bind (wpAny_mono h (fun v s₁ h₁ => ?_) fun _ _ x => x)
  obtain ⟨e, t, rfl, hC, he, hne, ⟨oz, vs, hz, hd, h2⟩, hE⟩ := h₁
  obtain ⟨hp, g, d, tk, os⟩ := s₁
  repeat (first | with_reducible refine wpAny_loadPart_at he ?_ | with_reducible refine wpAny_loadPart_at hC ?_ | (with_reducible refine wpAny_isSubtype_exc hC ?_; rw [hcB]) | wp_step)
  exact raiseNew_some hh hne he rfl (by show 2 < 6; decide) hz hd h2 hE
theorem Raise_again {mN : Str → Option Value} {x : Str} {np cpos pos : Pos} {e₀ : Expr} {rest : List Expr} {Q : Flow → Shared → Prop} (F : ExcBaseFacts B newId initId bmB) (hbase : bm.contains (.type "BaseException") = true) (hh : A.handled = some (.ref z)) (hni : mN "__init__" = none)
    (h : wpAny (model prog w) A (eval (.Name x np) env) (fun f s₁ => f = .ref C ∧ wpAny (model prog w) A (spliced (backTo cpos (starEach (e₀ :: rest) env)))
      (fun vs s₂ => vs.length ≤ sizeLine ∧ s₂.heap.get? C = some (excClassObj nm q C N bs bm hdct sn sub ab col dd k0 k1 k2 k3 k5 newId) ∧ s₂.heap.Ns N mN ∧ OwnTail s₂.heap bmB bm ∧ (∃ oz ws, s₂.heap.get? z = some oz ∧ oz.data = .fields ws ∧ ws[2]? = some .none) ∧
        ∀ h' e, Heap.MadeExcOf s₂.heap h' e (.ref C) vs → E (.ref e) { s₂ with heap := h'.update e (Obj.mapFields (·.setIfInBounds 2 (.ref z))) }) E s₁) E s)
    (he : starEach (e₀ :: rest) env = (false, eval e₀ env) :: starEach rest env) (hplain : (backTo cpos (starEach rest env)).any (·.1) = false) :
    wpAny (model prog w) A (exec (.Raise (some (.Call (.Name x np) (e₀ :: rest) [] cpos)) none pos) env) Q E s := by
  rw [arm_exec_Raise]
  simp only [evalOpt, Option.map]
  refine wpAny_bind (wpAny_standAt (raise_again (C := C) (nm := nm) (q := q) (N := N) (bs := bs) (bm := bm) (hdct := hdct) (sn := sn) (sub := sub) (ab := ab) (col := col) (dd := dd) (k0 := k0) (k1 := k1) (k2 := k2) (k3 := k3) (k5 := k5) (newId := newId) hbase hh ?_))
  refine wpAny_bind (wpAny_mono (wpAny_Call_ofName (wpAny_mono h (fun f s₁ h₁ => ?_) fun _ _ x => x)) (fun v s₃ h₃ => wpAny_bind (wpAny_standAt (wpAny_pure h₃))) fun _ _ x => x)
  obtain ⟨rfl, h₂⟩ := h₁
  have hp : (backTo cpos (starEach (e₀ :: rest) env)).any (·.1) = false := by rw [he]; show (false || (backTo cpos (starEach rest env)).any (·.1)) = false; rw [hplain]; rfl
  have kw : backToKw cpos (keywordEach [] env) = [] := rfl
  unfold callWith
  rw [kw]
  rw [he] at h₂ hp ⊢
  refine wpAny_bind (wpAny_holding (evalArgs_plain (wpAny_mono h₂ (fun vs s₂ h₃ => ?_) fun _ _ y => y)))
  obtain ⟨hlen, hC, hn, T, ⟨oz, ws, hz, hd, hz2⟩, hk⟩ := h₃
  obtain ⟨hp', g, d, tk, os⟩ := s₂
  refine wpAny_bind (wpAny_standAt ?_)
  simp only [hp]
  refine wpAny_bind (wpAny_keeperOf_exc hC ?_)
  refine wpAny_bind (wpAny_call_exc_subT (hrest := hlen) F T hC hn hni fun h' e hm => wpAny_bind (wpAny_holding (wpAny_point (wpAny_pure ?_))))
  obtain ⟨t, ht, _, _⟩ := hm.there
  refine ⟨e, t, rfl, hm.keeps _ _ hC, ht, fun q => ?_, ⟨oz, ws, hm.keeps _ _ hz, hd, hz2⟩, hk h' e hm⟩
  have := hm.new
  rw [← q, hz] at this
  cases this
end
section
variable {prog : Program} {w : World} {A₀ : Around} {E₁ : Value → Shared → Prop} {s' : Shared} {base g h : Heap} {outer : List Env} {env : Env} {L z C : Addr} {m : Str → Option Value} {news : List (Addr × Obj)} {KF : Frag}
  {p : Program} {loose : List Str} {mean : ExcName → Option Value} {mg mb : Str → Option Value} {x zx : Str} {bmB : List Value} {B newId initId : String} {np np' cpos pos hpos : Pos} {e₀ : Expr} {hs : List ExceptHandler} {Q : Flow → Shared → Prop} {R : Value → Shared → Prop} {msg : Str}
theorem flat_any (K : Below A₀ base outer g) (F : Fr g L h m) (N : News g L h news) (hx : Heap.NewExc h s'.heap z "ZeroDivisionError") (hf : env.frame = some L) (hk : env.scope.kind ≠ .module) (XB : KF.In base) (TB : Top p loose mean mg mb base)
    (ex : nsIn KF mainGlobals x = some (some (.ref C))) (q : excIn KF C bmB newId = true) (FB : ExcBaseFacts B newId initId bmB)
    (hzde : ∀ (g : Heap) (A : Around) (s : Shared) (E Q : Value → Shared → Prop), Fr g L s.heap m → KF.In g → TopRead p loose mg mb g → Q (.type "ZeroDivisionError") s → wpAny (model prog w) A (eval (.Name zx np) env) Q E s)
    (hse : ∀ (g : Heap) (A : Around) (s : Shared) (E Q : Value → Shared → Prop), Fr g L s.heap m → KF.In g → TopRead p loose mg mb g → Q (.ref C) s → wpAny (model prog w) A (eval (.Name x np') env) Q E s)
    (hmsg : ∀ (A : Around) (s : Shared) (E : Value → Shared → Prop) (Q : List Value → Shared → Prop), (∀ tk tk', Q [.str msg tk] { s with toks := tk' }) → wpAny (model prog w) A (spliced (backTo cpos (starEach [e₀] env))) Q E s)
    (he : starEach [e₀] env = (false, eval e₀ env) :: starEach [] env)
    (hQ : ∀ h' e t tk tk', RaisedS base g outer e (.ref C) t [.str msg tk] news h' → g.UpToSlots h' → R (.ref e) { s' with heap := h', toks := tk' }) :
    wpAny (model prog w) (A₀.deeper env) (noteFrame (.ref z) env) (fun _ s₂ => wpAny (model prog w) (A₀.deeper env) (setFlight (.ref z) none)
      (fun _ s₃ => wpAny (model prog w) (A₀.deeper env) (handleBy (.ref z) env (.ExceptHandler (some (.Name zx np)) none [.Raise (some (.Call (.Name x np') [e₀] [] cpos)) none pos] hpos :: hs)) Q
        (fun e s => wpAny (model prog w) (A₀.deeper env) (leaving env e) (fun _ s'' => R e s'') E₁ s) s₃)
        (fun e s => wpAny (model prog w) (A₀.deeper env) (leaving env e) (fun _ s'' => R e s'') E₁ s) s₂)
      (fun e s => wpAny (model prog w) (A₀.deeper env) (leaving env e) (fun _ s'' => R e s'') E₁ s) s' := by
  have K' := push_any K F hf hk
  obtain ⟨a1, a2, a3, a4, a5, a6⟩ := hide_any K F N hf hk rfl
  obtain ⟨ob, a0, hob, hcls, hdat⟩ := hx.there
  have up : ∀ {h₅ T}, Noted ((env :: outer).filterMap (·.frame)) z T ob.cls a0 s'.heap h₅ → (hideAll h ((env :: outer).filterMap (·.frame))).StaysIn h₅ ∧ h.UpToSlots h₅ := fun hN => by
    have nz : ∀ {b : Addr} {o : Obj}, h.get? b = some o → b ≠ z := fun e q => by rw [q, hx.new] at e; cases e
    refine ⟨fun b o e => ?_, fun b o e _ => hN.slots b o (hx.keeps _ _ e) (nz e)⟩
    have e' := of_hideAll _ e
    exact hN.other b o (hx.keeps _ _ e') (nz e') fun hm => by rw [hideAll_none _ hm] at e; cases e
  have bg : ∀ b o, h.get? b = some o → b ∉ (env :: outer).filterMap (·.frame) → (hideAll h ((env :: outer).filterMap (·.frame))).get? b = some o := fun b o e hm => hideAll_get _ e hm
  refine note_new K'.stack (K'.frames.of_keeps fun b o e _ => ⟨o, hx.keeps b o e, rfl⟩) hf hob hdat fun h₄ T hN₄ => ?_
  refine land_new hN₄ fun h₅ hN₅ => ?_
  obtain ⟨g₅, T₅, F₅, K₅⟩ := ground_any K F hf bg (up hN₅).1 (up hN₅).2
  have X₅ := XB.keeps K₅.stays
  have P₅ := topRead_of (TB.keeps K₅.stays)
  obtain ⟨oz, z1, z2, z3⟩ := hN₅.exc
  refine wpAny_handleBy_builtin (X := "ZeroDivisionError") (T := "ZeroDivisionError") (b := true) PySem.F.isExc_ZeroDivisionError PySem.F.notTuple_ZeroDivisionError (by rw [isSubtype_type]; kernel_rfl) (hzde g₅ _ _ _ _ F₅ X₅ P₅ ⟨rfl, ⟨oz, z1, z2.trans hcls⟩, ?_⟩)
  simp only [if_true]
  refine land_new hN₅ fun h₆ hN₆ => ?_
  obtain ⟨g₆, T₆, F₆, K₆⟩ := ground_any K F hf bg (up hN₆).1 (up hN₆).2
  have X₆ := XB.keeps K₆.stays
  have P₆ := topRead_of (TB.keeps K₆.stays)
  obtain ⟨oz', y1, y2, y3⟩ := hN₆.exc
  obtain ⟨tl, Ns, nm, qn, bs, hdct, sn, sub, ab, col, dd, k0, k1, k2, k3, k5, mN, hC, hNs, hni, OT⟩ := (own_of_in X₆ P₆ ex q).obj
  refine wpAny_passesOwnAt PassesOwnAt.leaving (wpAny_execs_cons ?_)
  refine Raise_again (C := C) (nm := nm) (q := qn) (N := Ns) (bs := bs) (bm := tl) (hdct := hdct) (sn := sn) (sub := sub) (ab := ab) (col := col) (dd := dd) (k0 := k0) (k1 := k1) (k2 := k2) (k3 := k3) (k5 := k5) (mN := mN) FB (OT.hasType FB.hasBase) rfl hni (hse g₆ _ _ _ _ F₆ X₆ P₆ ⟨rfl, ?_⟩) he rfl
  refine hmsg _ _ _ _ fun tk tk' => ⟨by show 1 ≤ sizeLine; decide, F₆.keep _ _ hC, hNs.keeps F₆.keep, OT.keeps F₆.keep, ⟨oz', _, y1, y3, rfl⟩, fun h₇ e hm => ?_⟩
  obtain ⟨t, t1, t2, t3⟩ := hm.there
  have hup := Heap.get?_update_self (Obj.mapFields (·.setIfInBounds 2 (.ref z))) t1 rfl
  have ot : ∀ {b : Addr} {o : Obj}, h₆.get? b = some o → (h₇.update e (Obj.mapFields (·.setIfInBounds 2 (.ref z)))).get? b = some o := fun {b o} eb => by
    refine (Heap.get?_update_other _ _ fun q => ?_).trans (hm.keeps _ _ eb)
    have := hm.new
    rw [q, eb] at this; cases this
  have te : t ≠ e := fun q => by rw [q, t1] at t3; cases t3
  have ne : (hideAll h ((env :: outer).filterMap (·.frame))).get? e = none := kts_none (up hN₆).1 hm.new
  have nt : (hideAll h ((env :: outer).filterMap (·.frame))).get? t = none := kts_none (up hN₆).1 t2
  have up₆ : h.UpToSlots (h₇.update e (Obj.mapFields (·.setIfInBounds 2 (.ref z)))) := fun b o eb nf => let ⟨sl, hs⟩ := (up hN₆).2 b o eb nf; ⟨sl, ot hs⟩
  refine wpAny_leaving_firstW (a0 := .ref t) (oe := _) a6 (a5.of_keeps fun b o eb nf => let ⟨sl, hs⟩ := up₆ b o eb nf; ⟨_, hs, rfl⟩) hf hup (fun b o eb => ot ((up hN₆).1 b o eb)) ne rfl rfl rfl fun h' hL => ?_
  obtain ⟨l1, ⟨_, _, l2⟩, l3, l4⟩ := hL
  exact hQ h' e t tk tk' ⟨⟨_, a1, a2, a3, ⟨l1, ne, l2, l3⟩, nt⟩, Heap.TupAt.of_slots ⟨_, _, (Heap.get?_update_other _ _ (Ne.symm te)).trans t3, rfl, rfl⟩ l4⟩ (((Heap.UpToSlots.of_keeps F.keep).trans up₆).trans l4)
end
end Mine
end

section
open PySem PySem.W PySem.Calls PyProof.Rows PySem.Spec
set_option maxRecDepth 100000
set_option maxHeartbeats 1000000
namespace Mine
theorem NoneBooked.keeps {h h' : Heap} (n : NoneBooked h) (k : ∀ b o, h.get? b = some o → h'.get? b = some o) : NoneBooked h' := by
  obtain ⟨mc, ⟨o, es, ep, e, r⟩, z⟩ := n
  exact ⟨mc, ⟨o, es, ep, k _ _ e, r⟩, z⟩
section
variable {prog : Program} {w : World} {A : Around} {E : Value → Shared → Prop} {s : Shared}
end
section
variable {h₀ h : Heap} {L a : Addr} {rest news : List (Addr × Obj)} {vs : Array Value} {ps : Array Value} {c : Nat}
end
structure SlopeIs (Sxy Sxx V : Int) : Prop where
  is : ∀ r, Quo r Sxy Sxx → Mine.Ex r V
end Mine
end

section
open PySem PySem.W PySem.Calls PyProof.Rows PySem.Spec Float64
set_option maxRecDepth 100000
set_option maxHeartbeats 1000000
namespace Mine
/-- each over d, exact -/
structure AllD (d P : Int) (vs : List Int) : Prop where
  is : ∀ k ∈ vs, DivP k d P
def mulF (P k : Int) : Int := k * P
section
variable {prog : Program} {w : World} {A : Around} {E : Value → Shared → Prop} {s : Shared} {Q : Value → Shared → Prop} {h d P : Int} {tk tk' : Tok}
end
section
variable {prog : Program} {w : World} {A : Around} {h₀ : Heap} {L : Addr} {m : Str → Option Value} {env : Env} {elt : Expr} {x : Str} {scope : Scope} {cl : List (Str × Addr)} {s₁ : Shared} {Fin : Shared → List Value → List (Addr × Obj) → Prop} {news : List (Addr × Obj)} {vs : List Int} {ys : List Value} {ay : Addr} {c : Nat} {d P : Int}
end
section
variable {prog : Program} {w : World} {A : Around} {E : Value → Shared → Prop} {s : Shared} {h₀ : Heap} {L la lb : Addr} {news : List (Addr × Obj)} {a1 a2 b1 b2 b3 b4 : UInt64} {t1 t2 u1 u2 u3 u4 : Tok} {v1 v2 : Int} {c d : Nat} {Q : Value → Shared → Prop}
structure Six (a1 a2 b1 b2 b3 b4 : UInt64) (t1 t2 u1 u2 u3 u4 : Tok) (v1 v2 : Int) : Prop where
  e1 : Ex a1 v1
  e2 : Ex a2 v2
  f1 : Ex b1 v1
  f2 : Ex b2 v2
  f3 : Ex b3 v1
  f4 : Ex b4 v2
  z1 : TokOk t1
  z2 : TokOk t2
  y1 : TokOk u1
  y2 : TokOk u2
  y3 : TokOk u3
  y4 : TokOk u4
end
section
variable {h₀ h : Heap} {L P : Addr} {o : Obj} {all : List (Addr × Obj)} {f : Obj → List (Addr × Obj)}
/-- an object of the ledger put at its head -/
theorem tab_head (U : UpdF P o all f) : ∃ rest, (∀ p ∈ rest, p.1 ≠ P) ∧ (∀ q ∈ (P, o) :: rest, q ∈ all) ∧ (∀ q ∈ all, q.1 ≠ P → q ∈ rest) ∧ ∀ o', ∀ q ∈ f o', q ∈ (P, o') :: rest := by
  obtain ⟨pre, post, e1, e2, d1, d2⟩ := U.split
  refine ⟨pre ++ post, fun p hp => (List.mem_append.mp hp).elim (d1 p) (d2 p), fun q hq => ?_, fun q hq hn => ?_, fun o' q hq => ?_⟩
  · rw [e1]
    rcases List.mem_cons.mp hq with rfl | hq
    · exact List.mem_append_right _ (.head _)
    · exact (List.mem_append.mp hq).elim (List.mem_append_left _) fun h => List.mem_append_right _ (.tail _ h)
  · rw [e1] at hq
    rcases List.mem_append.mp hq with hq | hq
    · exact List.mem_append_left _ hq
    · rcases List.mem_cons.mp hq with rfl | hq
      · exact absurd rfl hn
      · exact List.mem_append_right _ hq
  · rw [e2] at hq
    rcases List.mem_append.mp hq with hq | hq
    · exact .tail _ (List.mem_append_left _ hq)
    · rcases List.mem_cons.mp hq with rfl | hq
      · exact .head _
      · exact .tail _ (List.mem_append_right _ hq)
theorem list_ne {a : Addr} {vs : Array Value} {c : Nat} {ps : Array Value} (N : News h₀ L h all) (ha : (a, listOf vs c) ∈ all) (hP : (P, tabObj ps) ∈ all) : a ≠ P := fun e => by
  have h1 := (N _ ha).1
  have h2 := (N _ hP).1
  rw [e, h2] at h1
  cases h1
end
end Mine
end

section
open PySem PySem.W PySem.Calls PyProof.Rows PySem.Spec Float64
set_option maxRecDepth 100000
set_option maxHeartbeats 1000000
namespace Mine
section
variable {prog : Program} {w : World} {A : Around} {E : Value → Shared → Prop} {s : Shared} {g : Heap} {L ay c P cyb : Addr} {m : Str → Option Value} {all : List (Addr × Obj)} {f : Obj → List (Addr × Obj)} {env : Env} {x z : Str} {px pz p1 p2 p3 pos : Pos} {iter : Expr} {scope : Scope} {cl : List (Str × Addr)} {ys : List Value} {cy : Nat} {ws : List Int} {yb : UInt64} {tb : Tok} {Y : Int} {oyb : Obj} {mg : Str → Option Value} {ps : Array Value} {Q : Value → Shared → Prop}
theorem gen_walkT (F : Fr g L s.heap m) (N : News g L s.heap all) (U : UpdF P (tabObj ps) all f) (hlim : g.NoLimit) (M : ∃ bm ob, BMod g mainGlobals mg bm ob) (hg : env.globals = mainGlobals) (hcode : env.code = .ref c)
    (hT : TabOk ps) (hcd : s.heap.get? P = some (tabObj ps) → s.heap.IsCode c P ps ∧ s.heap.TableAt c P ps) (hP : (P, tabObj ps) ∈ all)
    (hh : A.handled = none) (hco : scope.isCoroutine = false) (hclos : closureFor scope env = pure cl) (hcell : ∀ y ∈ scope.names, y.2 ≠ .cell) (h0 : scope.names.lookup (".0" : Str) = some NameKind.local)
    (hx : scope.names.lookup x = some .local) (hkind : scope.kind = .function) (hroom : A.depth < recursionLimit)
    (hd1 : (x == ("__debug__" : Str)) = false) (hd2 : (z == ("__debug__" : Str)) = false) (hd3 : (z == ("__classdict__" : Str)) = false) (hzk : scope.names.lookup z = some .free) (hzc : cl.lookup z = some cyb)
    (hy : (ay, listOf ys.toArray cy) ∈ all) (hyb : (cyb, oyb) ∈ all) (hyd : oyb.data = .cell (some (.float yb tb)))
    (hiter : ∀ Q' : Value → Shared → Prop, Q' (.ref ay) s → wpAny (model prog w) A (eval iter env) Q' E s)
    (hn : NumsAre ys ws) (hE : Ex yb Y) (hf : ∀ i, i < ys.length → Fits (ws.getD i 0 - Y))
    (h : ∀ a C I h' tk gs oa oC oI ps', TabOk ps' → gs.bare = true → Fr g L h' m → News g L h' ((a, oa) :: (C, oC) :: (I, oI) :: f (tabObj ps')) → (∀ p ∈ f (tabObj ps'), p.1 < a ∧ p.1 < C ∧ p.1 < I) →
      GenReady prog w A g a C I ay cyb oa oC oI (listOf ys.toArray cy) oyb s.gens.size ys.length (SubAt ws Y) (s.gens.push gs) s.drawn s.os tk → Q (.ref a) ⟨h', s.gens.push gs, s.drawn, tk, s.os⟩)
    (hs : ∀ x, genFold iter env x = pure x) :
    wpAny (model prog w) A (eval (.GeneratorExp (.BinOp (.Name x p1) .Sub (.Name z p2) p3) [⟨.Name x px, iter, [], 0⟩] scope pos) env) Q E s := by
  obtain ⟨bm, ob, M⟩ := M
  have hPget : s.heap.get? P = some (tabObj ps) := (N _ hP).1
  obtain ⟨hic, htab⟩ := hcd hPget
  have hyget := (N _ hy).1
  have hybget := (N _ hyb).1
  have lt_of : ∀ {b o}, s.heap.get? b = some o → b < s.heap.objs.size := fun e => Heap.lt_size e
  have hPs : P ≠ cStatics := fun e => by
    obtain ⟨_, hns, _⟩ := hlim
    obtain ⟨o, _, _, ho, _⟩ := hns
    have := (N _ hP).2.2
    rw [e, ho] at this; cases this
  have hPa : P ≠ ay := fun e => by
    have : some (tabObj ps) = some (listOf ys.toArray cy) := by rw [← hPget, e]; exact hyget
    cases this
  have hPk : P ≠ cyb := fun e => by
    have : tabObj ps = oyb := by
      have : some (tabObj ps) = some oyb := by rw [← hPget, e]; exact hybget
      exact Option.some.inj this
    rw [← this] at hyd; cases hyd
  refine gen_listT (ks := [cyb]) (F := SubAt ws Y) (P := P) (ps := ps) hh hco hclos hcell h0 hx hkind hroom hcode hic htab hT (by rw [hg]; exact M.keeps F.keep) (hlim.keeps F.keep) hPs ⟨_, hyget, rfl, _, rfl⟩ hiter
    (fun b hb => by rw [List.mem_singleton.mp hb]; exact lt_of hybget) (fun hm => hPk (List.mem_singleton.mp hm)) hPa ?_ ?_ hs
  · intro c' C A' E' i v t m₂ hA hD hv hns hm hk
    have hil : i < ys.length := by
      rcases Nat.lt_or_ge i ys.length with h | h
      · exact h
      · rw [List.getElem?_eq_none h] at hv; cases hv
    refine wpAny_BinOp (eval_local hd1 hkind hx hns hm (eval_free hd2 hkind hzk hzc ⟨_, hk cyb (List.mem_singleton.mpr rfl) _ hybget, hyd⟩ hd3 ?_))
    exact num_sub (hn.2 i v hv) hE (hf i hil) fun r t' hr => ⟨⟨r, t', rfl, hr⟩, t.heap, t.toks + 1, rfl, fun _ _ e => e⟩
  · intro a C I ps' h₅ tk gs oa oC oI hT' hgb hkeep hPn ha hC hI la lC lI naC naI nCI hG
    have hLlt : L < s.heap.objs.size := F.ns.lt
    have inb : ∀ p ∈ all, p.1 < s.heap.objs.size := fun p hp => Heap.lt_size (N p hp).1
    have hLP : L ≠ P := Ne.symm (N _ hP).2.1
    have none_of : ∀ b, @LE.le Nat _ s.heap.objs.size b → g.get? b = none := fun b hb => by
      cases e : g.get? b with
      | none => rfl
      | some o => exact absurd (Heap.lt_size (F.keep b o e)) (Nat.not_lt.mpr hb)
    obtain ⟨pre, post, e1, e2, d1, d2⟩ := U.split
    have keepb : ∀ b o, g.get? b = some o → h₅.get? b = some o := fun b o e => hkeep b o (fun eb => by
      have := (N _ hP).2.2
      rw [← eb, e] at this; cases this) (F.keep b o e)
    have inf : ∀ p ∈ f (tabObj ps'), ∃ q ∈ all, q.1 = p.1 := fun p hp => by
      rw [e2] at hp
      rcases List.mem_append.mp hp with hp | hp
      · exact ⟨p, by rw [e1]; exact List.mem_append_left _ hp, rfl⟩
      · rcases List.mem_cons.mp hp with rfl | hp
        · exact ⟨_, hP, rfl⟩
        · exact ⟨p, by rw [e1]; exact List.mem_append_right _ (List.mem_cons_of_mem _ hp), rfl⟩
    refine h a C I h₅ tk gs oa oC oI ps' hT' hgb ⟨F.ns.at' fun o e => hkeep L o hLP e, keepb, F.above⟩ ?_ (fun p hp => by
      obtain ⟨q, hq, e⟩ := inf p hp
      rw [← e]
      exact ⟨Nat.lt_of_lt_of_le (inb q hq) la, Nat.lt_of_lt_of_le (inb q hq) lC, Nat.lt_of_lt_of_le (inb q hq) lI⟩) (gen_ready hlim keepb ha hC hI (hkeep _ _ (Ne.symm hPa) hyget) (hkeep _ _ (Ne.symm hPk) hybget) hG)
    · intro p hp
      rcases List.mem_cons.mp hp with rfl | hp
      · exact ⟨ha, Nat.ne_of_gt (Nat.lt_of_lt_of_le hLlt la), none_of _ la⟩
      · rcases List.mem_cons.mp hp with rfl | hp
        · exact ⟨hC, Nat.ne_of_gt (Nat.lt_of_lt_of_le hLlt lC), none_of _ lC⟩
        · rcases List.mem_cons.mp hp with rfl | hp
          · exact ⟨hI, Nat.ne_of_gt (Nat.lt_of_lt_of_le hLlt lI), none_of _ lI⟩
          · rw [e2] at hp
            rcases List.mem_append.mp hp with hp | hp
            · have hm : p ∈ all := by rw [e1]; exact List.mem_append_left _ hp
              exact ⟨hkeep _ _ (d1 p hp) (N p hm).1, (N p hm).2⟩
            · rcases List.mem_cons.mp hp with rfl | hp
              · exact ⟨hPn, (N _ hP).2⟩
              · have hm : p ∈ all := by rw [e1]; exact List.mem_append_right _ (List.mem_cons_of_mem _ hp)
                exact ⟨hkeep _ _ (d2 p hp) (N p hm).1, (N p hm).2⟩
end
end Mine
end

section
open PySem PySem.W PySem.Calls PyProof.Rows PySem.Spec Float64
set_option maxRecDepth 100000
set_option maxHeartbeats 1000000
namespace Mine
section
variable {prog : Program} {w : World} {A : Around} {E : Value → Shared → Prop} {s : Shared}
/-- a generator stays where it is while others move -/
theorem GenAt.move {A' : Around} {a C : Addr} {g n j : Nat} {fp wr : List Addr} {pz : Nat → Bool} {F : Nat → Value → Prop} {s s' : Shared} (x : GenAt prog w A' a g C fp wr pz n F j s) (hst : cStatics ∈ fp) (hg : s'.gens[g]? = s.gens[g]?) (hk : ∀ b ∈ a :: C :: fp, ∀ o, s.heap.get? b = some o → s'.heap.get? b = some o) : GenAt prog w A' a g C fp wr pz n F j s' := by
  obtain ⟨h1, ⟨mc, hns, h2⟩, gs, h3, h4⟩ := x
  refine ⟨?_, ⟨mc, hns.at' fun o e => hk _ (List.mem_cons_of_mem _ (List.mem_cons_of_mem _ hst)) o e, h2⟩, gs, hg.trans h3, fun s'' hk'' => h4 s'' fun b hb o e => hk'' b hb o (hk b (List.mem_cons_of_mem _ hb) o e)⟩
  obtain ⟨o, q, r, hd, hr⟩ := h1
  exact ⟨o, q, r, hk _ (List.mem_cons_self) _ hd, hr⟩
theorem only_bare {g : Nat} {a b : Array GenState} (h : GenOnlyQ g a b) (hb : AllBare a) : AllBare b := by
  rcases h with rfl | ⟨⟨hsz, hk⟩, hx⟩
  · exact hb
  · intro x hx'
    obtain ⟨k, hk', e0⟩ := Array.mem_iff_getElem.mp hx'
    have hkx : b[k]? = some x := by rw [Array.getElem?_eq_getElem hk', e0]
    by_cases e : k = g
    · subst e; exact hx x hkx
    · rw [hk k e] at hkx
      exact hb x (Array.mem_of_getElem? hkx)
theorem only_other {g k : Nat} {a b : Array GenState} (h : GenOnlyQ g a b) (hn : k ≠ g) : b[k]? = a[k]? := by
  rcases h with rfl | ⟨⟨_, hk⟩, _⟩
  · rfl
  · exact hk k hn
theorem two_gen_gen {a1 C1 I1 y1 a2 C2 I2 y2 : Addr} {ks1 ks2 : List Addr} {g1 g2 n : Nat} {F1 F2 : Nat → Value → Prop} {s1 s2 : Shared} (G1 : GenIs prog w A a1 C1 I1 y1 ks1 g1 n F1 s1) (G2 : GenIs prog w A a2 C2 I2 y2 ks2 g2 n F2 s2) (hg : g1 ≠ g2)
    (d1 : C2 ∉ (a1 :: C1 :: I1 :: y1 :: cStatics :: ks1)) (d2 : I2 ∉ (a1 :: C1 :: I1 :: y1 :: cStatics :: ks1)) (d3 : C1 ∉ (a2 :: C2 :: I2 :: y2 :: cStatics :: ks2)) (d4 : I1 ∉ (a2 :: C2 :: I2 :: y2 :: cStatics :: ks2)) :
    Two prog w A.in1 a1 a2 (a1 :: C1 :: I1 :: y1 :: cStatics :: ks1) (C1 :: [I1]) (a2 :: C2 :: I2 :: y2 :: cStatics :: ks2) (C2 :: [I2]) (GenOnlyQ g1) (GenOnlyQ g2) (fun a b => AllBare a → AllBare b) n F1 F2
      (GenAt prog w A.in4 a1 g1 C1 (I1 :: y1 :: cStatics :: ks1) [I1] allOf n F1) (GenAt prog w A.in4 a2 g2 C2 (I2 :: y2 :: cStatics :: ks2) [I2] allOf n F2) where
  W1 := G1.in1
  W2 := G2.in1
  fr1 := fun i s s' st hm => GenAt.move st (by simp) (only_other hm.gens hg) fun b hb o e => hm.heap b o (fun hw => by
    rcases List.mem_cons.mp hw with rfl | hw
    · exact d1 hb
    · exact d2 (by rw [← List.mem_singleton.mp hw]; exact hb)) e
  fr2 := fun i s s' st hm => GenAt.move st (by simp) (only_other hm.gens (Ne.symm hg)) fun b hb o e => hm.heap b o (fun hw => by
    rcases List.mem_cons.mp hw with rfl | hw
    · exact d3 hb
    · exact d4 (by rw [← List.mem_singleton.mp hw]; exact hb)) e
  g1 := fun _ _ h => only_bare h
  g2 := fun _ _ h => only_bare h
  grefl := fun _ h => h
  gtrans := fun _ _ _ h k x => k (h x)
theorem sumprod_gen_gen {a1 C1 I1 y1 a2 C2 I2 y2 : Addr} {ks1 ks2 : List Addr} {g1 g2 n : Nat} {F1 F2 : Nat → Value → Prop} {s1 s2 : Shared} {Q : Value → Shared → Prop} (hA : A.in1.handled = none) (G1 : GenIs prog w A a1 C1 I1 y1 ks1 g1 n F1 s1) (G2 : GenIs prog w A a2 C2 I2 y2 ks2 g2 n F2 s2) (hg : g1 ≠ g2)
    (d1 : C2 ∉ (a1 :: C1 :: I1 :: y1 :: cStatics :: ks1)) (d2 : I2 ∉ (a1 :: C1 :: I1 :: y1 :: cStatics :: ks1)) (d3 : C1 ∉ (a2 :: C2 :: I2 :: y2 :: cStatics :: ks2)) (d4 : I1 ∉ (a2 :: C2 :: I2 :: y2 :: cStatics :: ks2))
    (h1 : GenAt prog w A.in4 a1 g1 C1 (I1 :: y1 :: cStatics :: ks1) [I1] allOf n F1 0 s) (h2 : GenAt prog w A.in4 a2 g2 C2 (I2 :: y2 :: cStatics :: ks2) [I2] allOf n F2 0 s) (hn : 0 < n)
    (b1 : ∀ b ∈ (a1 :: C1 :: I1 :: y1 :: cStatics :: ks1), b < s.heap.objs.size) (b2 : ∀ b ∈ (a2 :: C2 :: I2 :: y2 :: cStatics :: ks2), b < s.heap.objs.size)
    (v1 v2 pr : Nat → Int) (hv1 : ∀ i y, F1 i y → NumV y (v1 i) ∧ isF y = true) (hv2 : ∀ i y, F2 i y → NumV y (v2 i) ∧ isF y = true)
    (hpr : ∀ i, i < n → v1 i * v2 i = pr i * 2 ^ 1074 ∧ Fits (pr i)) (hfit : ∀ j, j ≤ n → Fits (preSum pr j))
    (h : ∀ h' gs' tk r t, (∀ b o, b ∉ [C1, I1, C2, I2] → s.heap.get? b = some o → h'.get? b = some o) → (AllBare s.gens → AllBare gs') → s.toks ≤ tk → Ex r (preSum pr n) → Q (.float r t) ⟨h', gs', s.drawn, tk, s.os⟩) :
    wpAny (model prog w) A (call (.builtin "math.sumprod") [.ref a1, .ref a2]) Q E s := by
  refine call_sumprod_flt ?_
  refine G1.in1.self 0 _ _ _ h1 ?_
  refine G2.in1.self 0 _ _ _ h2 ?_
  refine ⟨a1, a2, _, _, _, _, _, _, _, n, _, _, _, _, v1, v2, pr, rfl, rfl, two_gen_gen G1 G2 hg d1 d2 d3 d4, h1, h2, b1, b2, ?_, hpr, hfit, hn, ?_⟩
  · intro i x y hx hy
    have e1 := hv1 i x hx
    have e2 := hv2 i y hy
    exact ⟨e1.1, e2.1, by rw [e1.2]; rfl⟩
  · intro s' r t hm hr
    rw [moved_eqG hm]
    exact h s'.heap s'.gens s'.toks r t (fun b o hb e => hm.heap b o (by simpa using hb) e) hm.gens hm.toks hr
end
section
variable {prog : Program} {w : World} {A : Around} {E : Value → Shared → Prop} {g : Heap} {L : Addr} {m : Str → Option Value} {ws1 ws2 : List Int} {Y1 Y2 : Int} {Q : Value → Shared → Prop}
/-- what is left of a generator that is ready, in any later state -/
theorem ready_at {a C I ay cyb : Addr} {oa oC oI oy oyb : Obj} {g0 n : Nat} {F : Nat → Value → Prop} {gs gs' : Array GenState} {dr dr' : Drawn} {os os' : OsState} {tk tk' : Nat} {h : Heap} (R : GenReady prog w A g a C I ay cyb oa oC oI oy oyb g0 n F gs dr os tk) (hg : gs'[g0]? = gs[g0]?)
    (ha : h.get? a = some oa) (hC : h.get? C = some oC) (hI : h.get? I = some oI) (hy : h.get? ay = some oy) (hyb : h.get? cyb = some oyb) (hs : ∀ o, g.get? cStatics = some o → h.get? cStatics = some o) :
    GenAt prog w A.in4 a g0 C (I :: ay :: cStatics :: [cyb]) [I] allOf n F 0 ⟨h, gs', dr', tk', os'⟩ :=
  GenAt.move (R.now h tk (Nat.le_refl _) ha hC hI hy hyb hs) (by simp) hg fun _ _ _ e => e
theorem lt_map {rest : List (Addr × Obj)} {a C I : Addr} (h : ∀ p ∈ rest, p.1 < a ∧ p.1 < C ∧ p.1 < I) : ∀ b ∈ rest.map (·.1), b < a ∧ b < C ∧ b < I := fun b hb => by
  obtain ⟨p, hp, rfl⟩ := List.mem_map.mp hb
  exact h p hp
theorem sum_gg {rest : List (Addr × Obj)} {a1 C1 I1 a2 C2 I2 y1 y2 c1 c2 : Addr} {oa1 oC1 oI1 oy1 ob1 oa2 oC2 oI2 oy2 ob2 : Obj} {n tk1 tk2 : Nat} {x1 x2 : GenState} {G0 : Array GenState} {dr : Drawn} {os : OsState} (pr : Nat → Int) {h : Heap} {tk : Nat}
    (hA : A.in1.handled = none) (F : Fr g L h m) (N : News g L h ((a2, oa2) :: (C2, oC2) :: (I2, oI2) :: (a1, oa1) :: (C1, oC1) :: (I1, oI1) :: rest))
    (R1 : GenReady prog w A g a1 C1 I1 y1 c1 oa1 oC1 oI1 oy1 ob1 G0.size n (SubAt ws1 Y1) (G0.push x1) dr os tk1) (R2 : GenReady prog w A g a2 C2 I2 y2 c2 oa2 oC2 oI2 oy2 ob2 (G0.push x1).size n (SubAt ws2 Y2) ((G0.push x1).push x2) dr os tk2) (hlim : g.NoLimit)
    (hlt1' : ∀ b ∈ rest.map (·.1), b < a1 ∧ b < C1 ∧ b < I1) (hlt2 : ∀ p ∈ (a1, oa1) :: (C1, oC1) :: (I1, oI1) :: rest, p.1 < a2 ∧ p.1 < C2 ∧ p.1 < I2)
    (hy1 : (y1, oy1) ∈ rest) (hb1 : (c1, ob1) ∈ rest) (hy2 : (y2, oy2) ∈ rest) (hb2 : (c2, ob2) ∈ rest) (hb : AllBare G0) (hx1 : x1.bare = true) (hx2 : x2.bare = true) (hpos : 0 < n)
    (hpr : ∀ i, i < n → (ws1.getD i 0 - Y1) * (ws2.getD i 0 - Y2) = pr i * 2 ^ 1074 ∧ Fits (pr i)) (hfit : ∀ j, j ≤ n → Fits (preSum pr j))
    (k : ∀ h' gs' tk' r t, Fr g L h' m → News g L h' rest → AllBare gs' → Ex r (preSum pr n) → Q (.float r t) ⟨h', gs', dr, tk', os⟩) :
    wpAny (model prog w) A (call (.builtin "math.sumprod") [.ref a1, .ref a2]) Q E ⟨h, (G0.push x1).push x2, dr, tk, os⟩ := by
  have hlt1 : ∀ p ∈ rest, p.1 < a1 ∧ p.1 < C1 ∧ p.1 < I1 := fun p hp => hlt1' _ (List.mem_map_of_mem hp)
  obtain ⟨s1, i1⟩ := R1.is
  obtain ⟨s2, i2⟩ := R2.is
  have ma2 := N _ (.head _)
  have mC2 := N _ (.tail _ (.head _))
  have mI2 := N _ (.tail _ (.tail _ (.head _)))
  have N1 : News g L h ((a1, oa1) :: (C1, oC1) :: (I1, oI1) :: rest) := fun q hq => N q (.tail _ (.tail _ (.tail _ hq)))
  have ma1 := N1 _ (.head _)
  have mC1 := N1 _ (.tail _ (.head _))
  have mI1 := N1 _ (.tail _ (.tail _ (.head _)))
  have mr : ∀ p ∈ rest, h.get? p.1 = some p.2 ∧ p.1 ≠ L ∧ g.get? p.1 = none := fun p hp => N1 p (.tail _ (.tail _ (.tail _ hp)))
  have hst : ∀ o, g.get? cStatics = some o → h.get? cStatics = some o := fun o e => F.keep _ _ e
  have gne : ((G0.push x1).push x2)[G0.size]? = (G0.push x1)[G0.size]? := by
    rw [Array.getElem?_push_lt (by simp), Array.getElem?_eq_getElem (by simp)]
  have t1 := ready_at (dr' := dr) (os' := os) (tk' := tk) R1 gne ma1.1 mC1.1 mI1.1 (mr _ hy1).1 (mr _ hb1).1 hst
  have t2 := ready_at (dr' := dr) (os' := os) (tk' := tk) R2 rfl ma2.1 mC2.1 mI2.1 (mr _ hy2).1 (mr _ hb2).1 hst
  obtain ⟨_, hns, _⟩ := hlim
  obtain ⟨os', _, _, hos, _⟩ := hns
  have stC1 : cStatics ≠ C1 := fun e => by have := mC1.2.2; rw [← e, hos] at this; cases this
  have stI1 : cStatics ≠ I1 := fun e => by have := mI1.2.2; rw [← e, hos] at this; cases this
  have stC2 : cStatics ≠ C2 := fun e => by have := mC2.2.2; rw [← e, hos] at this; cases this
  have stI2 : cStatics ≠ I2 := fun e => by have := mI2.2.2; rw [← e, hos] at this; cases this
  have l_a1 := hlt2 _ (.head _)
  have l_C1 := hlt2 _ (.tail _ (.head _))
  have l_I1 := hlt2 _ (.tail _ (.tail _ (.head _)))
  have l_r2 : ∀ p ∈ rest, p.1 < a2 ∧ p.1 < C2 ∧ p.1 < I2 := fun p hp => hlt2 p (.tail _ (.tail _ (.tail _ hp)))
  have ly1 := hlt1 _ hy1
  have lb1 := hlt1 _ hb1
  have ly2 := hlt1 _ hy2
  have lb2 := hlt1 _ hb2
  have my1 := l_r2 _ hy1
  have mb1 := l_r2 _ hb1
  have sizes : ∀ {b : Addr} {o : Obj}, h.get? b = some o → b < h.objs.size := fun e => Heap.lt_size e
  refine sumprod_gen_gen (s := ⟨h, (G0.push x1).push x2, dr, tk, os⟩) hA i1 i2 (by simp) ?_ ?_ ?_ ?_ t1 t2 hpos ?_ ?_ (fun i => ws1.getD i 0 - Y1) (fun i => ws2.getD i 0 - Y2) pr (fun i y hy => ?_) (fun i y hy => ?_) hpr hfit fun h' gs' tk' r t hk hgs ht hr => ?_
  · intro hm
    simp only [List.mem_cons, List.not_mem_nil, or_false] at hm
    rcases hm with e | e | e | e | e | e
    · exact Nat.ne_of_gt l_a1.2.1 e
    · exact Nat.ne_of_gt l_C1.2.1 e
    · exact Nat.ne_of_gt l_I1.2.1 e
    · exact Nat.ne_of_gt my1.2.1 e
    · exact stC2 e.symm
    · exact Nat.ne_of_gt mb1.2.1 e
  · intro hm
    simp only [List.mem_cons, List.not_mem_nil, or_false] at hm
    rcases hm with e | e | e | e | e | e
    · exact Nat.ne_of_gt l_a1.2.2 e
    · exact Nat.ne_of_gt l_C1.2.2 e
    · exact Nat.ne_of_gt l_I1.2.2 e
    · exact Nat.ne_of_gt my1.2.2 e
    · exact stI2 e.symm
    · exact Nat.ne_of_gt mb1.2.2 e
  · intro hm
    simp only [List.mem_cons, List.not_mem_nil, or_false] at hm
    rcases hm with e | e | e | e | e | e
    · exact Nat.ne_of_lt l_C1.1 e
    · exact Nat.ne_of_lt l_C1.2.1 e
    · exact Nat.ne_of_lt l_C1.2.2 e
    · exact Nat.ne_of_gt ly2.2.1 e
    · exact stC1 e.symm
    · exact Nat.ne_of_gt lb2.2.1 e
  · intro hm
    simp only [List.mem_cons, List.not_mem_nil, or_false] at hm
    rcases hm with e | e | e | e | e | e
    · exact Nat.ne_of_lt l_I1.1 e
    · exact Nat.ne_of_lt l_I1.2.1 e
    · exact Nat.ne_of_lt l_I1.2.2 e
    · exact Nat.ne_of_gt ly2.2.2 e
    · exact stI1 e.symm
    · exact Nat.ne_of_gt lb2.2.2 e
  · intro b hm
    simp only [List.mem_cons, List.not_mem_nil, or_false] at hm
    rcases hm with rfl | rfl | rfl | rfl | rfl | rfl
    · exact sizes ma1.1
    · exact sizes mC1.1
    · exact sizes mI1.1
    · exact sizes (mr _ hy1).1
    · exact sizes (hst _ hos)
    · exact sizes (mr _ hb1).1
  · intro b hm
    simp only [List.mem_cons, List.not_mem_nil, or_false] at hm
    rcases hm with rfl | rfl | rfl | rfl | rfl | rfl
    · exact sizes ma2.1
    · exact sizes mC2.1
    · exact sizes mI2.1
    · exact sizes (mr _ hy2).1
    · exact sizes (hst _ hos)
    · exact sizes (mr _ hb2).1
  · obtain ⟨r, t, rfl, hr⟩ := hy.is
    exact ⟨.float t hr, rfl⟩
  · obtain ⟨r, t, rfl, hr⟩ := hy.is
    exact ⟨.float t hr, rfl⟩
  · have off : ∀ b, (b ≠ C1 ∧ b ≠ I1 ∧ b ≠ C2 ∧ b ≠ I2) → b ∉ [C1, I1, C2, I2] := fun b hb hm => by
      simp only [List.mem_cons, List.not_mem_nil, or_false] at hm
      rcases hm with e | e | e | e
      · exact hb.1 e
      · exact hb.2.1 e
      · exact hb.2.2.1 e
      · exact hb.2.2.2 e
    have gn : ∀ {b : Addr} {o : Obj}, g.get? b = some o → b ∉ [C1, I1, C2, I2] := fun {b o} e => off b (by
      refine ⟨fun eb => ?_, fun eb => ?_, fun eb => ?_, fun eb => ?_⟩
      · have := mC1.2.2; rw [← eb, e] at this; cases this
      · have := mI1.2.2; rw [← eb, e] at this; cases this
      · have := mC2.2.2; rw [← eb, e] at this; cases this
      · have := mI2.2.2; rw [← eb, e] at this; cases this)
    refine k h' gs' tk' r t ⟨F.ns.at' fun o e => hk L o (off L ⟨Ne.symm mC1.2.1, Ne.symm mI1.2.1, Ne.symm mC2.2.1, Ne.symm mI2.2.1⟩) e, fun b o e => hk b o (gn e) (F.keep b o e), F.above⟩ (fun p hp => ⟨hk _ _ (off p.1 ⟨Nat.ne_of_lt (hlt1 p hp).2.1, Nat.ne_of_lt (hlt1 p hp).2.2, Nat.ne_of_lt (l_r2 p hp).2.1, Nat.ne_of_lt (l_r2 p hp).2.2⟩) (mr p hp).1, (mr p hp).2⟩) (hgs ((hb.push hx1).push hx2)) hr
end
section
variable {prog : Program} {w : World} {A : Around} {E : Value → Shared → Prop} {s : Shared} {Q : Value → Shared → Prop} {xs ys : List Value} {us ws : List Int} {n : Nat} {Xb Yb : Int} {pr qr : Nat → Int} {r : UInt64} {t tk2 : Tok}
theorem dx_all (K : FullOk xs ys us ws n Xb Yb pr qr) : ∀ i, i < xs.length → Fits (us.getD i 0 - Xb) := fun i hi => K.dx i (by rw [← K.lx]; exact hi)
theorem div_cov (K : FullOk xs ys us ws n Xb Yb pr qr) (h2 : 2 ≤ n) (h200 : n < 200) (hr : Ex r (preSum pr n)) (h : ∀ r t, Quo r (preSum pr n) (((n : Int) - 1) * 2 ^ 1074) → Q (.float r t) { s with toks := s.toks + 1 }) : wpAny (model prog w) A (binaryOp .Div (.float r t) (.int ((xs.length : Int) - 1) tk2)) Q E s := by
  rw [K.lx]
  have hf : Fits (((n : Int) - 1) * 2 ^ 1074) := Fits.of _ 1074 (by omega) (by decide)
  have h0 : ((n : Int) - 1) * 2 ^ 1074 ≠ 0 := Int.ne_of_gt (Int.mul_pos (by omega) (Int.pow_pos (by decide)))
  exact AutoFloatOps.truediv_fi_2 (not_inf hf) (not_zero hf (by omega)) (h _ _ (hr.quo (Ex.ofInt hf) h0))
theorem slope_q (Z : preSum qr n ≠ 0) {x : UInt64} {tb : Tok} (hx : Ex x (preSum pr n)) (hv : Ex r (preSum qr n)) (h : ∀ r t, Quo r (preSum pr n) (preSum qr n) → Q (.float r t) { s with toks := s.toks + 1 }) : wpAny (model prog w) A (binaryOp .Div (.float x tb) (.float r t)) Q E s :=
  AutoFloatOps.truediv_1 (by rw [hv.notZero]; simpa using Z) (h _ _ (hx.quo hv Z))
theorem cov_sum {g : Heap} {L : Addr} {m : Str → Option Value} {rest : List (Addr × Obj)} {a1 C1 I1 a2 C2 I2 y1 y2 c1 c2 : Addr} {oa1 oC1 oI1 oy1 ob1 oa2 oC2 oI2 oy2 ob2 : Obj} {tk1 tk2 : Nat} {x1 x2 : GenState} {G0 : Array GenState} {dr : Drawn} {os : OsState} {h : Heap} {tk : Nat} {Q : Value → Shared → Prop}
    (K : FullOk xs ys us ws n Xb Yb pr qr) (h2 : 2 ≤ n) (hA : A.in1.handled = none) (F : Fr g L h m) (N : News g L h ((a2, oa2) :: (C2, oC2) :: (I2, oI2) :: (a1, oa1) :: (C1, oC1) :: (I1, oI1) :: rest))
    (R1 : GenReady prog w A g a1 C1 I1 y1 c1 oa1 oC1 oI1 oy1 ob1 G0.size xs.length (SubAt us Xb) (G0.push x1) dr os tk1) (R2 : GenReady prog w A g a2 C2 I2 y2 c2 oa2 oC2 oI2 oy2 ob2 (G0.push x1).size ys.length (SubAt ws Yb) ((G0.push x1).push x2) dr os tk2) (hlim : g.NoLimit)
    (hlt1 : ∀ b ∈ rest.map (·.1), b < a1 ∧ b < C1 ∧ b < I1) (hlt2 : ∀ p ∈ (a1, oa1) :: (C1, oC1) :: (I1, oI1) :: rest, p.1 < a2 ∧ p.1 < C2 ∧ p.1 < I2)
    (hy1 : (y1, oy1) ∈ rest) (hb1 : (c1, ob1) ∈ rest) (hy2 : (y2, oy2) ∈ rest) (hb2 : (c2, ob2) ∈ rest) (hb : AllBare G0) (hx1 : x1.bare = true) (hx2 : x2.bare = true)
    (k : ∀ h' gs' tk' r t, Fr g L h' m → News g L h' rest → AllBare gs' → Ex r (preSum pr n) → Q (.float r t) ⟨h', gs', dr, tk', os⟩) :
    wpAny (model prog w) A (call (.builtin "math.sumprod") [.ref a1, .ref a2]) Q E ⟨h, (G0.push x1).push x2, dr, tk, os⟩ := by
  rw [K.lx] at R1
  rw [K.ly] at R2
  exact sum_gg pr hA F N R1 R2 hlim hlt1 hlt2 hy1 hb1 hy2 hb2 hb hx1 hx2 (by omega) K.pxy K.sxy k
end
end Mine
end

section
open PySem PySem.W PySem.Calls PyProof.Rows
set_option maxRecDepth 100000
set_option maxHeartbeats 4000000
namespace Mine
theorem zz_LRFe : True := by
  w_top off
  k_with_none
  trivial
section
variable {prog : Program} {w : World} {A : Around} {E : Value → Shared → Prop} {s : Shared} {h₀ : Heap} {L a : Addr} {news : List (Addr × Obj)} {xs : List Value} {c : Nat}
theorem my_len {Q : Value → Shared → Prop} (N : News h₀ L s.heap news) (hm : (a, W.listOf xs.toArray c) ∈ news) (hf : xs.length < 200) (h : Q (.int xs.length (s.toks + 1)) { s with toks := s.toks + 1 + 1 }) :
    wpAny (model prog w) A (call (.builtin "len") [.ref a]) Q E s := by
  refine len_list (N.isList hm) (by simp; omega) ?_
  simpa using h
end
structure GenFact (f : Prop) : Prop where
  is : f
theorem below_ne {news : List (Addr × Obj)} {L c : Addr} (h : ∀ p ∈ news, p.1 < L) (hle : @LE.le Nat _ L c) : ∀ p ∈ news, p.1 ≠ c := fun p hp => Nat.ne_of_lt (Nat.lt_of_lt_of_le (h p hp) hle)
local macro_rules | `(tactic| k_all) => `(tactic| first | assumption | exact below_ne (by assumption) (by first | exact Nat.le_refl _ | exact Nat.le_add_right _ _ | omega))
theorem is_lr {h₀ h : Heap} {L t dx : Addr} {v1 v2 : Value} {rest : List (Addr × Obj)} (N : News h₀ L h ((t, lrObj 180 dx v1 v2) :: rest)) : IsLR h t := ⟨_, _, _, (N _ (.head _)).1⟩
theorem lt_of_all {d : Addr} : ∀ {l : List (Addr × Obj)}, AllLt d l → ∀ p ∈ l, p.1 < d
  | [], _, _, hm => by cases hm
  | q :: r, h, p, hm => by
    rcases List.mem_cons.mp hm with rfl | hm
    · exact h.1
    · exact lt_of_all h.2 p hm
theorem lt5 {a b c d e t : Addr} {news : List (Addr × Obj)} (h : a < t ∧ b < t ∧ c < t ∧ d < t ∧ e < t ∧ AllLt t news) : ∀ p ∈ news, p.1 < t := lt_of_all h.2.2.2.2.2
theorem news_subF {h₀ h : Heap} {L : Addr} {n₁ n₂ : List (Addr × Obj)} (N : News h₀ L h n₁) (hs : ∀ q ∈ n₂, q ∈ n₁) : News h₀ L h n₂ := fun q hq => N q (hs q hq)
theorem sub7 {α : Type} {a b c d e f g : α} {l : List α} : ∀ q ∈ a :: b :: g :: l, q ∈ a :: b :: c :: d :: e :: f :: g :: l := fun q hq => by
  rcases List.mem_cons.mp hq with rfl | hq
  · exact .head _
  · rcases List.mem_cons.mp hq with rfl | hq
    · exact .tail _ (.head _)
    · exact .tail _ (.tail _ (.tail _ (.tail _ (.tail _ (.tail _ hq)))))
theorem two_lt {n : Nat} (h : 2 ≤ n) : 0 < n := by omega
theorem zz_LRFe_3 : True := by
  k_with "my call builtin:len" =>
    (k_here; (with_reducible show wpAny _ _ (call (Value.builtin _) [Value.ref _]) _ _ _); (refine' my_len ?zz10k1 ?zz10k2 ?zz10k3 ?_; (case zz10k1 => k_asm); (case zz10k2 => k_ownIn); (case zz10k3 => assumption); k_whole))
  k_with "my binaryOp Add float" =>
    (k_here; (refine' num_add_zero ?zz11k1 ?zz11k2 ?_; (case zz11k1 => assumption); (case zz11k2 => exact ex_lit0)); intro rzz11' tzz11' r1zz11')
  k_with "my exec Try cons cons nil nil" =>
    (k_here; (refine wpAny_Try_except ?_); (try dsimp only))
  k_with "my ite" =>
    (k_here; first | (refine ite_pos (by (simp only [bne_iff_ne, beq_iff_eq, ne_eq, decide_eq_true_eq]; omega)) ?_) | (refine ite_neg (by (simp only [bne_iff_ne, beq_iff_eq, ne_eq, decide_eq_true_eq]; omega)) ?_))
  k_with "my call ref nil" =>
    (k_here; (refine' lr_make ?zz14k1 ?zz14k2 ?_ ?zz14k4; (case zz14k1 => k_asm); (case zz14k2 => k_asm); (case zz14k4 => k_asm); k_whole))
  k_with "my call ref cons cons" =>
    (k_here; (refine wpAny_call ?_); (refine' code_def ?zz15k1 ?zz15k2 ?zz15k3 ?zz15k4 ?zz15k5 ?zz15kA ?zz15kF ?zz15kK ?zz15k6 ?zz15k7 ?zz15k8 ?zz15k9 ?zz15kB ?_ ?zz15c2 ?zz15c3 ?zz15c4 ?zz15c5; (case zz15kA => exact rfl); (case zz15kF => exact rfl); (case zz15kK => exact rfl); (case zz15k1 => k_asm); (case zz15k2 => k_asm); (case zz15k3 => k_asm); (case zz15k4 => k_asm); (case zz15k5 => k_asm); (case zz15k6 => k_is); (case zz15k7 => k_is); (case zz15k8 => ktr_room); (case zz15k9 => exact BindsTo.of_eq rfl); (case zz15c5 => decide); (case zz15kB => exact locs rfl); (case zz15c2 => exact rfl); (case zz15c3 => exact rfl); (case zz15c4 => exact rfl); k_whole; intro gzz15' Lzz15' hzz15' FGzz15' Fzz15' Nzz15' Bzz15' Xzz15' Tzz15'; (try dsimp only); (try k_lift Bzz15'); (try k_fold)))
  k_with "my getMethod type:tuple" =>
    (k_here; refine' method_type ?zz16F ?zz16X ?zz16m (by decide +kernel) ?zz16e ?zz16h ?_; (case zz16F => k_asm); (case zz16X => k_asm); (case zz16m => exact meta_tuple); (case zz16e => k_dflt k_is); (case zz16h => k_handed))
  k_with "my call builtin:tuple.__new__" =>
    (k_here; (refine' lr_new ?zz17k1 ?zz17k2 ?zz17k3 ?_ ?zz17k4; (case zz17k1 => k_asm); (case zz17k2 => k_asm); (case zz17k3 => k_mem); (case zz17k4 => k_asm); k_whole; intro tzz17' dxzz17' hzz17' tkzz17' Fzz17' Nzz17' hkzz17' l1zz17 l2zz17; (try k_lt l1zz17); (try k_lt2 l2zz17)))
  k_with "my exec Raise some none" =>
    (k_here; (with_reducible show wpAny _ _ (exec (Stmt.Raise (some (Expr.Call (Expr.Name _ _) (_ :: _) [] _)) none _) (envOfC _ _ _ _ _)) _ _ _); k_dflt (refine' raise_any ?zz18O PySem.F.excBase_ValueError ?zz18h ?zz18n ?_ ?zz18a ?zz18b; (case zz18O => exact own_of_in (by k_asm) (by k_asm) (by k_is) (by k_exc)); (case zz18h => rfl); (case zz18n => (intro Qzz18 hQzz18; exact nameX_K (by k_asm) (by k_asm) (by k_asm) (by k_is) hQzz18)); (case zz18a => rfl); (case zz18b => rfl); k_whole))
  k_with "my leaving ref" =>
    (k_here; (with_reducible show wpAny _ _ (leaving (envOfC _ _ _ _ _) _) _ _ _); (refine' leave_raise_any ?zz19k1 ?zz19k0 ?zz19k2 ?zz19k3 ?zz19kf ?zz19kk ?_; (case zz19k0 => assumption); (case zz19k1 => assumption); (case zz19k2 => assumption); (case zz19k3 => k_asm); (case zz19kf => rfl); (case zz19kk => (show ScopeKind.function ≠ ScopeKind.module; decide)); k_whole; intro hzz19' tzz19' Rzz19' Uzz19'; (try dsimp only at Rzz19' Uzz19' ⊢)))
  k_with "my execs cons" =>
    (k_here; (rename Mine.Ex _ (preSum _ _) => ePzz20'); dsimp only)
  k_with "my execs cons" =>
    (k_here; (rename Mine.Ex _ (preSum _ _) => ePzz21'); k_dflt (refine tok_keep ?_); intro tkzz21' kzz21')
  k_with "my call builtin:math.fsum" =>
    (k_here; first
  | ((refine' fsum_x (by assumption) ?zz22h ?zz22h0 ?zz22F ?zz22N ?zz22m ?_; (case zz22h => rfl); (case zz22h0 => rfl); (case zz22F => k_asm); (case zz22N => k_asm); (case zz22m => k_ownIn)); intro hzz22' tkzz22' rzz22' tzz22' Fzz22' Nzz22' ezz22')
  | ((refine' fsum_y (by assumption) ?zz22h ?zz22h0 ?zz22F ?zz22N ?zz22m ?_; (case zz22h => rfl); (case zz22h0 => rfl); (case zz22F => k_asm); (case zz22N => k_asm); (case zz22m => k_ownIn)); intro hzz22' tkzz22' rzz22' tzz22' Fzz22' Nzz22' ezz22'))
  k_with "my binaryOp Div float int" =>
    (k_here; first
  | ((refine' div_x (by assumption) (two_lt (by assumption)) ?zz23r ?_; (case zz23r => assumption)); intro rzz23' tzz23' ezz23')
  | ((refine' div_y (by assumption) (two_lt (by assumption)) ?zz23r ?_; (case zz23r => assumption)); intro rzz23' tzz23' ezz23'))
  k_with "my eval ListComp" =>
    (k_here; k_dflt (refine LCg.ListComp_U (F₀ := by k_asm) (by with_unfolding_all rfl) (by decide) (by rfl) (by decide) (by rfl) ?_))
  k_with "my exec Assign cons ListComp" =>
    (k_here; k_dflt (refine LCg.Assign_ListComp_U (F₀ := by k_asm) (by rfl) (by with_unfolding_all rfl) (by with_unfolding_all rfl) (by decide) (by rfl) (by decide) (by rfl) (by rfl) (by rfl) ?_))
  k_with "my CompSrc" =>
    (k_here; k_dflt (
  (refine' src_sub ?zz26K ?zz26h2 ?zz26hh ?zz26F ?zz26N ?zz26m (fun izz26' vzz26' Izz26' oIzz26' Czz26' oCzz26' Dzz26' mzz26' yszz26' hzz26' tkzz26' Ezz26' hizz26' hvzz26' hCzz26' hxzz26' Fzz26' Nzz26' offzz26' nezz26' => ?_) (fun gzz26' yszz26' hSzz26' hlzz26' => ?_); (case zz26K => assumption); (case zz26h2 => assumption); (case zz26hh => rfl); (case zz26F => k_asm); (case zz26N => k_asm); (case zz26m => k_ownIn); (all_goals (try (simp only [LCg.Off3, and_true] at offzz26'))))))
  k_with "my binaryOp Sub float" =>
    (k_here; first
  | ((refine' sub_x (by assumption) ?zz27i ?zz27v ?zz27E ?_; (case zz27i => assumption); (case zz27v => assumption); (case zz27E => assumption)); intro rzz27' tzz27' ezz27')
  | fail)
  k_with "my CompEnd" =>
    (refine' compEnd_el ?zz28F ?zz28N ?zz28sub ?zz28off ?zz28S ?zz28r; (case zz28r => exact SubAt.mk ⟨_, _, rfl, by assumption⟩); (case zz28F => assumption); (case zz28N => assumption); (case zz28sub => kcf_all); (case zz28off => first | assumption | (simp only [LCg.Off3, and_true]; done) | (simp only [LCg.Off3, and_true]; assumption)); (case zz28S => first | lcg_src | assumption | exact Or.inr ⟨_, by k_ownIn, rfl, _, rfl⟩))
  k_with "my eval GeneratorExp" =>
    (k_here; k_dflt ((refine' gen_walkT (P := 186) (c := 188) ?zz29F ?zz29N ?zz29U ?zz29lim ?zz29M ?zz29g ?zz29code ?zz29tt ?zz29cd ?zz29P ?zz29hh ?zz29co ?zz29clos ?zz29cell ?zz29h0 ?zz29x ?zz29kind ?zz29room ?zz29d1 ?zz29d2 ?zz29d3 ?zz29zk ?zz29zc ?zz29y ?zz29yb ?zz29yd ?zz29iter ?zz29n ?zz29E ?zz29f ?_ ?zz29s; (case zz29F => k_asm); (case zz29N => k_asm); (case zz29U => k_updF); (case zz29lim => exact Top.nolimit (by assumption)); (case zz29M => exact bmod_of_top (by assumption)); (case zz29g => rfl); (case zz29code => rfl); (case zz29tt => assumption); (case zz29cd => exact fun hPzz29 => (lr_code (by assumption) hPzz29 (Frag.In.keeps (by k_asm) (Fr.keep (by assumption)))).2); (case zz29P => k_mem); (case zz29hh => rfl); (case zz29co => rfl); (case zz29clos => with_unfolding_all rfl); (case zz29cell => decide); (case zz29h0 => rfl); (case zz29x => rfl); (case zz29kind => rfl); (case zz29room => ktr_room); (case zz29d1 => rfl); (case zz29d2 => rfl); (case zz29d3 => rfl); (case zz29zk => rfl); (case zz29zc => rfl); (case zz29iter => (intro Qzz29' hQzz29'; exact eval_local rfl rfl rfl (Fr.ns (by assumption)) (by with_unfolding_all rfl) hQzz29')); (case zz29y => k_ownIn); (case zz29yb => k_mem); (case zz29yd => assumption); (case zz29n => exact FullOk.ny (by assumption)); (case zz29E => assumption); (case zz29f => exact dy_all (by assumption)); (case zz29s => exact fun _ => rfl)); intro azz29' Czz29' Izz29' hzz29' tkzz29' gszz29' oazz29' oCzz29' oIzz29' pszz29' hTzz29' hbzz29' Fzz29' Nzz29' ltzz29' Rzz29'))
  k_with "my call builtin:math.sumprod" =>
    (k_here; k_dflt (first
  | ((refine' sum_xx (by assumption) (two_lt (by assumption)) ?zz30S ?zz30A ?zz30F ?zz30N ?zz30m ?zz30p ?_; (case zz30S => assumption); (case zz30A => rfl); (case zz30F => k_asm); (case zz30N => k_asm); (case zz30m => k_mem); (case zz30p => first | exact TokOk.lt (by assumption) | exact Nat.succ_pos _)); intro hzz30' tkzz30' rzz30' tzz30' Fzz30' Nzz30' ezz30' kzz30')
  | ((refine' sum_xy (by assumption) (two_lt (by assumption)) ?zz30S ?zz30A ?zz30F ?zz30N ?zz30R ?zz30lim ?zz30tk ?zz30lt ?zz30y ?zz30yb ?zz30x ?_; (case zz30S => assumption); (case zz30A => rfl); (case zz30F => k_asm); (case zz30N => k_asm); (case zz30R => assumption); (case zz30lim => exact Top.nolimit (by assumption)); (case zz30tk => first | exact Nat.le_refl _ | omega); (case zz30lt => assumption); (case zz30y => k_ownIn); (case zz30yb => k_mem); (case zz30x => k_mem)); intro hzz30' gszz30' tkzz30' rzz30' tzz30' Fzz30' Nzz30' Gzz30' ezz30')))
  k_with "my binaryOp Add float float" =>
    (k_here; ((refine' add_zero_ex ?zz31x ?_; (case zz31x => assumption)); intro rzz31' tzz31' ezz31'))
  k_with "my binaryOp Div float float" =>
    (k_here; ((refine' slope_q (by assumption) ?zz32x ?zz32v ?_; (case zz32x => assumption); (case zz32v => assumption)); intro rzz32' tzz32' ezz32'))
  trivial
theorem lr_any {w : World} {dp un : Nat} {gd : Option (List Code)} {cn : Str} {cs : Scope} {a : Addr} {ccd : Value} {cl : List (Str × Addr)} {outer : List Env} {A₀ : Around} {base h₀ : Heap} {L : Addr} {m : Str → Option Value} {s : Shared} {Q E : Value → Shared → Prop}
    {mean : ExcName → Option Value} {mg mb : Str → Option Value} {news : List (Addr × Obj)} {ps : Array Value} {ax ay : Addr} {xs ys : List Value} {cx cy n : Nat} {us ws : List Int} {Xb Yb : Int} {pr qr : Nat → Int}
    (B : Below A₀ base outer h₀) (F : Fr h₀ L s.heap m) (N : News h₀ L s.heap ((186, tabObj ps) :: news)) (hT : TabOk ps) (T : Top Mine.vw (looseW Mine.vw [Str.ofString "_tuplegetter", Str.ofString "LinearRegression", Str.ofString "linear_regression", Str.ofString "covariance"]) mean mg mb h₀) (hk : cs.kind = .function) (hd : dp + 5 < recursionLimit) (hu : un + 40 < cLine)
    (hx : (ax, listOf xs.toArray cx) ∈ news) (hy : (ay, listOf ys.toArray cy) ∈ news) (hxl : xs.length < 200) (hyl : ys.length < 200) (hlen : xs.length = ys.length) (hn2 : 2 ≤ xs.length) (hn : 2 ≤ n) (h200 : n < 200) (K : FullOk xs ys us ws n Xb Yb pr qr) (D : preSum qr n ≠ 0) (hgs : AllBare s.gens) (h9 : ∀ p ∈ news, p.1 ≠ 186)
    (hQ : ∀ t dx h' tk gs' r1 t1 v2 ps', TabOk ps' → Fr h₀ L h' m → News h₀ L h' ((t, lrObj 180 dx (.float r1 t1) v2) :: (dx, emptyDict) :: (186, tabObj ps') :: news) → (∀ p ∈ news, p.1 < dx) → dx < t → Quo r1 (preSum pr n) (preSum qr n) → AllBare gs' → Q (.ref t) ⟨h', gs', s.drawn, tk, s.os⟩) :
    (Mine.hd.heap_39 w.params).In h₀ → wpAny (model PySem.Challenge.rw_kq0023_05.row.prog w) (ktrTop dp un gd cn cs L a ccd cl outer) (call (.ref 189) [.ref ax, .ref ay]) Q E s := by
  k_fill
  intro X
  refine wpAny_call ?_
  refine' code_defC ?k1 ?k2 ?k3 ?k4 ?k5 ?kA ?kF ?kK ?k6 ?k7 ?k8 ?k9 ?kB ?kD ?_ ?c2 ?c3 ?c4; (case kA => exact rfl); (case kF => exact rfl); (case kK => exact hk); (case k1 => k_asm); (case k2 => k_asm); (case k3 => k_asm); (case k4 => k_asm); (case k5 => k_asm); (case k6 => k_is); (case k7 => k_is); (case k8 => ktr_room)
  case k9 => first | exact BindsTo.of_eq rfl | exact binds_K (by k_in) rfl (by k_is) rfl rfl rfl | (refine' kp_binds ?kx ?ke; (case kx => k_in); (case ke => exact fun _ => rfl))
  case kB => exact rfl
  case kD => decide +kernel
  case c2 => exact rfl
  case c3 => exact rfl
  case c4 => exact rfl
  intro g' L' h' tk' cells' FG' F' N' Y' B' X' T' l1
  have l0 : ∀ p ∈ news, p.1 < L' := fun p hp => l1 p (.tail _ hp)
  (try k_lt l1)
  k_cells Y'
  (try simp only [List.cons_append, List.nil_append] at N')
  (try dsimp only)
  (try k_fold)
  k_steps
  all_goals (try k_data)
  · exact is_lr (by assumption)
  · refine' hQ _ _ _ _ _ _ _ _ _ ?tb ?f ?n ?l ?l2 ?r1 ?b
    case f => assumption
    case tb => assumption
    case n => exact news_subF (by assumption) sub7
    case l => exact lt5 (by assumption)
    case l2 => assumption
    case r1 => assumption
    case b => exact bare_after hgs (by assumption) (by assumption)
end Mine
end

section
open PySem PySem.W PySem.Calls PyProof.Rows
set_option maxRecDepth 100000
set_option maxHeartbeats 4000000
namespace Mine
theorem zz_COVe : True := by
  w_top off
  k_with_none
  trivial
local macro_rules | `(tactic| k_all) => `(tactic| first | assumption | exact below_ne (by assumption) (by first | exact Nat.le_refl _ | exact Nat.le_add_right _ _ | omega))
theorem zz_COVe_4 : True := by
  k_with "my call builtin:len" =>
    (k_here; (with_reducible show wpAny _ _ (call (Value.builtin _) [Value.ref _]) _ _ _); (refine' my_len ?zz33k1 ?zz33k2 ?zz33k3 ?_; (case zz33k1 => k_asm); (case zz33k2 => k_ownIn); (case zz33k3 => assumption); k_whole))
  k_with "my ite" =>
    (k_here; first | (refine ite_pos (by (simp only [bne_iff_ne, beq_iff_eq, ne_eq, decide_eq_true_eq]; omega)) ?_) | (refine ite_neg (by (simp only [bne_iff_ne, beq_iff_eq, ne_eq, decide_eq_true_eq]; omega)) ?_))
  k_with "my call builtin:math.fsum" =>
    (k_here; first
  | ((refine' fsum_x (by assumption) ?zz35h ?zz35h0 ?zz35F ?zz35N ?zz35m ?_; (case zz35h => rfl); (case zz35h0 => rfl); (case zz35F => k_asm); (case zz35N => k_asm); (case zz35m => k_ownIn)); intro hzz35' tkzz35' rzz35' tzz35' Fzz35' Nzz35' ezz35')
  | ((refine' fsum_y (by assumption) ?zz35h ?zz35h0 ?zz35F ?zz35N ?zz35m ?_; (case zz35h => rfl); (case zz35h0 => rfl); (case zz35F => k_asm); (case zz35N => k_asm); (case zz35m => k_ownIn)); intro hzz35' tkzz35' rzz35' tzz35' Fzz35' Nzz35' ezz35'))
  k_with "my binaryOp Div float int" =>
    (k_here; first
  | ((refine' div_x (by assumption) (two_lt (by assumption)) ?zz36r ?_; (case zz36r => assumption)); intro rzz36' tzz36' ezz36')
  | ((refine' div_y (by assumption) (two_lt (by assumption)) ?zz36r ?_; (case zz36r => assumption)); intro rzz36' tzz36' ezz36')
  | ((refine' div_cov (by assumption) (by assumption) (by assumption) ?zz36r ?_; (case zz36r => assumption)); intro rzz36' tzz36' ezz36'))
  k_with "my eval GeneratorExp" =>
    (k_here; k_dflt ((refine' gen_walkT (P := 107) (c := 111) ?zz37F ?zz37N ?zz37U ?zz37lim ?zz37M ?zz37g ?zz37code ?zz37tt ?zz37cd ?zz37P ?zz37hh ?zz37co ?zz37clos ?zz37cell ?zz37h0 ?zz37x ?zz37kind ?zz37room ?zz37d1 ?zz37d2 ?zz37d3 ?zz37zk ?zz37zc ?zz37y ?zz37yb ?zz37yd ?zz37iter ?zz37n ?zz37E ?zz37f ?_ ?zz37s; (case zz37F => k_asm); (case zz37N => k_asm); (case zz37U => k_updF); (case zz37lim => exact Top.nolimit (by assumption)); (case zz37M => exact bmod_of_top (by assumption)); (case zz37g => rfl); (case zz37code => rfl); (case zz37tt => assumption); (case zz37cd => exact fun hPzz37 => (cov_code (by assumption) hPzz37 (Frag.In.keeps (by k_asm) (Fr.keep (by assumption)))).2); (case zz37P => k_mem); (case zz37hh => rfl); (case zz37co => rfl); (case zz37clos => with_unfolding_all rfl); (case zz37cell => decide); (case zz37h0 => rfl); (case zz37x => rfl); (case zz37kind => rfl); (case zz37room => ktr_room); (case zz37d1 => rfl); (case zz37d2 => rfl); (case zz37d3 => rfl); (case zz37zk => rfl); (case zz37zc => rfl); (case zz37iter => (intro Qzz37' hQzz37'; exact eval_local rfl rfl rfl (Fr.ns (by assumption)) (by with_unfolding_all rfl) hQzz37')); (case zz37y => k_ownIn); (case zz37yb => k_mem); (case zz37yd => assumption); (case zz37n => first | exact FullOk.nx (by assumption) | exact FullOk.ny (by assumption)); (case zz37E => assumption); (case zz37f => first | exact dx_all (by assumption) | exact dy_all (by assumption)); (case zz37s => exact fun _ => rfl)); intro azz37' Czz37' Izz37' hzz37' tkzz37' gszz37' oazz37' oCzz37' oIzz37' pszz37' hTzz37' hbzz37' Fzz37' Nzz37' ltzz37' Rzz37'; (have l7zz37' := ltzz37' (107, tabObj pszz37') (by k_mem)); (have l8zz37' : @LT.lt Nat _ 107 azz37' := l7zz37'.1); (have l9zz37' : @LT.lt Nat _ 107 Czz37' := l7zz37'.2.1); (have l10zz37' : @LT.lt Nat _ 107 Izz37' := l7zz37'.2.2); (clear l7zz37'); (have m7zz37' := lt_map ltzz37')))
  k_with "my call builtin:math.sumprod" =>
    (k_here; k_dflt ((refine' cov_sum (by assumption) ?zz38h2 ?zz38A ?zz38F ?zz38N ?zz38R1 ?zz38R2 ?zz38lim ?zz38lt1 ?zz38lt2 ?zz38y1 ?zz38b1 ?zz38y2 ?zz38b2 ?zz38hb ?zz38x1 ?zz38x2 ?_; (case zz38h2 => assumption); (case zz38A => rfl); (case zz38F => k_asm); (case zz38N => k_asm); (case zz38R1 => assumption); (case zz38R2 => assumption); (case zz38lim => exact Top.nolimit (by assumption)); (case zz38lt1 => assumption); (case zz38lt2 => assumption); (case zz38y1 => k_ownIn); (case zz38b1 => k_mem); (case zz38y2 => k_ownIn); (case zz38b2 => k_mem); (case zz38hb => assumption); (case zz38x1 => assumption); (case zz38x2 => assumption)); intro hzz38' gszz38' tkzz38' rzz38' tzz38' Fzz38' Nzz38' Bzz38' ezz38'))
  trivial
theorem sub3 {α : Type} {a b : α} {l : List α} : ∀ q ∈ l, q ∈ a :: b :: l := fun q hq => .tail _ (.tail _ hq)
theorem cov_t {w : World} {dp un : Nat} {gd : Option (List Code)} {cn : Str} {cs : Scope} {a : Addr} {ccd : Value} {cl : List (Str × Addr)} {outer : List Env} {A₀ : Around} {base h₀ : Heap} {L : Addr} {m : Str → Option Value} {s : Shared} {Q E : Value → Shared → Prop}
    {mean : ExcName → Option Value} {mg mb : Str → Option Value} {news : List (Addr × Obj)} {ps : Array Value} {ax ay : Addr} {xs ys : List Value} {cx cy n : Nat} {us ws : List Int} {Xb Yb : Int} {pr qr : Nat → Int}
    (B : Below A₀ base outer h₀) (F : Fr h₀ L s.heap m) (N : News h₀ L s.heap ((107, tabObj ps) :: news)) (hT : TabOk ps) (T : Top Mine.vw (looseW Mine.vw [Str.ofString "_tuplegetter", Str.ofString "LinearRegression", Str.ofString "linear_regression", Str.ofString "covariance"]) mean mg mb h₀) (hk : cs.kind = .function) (hd : dp + 5 < recursionLimit) (hu : un + 40 < cLine)
    (hx : (ax, listOf xs.toArray cx) ∈ news) (hy : (ay, listOf ys.toArray cy) ∈ news) (hxl : xs.length < 200) (hyl : ys.length < 200) (hlen : xs.length = ys.length) (hn2 : 2 ≤ xs.length) (hn : 2 ≤ n) (h200 : n < 200) (K : FullOk xs ys us ws n Xb Yb pr qr) (hgs : AllBare s.gens) (h9 : ∀ p ∈ news, p.1 ≠ 107)
    (hQ : ∀ h' tk gs' r t ps', TabOk ps' → Fr h₀ L h' m → News h₀ L h' ((107, tabObj ps') :: news) → Quo r (preSum pr n) (((n : Int) - 1) * 2 ^ 1074) → AllBare gs' → Q (.float r t) ⟨h', gs', s.drawn, tk, s.os⟩) :
    (Mine.hd.heap_39 w.params).In h₀ → wpAny (model PySem.Challenge.rw_kq0023_05.row.prog w) (ktrTop dp un gd cn cs L a ccd cl outer) (call (.ref 112) [.ref ax, .ref ay]) Q E s := by
  k_fill
  intro X
  refine wpAny_call ?_
  refine' code_defC ?k1 ?k2 ?k3 ?k4 ?k5 ?kA ?kF ?kK ?k6 ?k7 ?k8 ?k9 ?kB ?kD ?_ ?c2 ?c3 ?c4; (case kA => exact rfl); (case kF => exact rfl); (case kK => exact hk); (case k1 => k_asm); (case k2 => k_asm); (case k3 => k_asm); (case k4 => k_asm); (case k5 => k_asm); (case k6 => k_is); (case k7 => k_is); (case k8 => ktr_room)
  case k9 => first | exact BindsTo.of_eq rfl | exact binds_K (by k_in) rfl (by k_is) rfl rfl rfl | (refine' kp_binds ?kx ?ke; (case kx => k_in); (case ke => exact fun _ => rfl))
  case kB => exact rfl
  case kD => decide +kernel
  case c2 => exact rfl
  case c3 => exact rfl
  case c4 => exact rfl
  intro g' L' h' tk' cells' FG' F' N' Y' B' X' T' l1
  have l0 : ∀ p ∈ news, p.1 < L' := fun p hp => l1 p (.tail _ hp)
  (try k_lt l1)
  k_cells Y'
  (try simp only [List.cons_append, List.nil_append] at N')
  (try dsimp only)
  (try k_fold)
  k_steps
  all_goals (try k_data)
  refine' hQ _ _ _ _ _ _ ?tb ?f ?n ?q ?b
  case tb => assumption
  case f => assumption
  case n => exact news_subF (by assumption) sub3
  case q => assumption
  case b => assumption
end Mine
end

section
open PySem PySem.W PySem.Calls PyProof.Rows PySem.Spec PySem.Builtin PySem.Builtin.Str
set_option maxRecDepth 100000
set_option maxHeartbeats 1000000
namespace Mine
section
variable {prog : Program} {w : World} {A : Around} {E : Value → Shared → Prop} {s : Shared} {K : Frag} {C e t : Addr} {msg : PySem.Str} {u : Tok}
theorem bexc_slot (self : Value) : bindSpecial (.builtin "BaseException.__str__") self = pure (.builtin "BaseException.__str__", [self]) := PySem.F.excStr_ValueError.str.bind self
theorem str_exc_call {Q : Value → Shared → Prop} (X : K.In s.heap) (hs : findIn K (.ref C) "__str__" = some (some (.builtin "BaseException.__str__"))) (hm : mroIn K C (.type "BaseException") = some true)
    (he : ∃ o vs, s.heap.get? e = some o ∧ o.cls = .ref C ∧ o.data = .fields vs ∧ vs[0]? = some (.ref t)) (ht : s.heap.TupAt t [.str msg u]) (h : Q (.str msg u) s) :
    wpAny (model prog w) A (callSpecial? (.ref e) (PySem.Str.ofString "__str__") []) (fun r s' => ∃ v, r = some v ∧ Q v s') E s := by
  obtain ⟨o, vs, ho, hc, hd, h0⟩ := he
  have t1 : Looks (model prog w) s.heap (typeOf (.ref e)) (.ref C) := hc ▸ (Looks.ld ho).andThen .now
  have j1 : Looks (model prog w) s.heap (specialOf (.ref e) "__str__") (some (.builtin "BaseException.__str__")) := t1.andThen (looks_findIn X hs)
  unfold callSpecial?
  refine wpAny_bind (j1.here ?_)
  dsimp only
  refine wpAny_holding ?_
  rw [bexc_slot]
  refine wpAny_bind (wpAny_pure (wpAny_bind (wpAny_call ?_)))
  refine codeAny_call_builtin PySem.F.excStr_ValueError.str.plain PySem.F.entry_bexc_str (check_slot (i := "BaseException.__str__") (owner := "BaseException") (n := "__str__") (by decide +kernel) (by decide +kernel) (t1.andThen (looks_mroIn X hm)) (PySem.F.args_bexc_str _) ?_)
  unfold Builtin.«BaseException.__str__»
  obtain ⟨ot, n, hto, htc, htd⟩ := ht
  repeat (first | with_reducible refine wpAny_bind (wpAny_field ho hd h0 (wpAny_bind (wpAny_seqItems hto htd ?_))) | wp_step)
  exact ⟨_, rfl, h⟩
theorem str_exc_of {Q : Value → Shared → Prop} (hu : A.units < cLine) (X : K.In s.heap) (hs : findIn K (.ref C) "__str__" = some (some (.builtin "BaseException.__str__"))) (hm : mroIn K C (.type "BaseException") = some true)
    (he : ∃ o vs, s.heap.get? e = some o ∧ o.cls = .ref C ∧ o.data = .fields vs ∧ vs[0]? = some (.ref t)) (ht : s.heap.TupAt t [.str msg u]) (h : Q (.str msg u) s) : wpAny (model prog w) A (PySem.Builtin.Str.strOf (.ref e)) Q E s := by
  unfold PySem.Builtin.Str.strOf
  rw [show isExactStr (.ref e) = false from rfl]
  refine wpAny_bind (m := cRoomFor _ _) (wpAny_cRoomFor hu ?_)
  refine wpAny_bind (m := callSpecial? (.ref e) (PySem.Str.ofString "__str__")) (str_exc_call (Q := fun v s' => v = .str msg u ∧ s' = s) X hs hm he ht ⟨rfl, rfl⟩ |> fun z => wpAny_mono z (fun r s' hr => ?_) fun _ _ y => y)
  obtain ⟨v, rfl, rfl, rfl⟩ := hr
  exact wpAny_pure h
theorem str_exc {Q : Value → Shared → Prop} (hu : A.units + 2 < cLine) (X : K.In s.heap) (hs : findIn K (.ref C) "__str__" = some (some (.builtin "BaseException.__str__"))) (hm : mroIn K C (.type "BaseException") = some true)
    (he : ∃ o vs, s.heap.get? e = some o ∧ o.cls = .ref C ∧ o.data = .fields vs ∧ vs[0]? = some (.ref t)) (ht : s.heap.TupAt t [.str msg u]) (h : Q (.str msg u) s) : wpAny (model prog w) A (call (.type "str") [.ref e]) Q E s :=
  callType_new PySem.F.called_str (by decide) (PySem.F.typeCall_str_1 _) (PySem.F.newCall_str_1 _) (fun obj => PySem.F.args_object_init_2 obj _) PySem.F.entry_str_new
    (meets_str_new (S := fun A' R s' => A'.units + 1 < cLine ∧ K.In s'.heap ∧ (∃ o vs, s'.heap.get? e = some o ∧ o.cls = .ref C ∧ o.data = .fields vs ∧ vs[0]? = some (.ref t)) ∧ s'.heap.TupAt t [.str msg u] ∧ R (.ok (.ret (.str msg u))) s')
      fun _ _ A' _ _ hq => str_exc_of (A := A'.in1) hq.1 hq.2.1 hs hm hq.2.2.1 hq.2.2.2.1 hq.2.2.2.2)
    ⟨(show A.units + 1 + 1 < cLine from hu), X, he, ht, typeIs_str _ _ _, h⟩
/-- the text of a caught exception of the program's own class -/
theorem str_got {h₀ : Heap} {L : Addr} {m : PySem.Str → Option Value} {news : List (Addr × Obj)} {Q : Value → Shared → Prop} (F : Fr h₀ L s.heap m) (X : K.In h₀) (N : News h₀ L s.heap news) (G : Got news e t (.ref C) [.str msg u]) (hu : A.units + 2 < cLine)
    (hs : findIn K (.ref C) "__str__" = some (some (.builtin "BaseException.__str__"))) (hm : mroIn K C (.type "BaseException") = some true) (h : Q (.str msg u) s) : wpAny (model prog w) A (call (.type "str") [.ref e]) Q E s := by
  obtain ⟨oe, ot, ws, nt, m1, m2, c1, d1, w0, c2, d2⟩ := G
  exact str_exc hu (X.keeps F.keep) hs hm ⟨oe, ws, (N _ m1).1, c1, d1, w0⟩ ⟨ot, nt, (N _ m2).1, c2, d2⟩ h
end
end Mine
end

section
open PySem PySem.W PySem.Calls PyProof.Rows
set_option maxRecDepth 100000
set_option maxHeartbeats 4000000
namespace Mine
theorem zz_LRGe : True := by
  w_top off
  k_with_none
  trivial
theorem raised_tail3 {base G h : Heap} {l : List Env} {e t : Addr} {cls : Value} {vs : List Value} {p q r : Addr × Obj} {news : List (Addr × Obj)} (R : RaisedS base G l e cls t vs (p :: q :: r :: news) h) : RaisedS base G l e cls t vs news h := raised_sub R fun _ h => .tail _ (.tail _ (.tail _ h))
structure FlatEnd (n : Nat) (qr : Nat → Int) : Prop where
  z : preSum qr n = 0
theorem flat_div {prog : Program} {w : World} {A : Around} {E : Value → Shared → Prop} {s : Shared} {n : Nat} {qr : Nat → Int} {r x : UInt64} {t tb : Tok} {Q : Value → Shared → Prop} (Z : FlatEnd n qr) (hA : A.handled = none) (hv : Mine.Ex r (preSum qr n)) (h : ∀ h' tk e, Heap.NewExc s.heap h' e "ZeroDivisionError" → E (.ref e) { s with heap := h', toks := tk }) : wpAny (model prog w) A (binaryOp .Div (.float x tb) (.float r t)) Q E s :=
  num_div_zero hA (.float t (hv.to Z.z)) h
local macro_rules | `(tactic| k_all) => `(tactic| first | assumption | exact below_ne (by assumption) (by first | exact Nat.le_refl _ | exact Nat.le_add_right _ _ | omega))
theorem zz_LRGe_5 : True := by
  k_with "my call builtin:len" =>
    (k_here; (with_reducible show wpAny _ _ (call (Value.builtin _) [Value.ref _]) _ _ _); (refine' my_len ?zz39k1 ?zz39k2 ?zz39k3 ?_; (case zz39k1 => k_asm); (case zz39k2 => k_ownIn); (case zz39k3 => assumption); k_whole))
  k_with "my binaryOp Add float" =>
    (k_here; (refine' num_add_zero ?zz40k1 ?zz40k2 ?_; (case zz40k1 => assumption); (case zz40k2 => exact ex_lit0)); intro rzz40' tzz40' r1zz40')
  k_with "my exec Try cons cons nil nil" =>
    (k_here; (refine wpAny_Try_except ?_); (try dsimp only))
  k_with "my ite" =>
    (k_here; first | (refine ite_pos (by (simp only [bne_iff_ne, beq_iff_eq, ne_eq, decide_eq_true_eq]; omega)) ?_) | (refine ite_neg (by (simp only [bne_iff_ne, beq_iff_eq, ne_eq, decide_eq_true_eq]; omega)) ?_))
  k_with "my call ref nil" =>
    (k_here; (refine' lr_make ?zz43k1 ?zz43k2 ?_ ?zz43k4; (case zz43k1 => k_asm); (case zz43k2 => k_asm); (case zz43k4 => k_asm); k_whole))
  k_with "my call ref cons cons" =>
    (k_here; (refine wpAny_call ?_); (refine' code_def ?zz44k1 ?zz44k2 ?zz44k3 ?zz44k4 ?zz44k5 ?zz44kA ?zz44kF ?zz44kK ?zz44k6 ?zz44k7 ?zz44k8 ?zz44k9 ?zz44kB ?_ ?zz44c2 ?zz44c3 ?zz44c4 ?zz44c5; (case zz44kA => exact rfl); (case zz44kF => exact rfl); (case zz44kK => exact rfl); (case zz44k1 => k_asm); (case zz44k2 => k_asm); (case zz44k3 => k_asm); (case zz44k4 => k_asm); (case zz44k5 => k_asm); (case zz44k6 => k_is); (case zz44k7 => k_is); (case zz44k8 => ktr_room); (case zz44k9 => exact BindsTo.of_eq rfl); (case zz44c5 => decide); (case zz44kB => exact locs rfl); (case zz44c2 => exact rfl); (case zz44c3 => exact rfl); (case zz44c4 => exact rfl); k_whole; intro gzz44' Lzz44' hzz44' FGzz44' Fzz44' Nzz44' Bzz44' Xzz44' Tzz44'; (try dsimp only); (try k_lift Bzz44'); (try k_fold)))
  k_with "my getMethod type:tuple" =>
    (k_here; refine' method_type ?zz45F ?zz45X ?zz45m (by decide +kernel) ?zz45e ?zz45h ?_; (case zz45F => k_asm); (case zz45X => k_asm); (case zz45m => exact meta_tuple); (case zz45e => k_dflt k_is); (case zz45h => k_handed))
  k_with "my call builtin:tuple.__new__" =>
    (k_here; (refine' lr_new ?zz46k1 ?zz46k2 ?zz46k3 ?_ ?zz46k4; (case zz46k1 => k_asm); (case zz46k2 => k_asm); (case zz46k3 => k_mem); (case zz46k4 => k_asm); k_whole; intro tzz46' dxzz46' hzz46' tkzz46' Fzz46' Nzz46' hkzz46' l1zz46 l2zz46; (try k_lt l1zz46); (try k_lt2 l2zz46)))
  k_with "my exec Raise some none" =>
    (k_here; (with_reducible show wpAny _ _ (exec (Stmt.Raise (some (Expr.Call (Expr.Name _ _) (_ :: _) [] _)) none _) (envOfC _ _ _ _ _)) _ _ _); k_dflt (refine' raise_any ?zz47O PySem.F.excBase_ValueError ?zz47h ?zz47n ?_ ?zz47a ?zz47b; (case zz47O => exact own_of_in (by k_asm) (by k_asm) (by k_is) (by k_exc)); (case zz47h => rfl); (case zz47n => (intro Qzz47 hQzz47; exact nameX_K (by k_asm) (by k_asm) (by k_asm) (by k_is) hQzz47)); (case zz47a => rfl); (case zz47b => rfl); k_whole))
  k_with "my leaving ref" =>
    (k_here; (with_reducible show wpAny _ _ (leaving (envOfC _ _ _ _ _) _) _ _ _); (refine' leave_raise_any ?zz48k1 ?zz48k0 ?zz48k2 ?zz48k3 ?zz48kf ?zz48kk ?_; (case zz48k0 => assumption); (case zz48k1 => assumption); (case zz48k2 => assumption); (case zz48k3 => k_asm); (case zz48kf => rfl); (case zz48kk => (show ScopeKind.function ≠ ScopeKind.module; decide)); k_whole; intro hzz48' tzz48' Rzz48' Uzz48'; (try dsimp only at Rzz48' Uzz48' ⊢)))
  k_with "my execs cons" =>
    (k_here; (rename Mine.Ex _ (preSum _ _) => ePzz49'); dsimp only)
  k_with "my execs cons" =>
    (k_here; (rename Mine.Ex _ (preSum _ _) => ePzz50'); k_dflt (refine tok_keep ?_); intro tkzz50' kzz50')
  k_with "my call builtin:math.fsum" =>
    (k_here; first
  | ((refine' fsum_x (by assumption) ?zz51h ?zz51h0 ?zz51F ?zz51N ?zz51m ?_; (case zz51h => rfl); (case zz51h0 => rfl); (case zz51F => k_asm); (case zz51N => k_asm); (case zz51m => k_ownIn)); intro hzz51' tkzz51' rzz51' tzz51' Fzz51' Nzz51' ezz51')
  | ((refine' fsum_y (by assumption) ?zz51h ?zz51h0 ?zz51F ?zz51N ?zz51m ?_; (case zz51h => rfl); (case zz51h0 => rfl); (case zz51F => k_asm); (case zz51N => k_asm); (case zz51m => k_ownIn)); intro hzz51' tkzz51' rzz51' tzz51' Fzz51' Nzz51' ezz51'))
  k_with "my binaryOp Div float int" =>
    (k_here; first
  | ((refine' div_x (by assumption) (two_lt (by assumption)) ?zz52r ?_; (case zz52r => assumption)); intro rzz52' tzz52' ezz52')
  | ((refine' div_y (by assumption) (two_lt (by assumption)) ?zz52r ?_; (case zz52r => assumption)); intro rzz52' tzz52' ezz52'))
  k_with "my eval ListComp" =>
    (k_here; k_dflt (refine LCg.ListComp_U (F₀ := by k_asm) (by with_unfolding_all rfl) (by decide) (by rfl) (by decide) (by rfl) ?_))
  k_with "my exec Assign cons ListComp" =>
    (k_here; k_dflt (refine LCg.Assign_ListComp_U (F₀ := by k_asm) (by rfl) (by with_unfolding_all rfl) (by with_unfolding_all rfl) (by decide) (by rfl) (by decide) (by rfl) (by rfl) (by rfl) ?_))
  k_with "my CompSrc" =>
    (k_here; k_dflt (
  (refine' src_sub ?zz55K ?zz55h2 ?zz55hh ?zz55F ?zz55N ?zz55m (fun izz55' vzz55' Izz55' oIzz55' Czz55' oCzz55' Dzz55' mzz55' yszz55' hzz55' tkzz55' Ezz55' hizz55' hvzz55' hCzz55' hxzz55' Fzz55' Nzz55' offzz55' nezz55' => ?_) (fun gzz55' yszz55' hSzz55' hlzz55' => ?_); (case zz55K => assumption); (case zz55h2 => assumption); (case zz55hh => rfl); (case zz55F => k_asm); (case zz55N => k_asm); (case zz55m => k_ownIn); (all_goals (try (simp only [LCg.Off3, and_true] at offzz55'))))))
  k_with "my binaryOp Sub float" =>
    (k_here; first
  | ((refine' sub_x (by assumption) ?zz56i ?zz56v ?zz56E ?_; (case zz56i => assumption); (case zz56v => assumption); (case zz56E => assumption)); intro rzz56' tzz56' ezz56')
  | ((refine' inter_ex (by assumption) ?zz56y ?zz56r ?zz56p ?_; (case zz56y => assumption); (case zz56r => assumption); (case zz56p => exact Nat.succ_pos _)); intro rzz56' tzz56' ezz56' kzz56'))
  k_with "my binaryOp Sub float float" =>
    (k_here; ((refine' inter_ex (by assumption) ?zz57y ?zz57r ?zz57p ?_; (case zz57y => assumption); (case zz57r => assumption); (case zz57p => exact Nat.succ_pos _)); intro rzz57' tzz57' ezz57' kzz57'))
  k_with "my CompEnd" =>
    (refine' compEnd_el ?zz58F ?zz58N ?zz58sub ?zz58off ?zz58S ?zz58r; (case zz58r => exact SubAt.mk ⟨_, _, rfl, by assumption⟩); (case zz58F => assumption); (case zz58N => assumption); (case zz58sub => kcf_all); (case zz58off => first | assumption | (simp only [LCg.Off3, and_true]; done) | (simp only [LCg.Off3, and_true]; assumption)); (case zz58S => first | lcg_src | assumption | exact Or.inr ⟨_, by k_ownIn, rfl, _, rfl⟩))
  k_with "my eval GeneratorExp" =>
    (k_here; k_dflt ((refine' gen_walkT (P := 186) (c := 188) ?zz59F ?zz59N ?zz59U ?zz59lim ?zz59M ?zz59g ?zz59code ?zz59tt ?zz59cd ?zz59P ?zz59hh ?zz59co ?zz59clos ?zz59cell ?zz59h0 ?zz59x ?zz59kind ?zz59room ?zz59d1 ?zz59d2 ?zz59d3 ?zz59zk ?zz59zc ?zz59y ?zz59yb ?zz59yd ?zz59iter ?zz59n ?zz59E ?zz59f ?_ ?zz59s; (case zz59F => k_asm); (case zz59N => k_asm); (case zz59U => k_updF); (case zz59lim => exact Top.nolimit (by assumption)); (case zz59M => exact bmod_of_top (by assumption)); (case zz59g => rfl); (case zz59code => rfl); (case zz59tt => assumption); (case zz59cd => exact fun hPzz59 => (lr_code (by assumption) hPzz59 (Frag.In.keeps (by k_asm) (Fr.keep (by assumption)))).2); (case zz59P => k_mem); (case zz59hh => rfl); (case zz59co => rfl); (case zz59clos => with_unfolding_all rfl); (case zz59cell => decide); (case zz59h0 => rfl); (case zz59x => rfl); (case zz59kind => rfl); (case zz59room => ktr_room); (case zz59d1 => rfl); (case zz59d2 => rfl); (case zz59d3 => rfl); (case zz59zk => rfl); (case zz59zc => rfl); (case zz59iter => (intro Qzz59' hQzz59'; exact eval_local rfl rfl rfl (Fr.ns (by assumption)) (by with_unfolding_all rfl) hQzz59')); (case zz59y => k_ownIn); (case zz59yb => k_mem); (case zz59yd => assumption); (case zz59n => exact FullOk.ny (by assumption)); (case zz59E => assumption); (case zz59f => exact dy_all (by assumption)); (case zz59s => exact fun _ => rfl)); intro azz59' Czz59' Izz59' hzz59' tkzz59' gszz59' oazz59' oCzz59' oIzz59' pszz59' hTzz59' hbzz59' Fzz59' Nzz59' ltzz59' Rzz59'))
  k_with "my call builtin:math.sumprod" =>
    (k_here; k_dflt (first
  | ((refine' sum_xx (by assumption) (two_lt (by assumption)) ?zz60S ?zz60A ?zz60F ?zz60N ?zz60m ?zz60p ?_; (case zz60S => assumption); (case zz60A => rfl); (case zz60F => k_asm); (case zz60N => k_asm); (case zz60m => k_mem); (case zz60p => first | exact TokOk.lt (by assumption) | exact Nat.succ_pos _)); intro hzz60' tkzz60' rzz60' tzz60' Fzz60' Nzz60' ezz60' kzz60')
  | ((refine' sum_xy (by assumption) (two_lt (by assumption)) ?zz60S ?zz60A ?zz60F ?zz60N ?zz60R ?zz60lim ?zz60tk ?zz60lt ?zz60y ?zz60yb ?zz60x ?_; (case zz60S => assumption); (case zz60A => rfl); (case zz60F => k_asm); (case zz60N => k_asm); (case zz60R => assumption); (case zz60lim => exact Top.nolimit (by assumption)); (case zz60tk => first | exact Nat.le_refl _ | omega); (case zz60lt => assumption); (case zz60y => k_ownIn); (case zz60yb => k_mem); (case zz60x => k_mem)); intro hzz60' gszz60' tkzz60' rzz60' tzz60' Fzz60' Nzz60' Gzz60' ezz60')))
  k_with "my binaryOp Add float float" =>
    (k_here; ((refine' add_zero_ex ?zz61x ?_; (case zz61x => assumption)); intro rzz61' tzz61' ezz61'))
  k_with "my binaryOp Div float float" =>
    (k_here; ((refine' slope_ex (by assumption) ?zz62x ?zz62v ?zz62p ?_; (case zz62x => assumption); (case zz62v => assumption); (case zz62p => assumption)); intro rzz62' tzz62' ezz62' kzz62'))
  k_with "my binaryOp Mult float float" =>
    (k_here; ((refine' mul_ex (by assumption) ?zz63x ?zz63v ?_; (case zz63x => assumption); (case zz63v => assumption)); intro rzz63' tzz63' ezz63'))
  k_with "my binaryOp Div float float" =>
    (k_here; k_dflt ((refine' flat_div ?zz64k0 ?zz64k1 ?zz64k2 ?_; (case zz64k0 => assumption); (case zz64k1 => rfl); (case zz64k2 => assumption)); intro hzz64' tkzz64' zzz64' hzzz64'))
  k_with "my noteFrame ref" =>
    (k_here; (with_reducible show wpAny _ _ (noteFrame _ (envOfC _ _ _ _ _)) _ _ _); k_dflt (refine' flat_any ?zz65K ?zz65F ?zz65N ?zz65hx ?zz65hf ?zz65hk ?zz65XB ?zz65TB ?zz65ex ?zz65q PySem.F.excBase_ValueError ?zz65hz ?zz65hs ?zz65hm ?zz65he ?_; (case zz65K => assumption); (case zz65hx => assumption); (case zz65F => assumption); (case zz65N => k_asm); (case zz65hf => rfl); (case zz65hk => (show ScopeKind.function ≠ ScopeKind.module; decide)); (case zz65XB => assumption); (case zz65TB => assumption); (case zz65ex => k_is); (case zz65q => k_exc); (case zz65hz => (intro gzz65 Azz65 szz65 Ezz65 Qzz65 Fzz65 Xzz65 Tzz65 hzz65; exact nameX_B Fzz65 Xzz65 Tzz65 (by k_is) (by boot_by_name) (by decide) hzz65)); (case zz65hs => (intro gzz65 Azz65 szz65 Ezz65 Qzz65 Fzz65 Xzz65 Tzz65 hzz65; exact nameX_K Fzz65 Xzz65 Tzz65 (by k_is) hzz65)); (case zz65hm => (intro Azz65 szz65 Ezz65 Qzz65 hzz65; exact spliced_more (Calls.Constant_str (spliced_none (hzz65 _ _))))); (case zz65he => rfl); k_whole))
  trivial
theorem lr_flat3 {w : World} {dp un : Nat} {gd : Option (List Code)} {cn : Str} {cs : Scope} {a : Addr} {ccd : Value} {cl : List (Str × Addr)} {outer : List Env} {A₀ : Around} {base h₀ : Heap} {L : Addr} {m : Str → Option Value} {s : Shared} {Q E : Value → Shared → Prop}
    {mean : ExcName → Option Value} {mg mb : Str → Option Value} {news : List (Addr × Obj)} {ps : Array Value} {ax ay : Addr} {xs ys : List Value} {cx cy n : Nat} {us ws : List Int} {Xb Yb : Int} {pr qr : Nat → Int}
    (B : Below A₀ base outer h₀) (F : Fr h₀ L s.heap m) (N : News h₀ L s.heap ((186, tabObj ps) :: news)) (hT : TabOk ps) (T : Top Mine.vw (looseW Mine.vw [Str.ofString "_tuplegetter", Str.ofString "LinearRegression", Str.ofString "linear_regression", Str.ofString "covariance"]) mean mg mb h₀) (hk : cs.kind = .function) (hd : dp + 5 < recursionLimit) (hu : un + 40 < cLine)
    (hx : (ax, listOf xs.toArray cx) ∈ news) (hy : (ay, listOf ys.toArray cy) ∈ news) (hxl : xs.length < 200) (hyl : ys.length < 200) (hlen : xs.length = ys.length) (hn2 : 2 ≤ xs.length) (hn : 2 ≤ n) (h200 : n < 200) (K : FullOk xs ys us ws n Xb Yb pr qr) (Z : FlatEnd n qr) (hgs : AllBare s.gens) (h9 : ∀ p ∈ news, p.1 ≠ 186)
    (XB : (Mine.hd.heap_39 w.params).In base) (TB : Top Mine.vw (looseW Mine.vw [Str.ofString "_tuplegetter", Str.ofString "LinearRegression", Str.ofString "linear_regression", Str.ofString "covariance"]) mean mg mb base)
    (hE : ∀ e t g' h' tk tk' gs' ps', TabOk ps' → Fr h₀ L g' m → RaisedS base g' (envX cn cs L a ccd cl :: outer) e (.ref 102) t [.str (Str.ofString "x is constant") tk] ((186, tabObj ps') :: news) h' → g'.UpToSlots h' → AllBare gs' → E (.ref e) ⟨h', gs', s.drawn, tk', s.os⟩) :
    (Mine.hd.heap_39 w.params).In h₀ → wpAny (model PySem.Challenge.rw_kq0023_05.row.prog w) (ktrTop dp un gd cn cs L a ccd cl outer) (call (.ref 189) [.ref ax, .ref ay]) Q E s := by
  k_fill
  intro X
  refine wpAny_call ?_
  refine' code_defC ?k1 ?k2 ?k3 ?k4 ?k5 ?kA ?kF ?kK ?k6 ?k7 ?k8 ?k9 ?kB ?kD ?_ ?c2 ?c3 ?c4; (case kA => exact rfl); (case kF => exact rfl); (case kK => exact hk); (case k1 => k_asm); (case k2 => k_asm); (case k3 => k_asm); (case k4 => k_asm); (case k5 => k_asm); (case k6 => k_is); (case k7 => k_is); (case k8 => ktr_room)
  case k9 => first | exact BindsTo.of_eq rfl | exact binds_K (by k_in) rfl (by k_is) rfl rfl rfl | (refine' kp_binds ?kx ?ke; (case kx => k_in); (case ke => exact fun _ => rfl))
  case kB => exact rfl
  case kD => decide +kernel
  case c2 => exact rfl
  case c3 => exact rfl
  case c4 => exact rfl
  intro g' L' h' tk' cells' FG' F' N' Y' B' X' T' l1
  have l0 : ∀ p ∈ news, p.1 < L' := fun p hp => l1 p (.tail _ hp)
  (try k_lt l1)
  k_cells Y'
  (try simp only [List.cons_append, List.nil_append] at N')
  (try dsimp only)
  (try k_fold)
  k_steps
  all_goals (try k_data)
  exact hE _ _ _ _ _ _ _ _ (by assumption) FG' (raised_tail3 (by assumption)) (by assumption) (bare_after hgs (by assumption) (by assumption))
end Mine
end

section
open PySem PySem.W PySem.Calls PyProof.Rows
set_option maxRecDepth 100000
set_option maxHeartbeats 1000000
namespace Mine
theorem news_put2 {h₀ h' : Heap} {L P : Addr} {a b : Addr × Obj} {rest : List (Addr × Obj)} {o' : Obj} {f : Obj → List (Addr × Obj)} (N : News h₀ L h' (a :: b :: (P, o') :: rest)) (hf : ∀ q ∈ f o', q ∈ (P, o') :: rest) : News h₀ L h' (a :: b :: f o') := fun q hq => by
  rcases List.mem_cons.mp hq with rfl | hq
  · exact N _ (.head _)
  · rcases List.mem_cons.mp hq with rfl | hq
    · exact N _ (.tail _ (.head _))
    · exact N _ (.tail _ (.tail _ (hf q hq)))
theorem cov_u {w : World} {dp un : Nat} {gd : Option (List Code)} {cn : Str} {cs : Scope} {a : Addr} {ccd : Value} {cl : List (Str × Addr)} {outer : List Env} {A₀ : Around} {base h₀ : Heap} {L : Addr} {m : Str → Option Value} {s : Shared} {Q E : Value → Shared → Prop}
    {mean : ExcName → Option Value} {mg mb : Str → Option Value} {all : List (Addr × Obj)} {f : Obj → List (Addr × Obj)} {ps : Array Value} {ax ay : Addr} {xs ys : List Value} {cx cy n : Nat} {us ws : List Int} {Xb Yb : Int} {pr qr : Nat → Int}
    (B : Below A₀ base outer h₀) (F : Fr h₀ L s.heap m) (N : News h₀ L s.heap all) (U : UpdF 107 (tabObj ps) all f) (hT : TabOk ps) (T : Top Mine.vw (looseW Mine.vw [Str.ofString "_tuplegetter", Str.ofString "LinearRegression", Str.ofString "linear_regression", Str.ofString "covariance"]) mean mg mb h₀) (hk : cs.kind = .function) (hd : dp + 5 < recursionLimit) (hu : un + 40 < cLine)
    (hx : (ax, listOf xs.toArray cx) ∈ all) (hy : (ay, listOf ys.toArray cy) ∈ all) (hxl : xs.length < 200) (hyl : ys.length < 200) (hlen : xs.length = ys.length) (hn2 : 2 ≤ xs.length) (hn : 2 ≤ n) (h200 : n < 200) (K : FullOk xs ys us ws n Xb Yb pr qr) (hgs : AllBare s.gens)
    (hQ : ∀ h' tk gs' r t ps', TabOk ps' → Fr h₀ L h' m → News h₀ L h' (f (tabObj ps')) → Quo r (preSum pr n) (((n : Int) - 1) * 2 ^ 1074) → AllBare gs' → Q (.float r t) ⟨h', gs', s.drawn, tk, s.os⟩) :
    (Mine.hd.heap_39 w.params).In h₀ → wpAny (model PySem.Challenge.rw_kq0023_05.row.prog w) (ktrTop dp un gd cn cs L a ccd cl outer) (call (.ref 112) [.ref ax, .ref ay]) Q E s := by
  intro X
  obtain ⟨rest, h9, hs, hr, hf⟩ := tab_head U
  have hP := hs _ (.head _)
  exact cov_t B F (fun q hq => N q (hs q hq)) hT T hk hd hu (hr _ hx (list_ne N hx hP)) (hr _ hy (list_ne N hy hP)) hxl hyl hlen hn2 hn h200 K hgs h9 (fun h' tk gs' r t ps' hT' F' N' q hb => hQ h' tk gs' r t ps' hT' F' (fun q hq => N' q (hf _ q hq)) q hb) X
theorem lr_u {w : World} {dp un : Nat} {gd : Option (List Code)} {cn : Str} {cs : Scope} {a : Addr} {ccd : Value} {cl : List (Str × Addr)} {outer : List Env} {A₀ : Around} {base h₀ : Heap} {L : Addr} {m : Str → Option Value} {s : Shared} {Q E : Value → Shared → Prop}
    {mean : ExcName → Option Value} {mg mb : Str → Option Value} {all : List (Addr × Obj)} {f : Obj → List (Addr × Obj)} {ps : Array Value} {ax ay : Addr} {xs ys : List Value} {cx cy n : Nat} {us ws : List Int} {Xb Yb : Int} {pr qr : Nat → Int}
    (B : Below A₀ base outer h₀) (F : Fr h₀ L s.heap m) (N : News h₀ L s.heap all) (U : UpdF 186 (tabObj ps) all f) (hT : TabOk ps) (T : Top Mine.vw (looseW Mine.vw [Str.ofString "_tuplegetter", Str.ofString "LinearRegression", Str.ofString "linear_regression", Str.ofString "covariance"]) mean mg mb h₀) (hk : cs.kind = .function) (hd : dp + 5 < recursionLimit) (hu : un + 40 < cLine)
    (hx : (ax, listOf xs.toArray cx) ∈ all) (hy : (ay, listOf ys.toArray cy) ∈ all) (hxl : xs.length < 200) (hyl : ys.length < 200) (hlen : xs.length = ys.length) (hn2 : 2 ≤ xs.length) (hn : 2 ≤ n) (h200 : n < 200) (K : FullOk xs ys us ws n Xb Yb pr qr) (D : preSum qr n ≠ 0) (hgs : AllBare s.gens)
    (hQ : ∀ t dx h' tk gs' r1 t1 v2 ps', TabOk ps' → Fr h₀ L h' m → News h₀ L h' ((t, lrObj 180 dx (.float r1 t1) v2) :: (dx, emptyDict) :: f (tabObj ps')) → dx < t → Quo r1 (preSum pr n) (preSum qr n) → AllBare gs' → Q (.ref t) ⟨h', gs', s.drawn, tk, s.os⟩) :
    (Mine.hd.heap_39 w.params).In h₀ → wpAny (model PySem.Challenge.rw_kq0023_05.row.prog w) (ktrTop dp un gd cn cs L a ccd cl outer) (call (.ref 189) [.ref ax, .ref ay]) Q E s := by
  intro X
  obtain ⟨rest, h9, hs, hr, hf⟩ := tab_head U
  have hP := hs _ (.head _)
  exact lr_any B F (fun q hq => N q (hs q hq)) hT T hk hd hu (hr _ hx (list_ne N hx hP)) (hr _ hy (list_ne N hy hP)) hxl hyl hlen hn2 hn h200 K D hgs h9 (fun t dx h' tk gs' r1 t1 v2 ps' hT' F' N' l1 l2 q hb => hQ t dx h' tk gs' r1 t1 v2 ps' hT' F' (news_put2 N' (hf _)) l2 q hb) X
theorem fl_u {w : World} {dp un : Nat} {gd : Option (List Code)} {cn : Str} {cs : Scope} {a : Addr} {ccd : Value} {cl : List (Str × Addr)} {outer : List Env} {A₀ : Around} {base h₀ : Heap} {L : Addr} {m : Str → Option Value} {s : Shared} {Q E : Value → Shared → Prop}
    {mean : ExcName → Option Value} {mg mb : Str → Option Value} {all : List (Addr × Obj)} {f : Obj → List (Addr × Obj)} {ps : Array Value} {ax ay : Addr} {xs ys : List Value} {cx cy n : Nat} {us ws : List Int} {Xb Yb : Int} {pr qr : Nat → Int}
    (B : Below A₀ base outer h₀) (F : Fr h₀ L s.heap m) (N : News h₀ L s.heap all) (U : UpdF 186 (tabObj ps) all f) (hT : TabOk ps) (T : Top Mine.vw (looseW Mine.vw [Str.ofString "_tuplegetter", Str.ofString "LinearRegression", Str.ofString "linear_regression", Str.ofString "covariance"]) mean mg mb h₀) (hk : cs.kind = .function) (hd : dp + 5 < recursionLimit) (hu : un + 40 < cLine)
    (hx : (ax, listOf xs.toArray cx) ∈ all) (hy : (ay, listOf ys.toArray cy) ∈ all) (hxl : xs.length < 200) (hyl : ys.length < 200) (hlen : xs.length = ys.length) (hn2 : 2 ≤ xs.length) (hn : 2 ≤ n) (h200 : n < 200) (K : FullOk xs ys us ws n Xb Yb pr qr) (Z : FlatEnd n qr) (hgs : AllBare s.gens)
    (XB : (Mine.hd.heap_39 w.params).In base) (TB : Top Mine.vw (looseW Mine.vw [Str.ofString "_tuplegetter", Str.ofString "LinearRegression", Str.ofString "linear_regression", Str.ofString "covariance"]) mean mg mb base)
    (hE : ∀ e t g' h' tk tk' gs' ps', TabOk ps' → Fr h₀ L g' m → RaisedS base g' (envX cn cs L a ccd cl :: outer) e (.ref 102) t [.str (Str.ofString "x is constant") tk] (f (tabObj ps')) h' → g'.UpToSlots h' → AllBare gs' → E (.ref e) ⟨h', gs', s.drawn, tk', s.os⟩) :
    (Mine.hd.heap_39 w.params).In h₀ → wpAny (model PySem.Challenge.rw_kq0023_05.row.prog w) (ktrTop dp un gd cn cs L a ccd cl outer) (call (.ref 189) [.ref ax, .ref ay]) Q E s := by
  intro X
  obtain ⟨rest, h9, hs, hr, hf⟩ := tab_head U
  have hP := hs _ (.head _)
  exact lr_flat3 B F (fun q hq => N q (hs q hq)) hT T hk hd hu (hr _ hx (list_ne N hx hP)) (hr _ hy (list_ne N hy hP)) hxl hyl hlen hn2 hn h200 K Z hgs h9 XB TB (fun e t g' h' tk tk' gs' ps' hT' F' R hup hb => hE e t g' h' tk tk' gs' ps' hT' F' (raised_sub R (hf _)) hup hb) X
end Mine
end

section
open PySem PySem.W PySem.Calls PyProof.Rows
set_option maxRecDepth 100000
namespace Mine
section
variable {h₀ h : Heap} {L P a : Addr} {o : Obj} {all : List (Addr × Obj)} {ps : Array Value}
/-- another object than the table -/
theorem ne_data (N : News h₀ L h all) (hm : (a, o) ∈ all) (hP : (P, tabObj ps) ∈ all) (hd : o.data ≠ .fields ps) : a ≠ P := fun e => by
  have h1 := (N _ hm).1
  have h2 := (N _ hP).1
  rw [e, h2] at h1
  exact hd (congrArg Obj.data (Option.some.inj h1).symm)
theorem ne_cls {x : String} (N : News h₀ L h all) (hm : (a, o) ∈ all) (hP : (P, tabObj ps) ∈ all) (hd : o.cls = .type x) : a ≠ P := fun e => by
  have h1 := (N _ hm).1
  have h2 := (N _ hP).1
  rw [e, h2] at h1
  have h3 := congrArg Obj.cls (Option.some.inj h1)
  have h4 : Value.none = Value.type x := h3.trans hd
  cases h4
theorem ne_cell {v : Option Value} (N : News h₀ L h all) (hm : (a, o) ∈ all) (hP : (P, tabObj ps) ∈ all) (hd : o.data = .cell v) : a ≠ P := ne_data N hm hP (by rw [hd]; intro e; cases e)
end
end Mine
end

section
open PySem PySem.W PySem.Calls PyProof.Rows PySem.Spec
set_option maxRecDepth 100000
set_option maxHeartbeats 1000000
namespace Mine
/-- a turn of a loop in which generators are made -/
def TurnG (h₀ : Heap) (L : Addr) (I : Addr) (oI : Obj) (J : Array GenState → (Str → Option Value) → List (Addr × Obj) → Prop) (s : Shared) (f : Flow) (s' : Shared) : Prop :=
  f = .next ∧ ∃ h' gs tk' m₂ news₂, s' = ⟨h', gs, s.drawn, tk', s.os⟩ ∧ Fr h₀ L h' m₂ ∧ News h₀ L h' ((I, oI) :: news₂) ∧ (∀ p ∈ news₂, @Ne Nat p.1 I) ∧ J gs m₂ news₂
def LoopAtG (prog : Program) (w : World) (A : Around) (h₀ : Heap) (env : Env) (x : Str) (body : List Stmt) (Q : Flow → Shared → Prop) (E : Value → Shared → Prop) (it : Value) (s : Shared) : Prop :=
  ∃ (I T : Addr) (v1 v2 : Value) (m : Str → Option Value) (news : List (Addr × Obj)) (J : Array GenState → (Str → Option Value) → List (Addr × Obj) → Prop),
    it = .ref I ∧ A.handled = none ∧ s.heap.IsTupleIter I T 0 ∧ @Ne Nat I env.locals ∧ h₀.get? I = none ∧ Fr h₀ env.locals s.heap m ∧ News h₀ env.locals s.heap news ∧ (∀ p ∈ news, @Ne Nat p.1 I) ∧ J s.gens m news ∧
    (∀ gs m₁ n₁, J gs m₁ n₁ → (T, { cls := .type "tuple", data := .seq #[v1, v2] : Obj }) ∈ n₁) ∧
    (∀ v, v = v1 ∨ v = v2 → ∀ gs m₁ news₁ oI h tk, J gs m₁ news₁ → (∀ p ∈ news₁, @Ne Nat p.1 I) → oI.cls = .type "tuple_iterator" → Fr h₀ env.locals h (fun y => if y = x then some v else m₁ y) → News h₀ env.locals h ((I, oI) :: news₁) →
      wpAny (model prog w) A (execs body env) (TurnG h₀ env.locals I oI J ⟨h, gs, s.drawn, tk, s.os⟩) E ⟨h, gs, s.drawn, tk, s.os⟩) ∧
    ∀ gs h' tk m' news', Fr h₀ env.locals h' m' → News h₀ env.locals h' news' → J gs m' news' → Q .next ⟨h', gs, s.drawn, tk, s.os⟩
section
variable {prog : Program} {w : World} {A : Around} {E : Value → Shared → Prop} {s : Shared} {h₀ : Heap} {m : Str → Option Value} {env : Env} {x : Str} {body : List Stmt} {Q : Flow → Shared → Prop} {news : List (Addr × Obj)}
theorem codeG {R : Result → Shared → Prop} {px : Pos} {I : Addr} (hx : env.kindOf x = some .local) (hp : (env.scope.kind == .class || (env.scope.kind == .module && env.locals != env.globals)) = false)
    (h : LoopAtG prog w A h₀ env x body (fun f s' => R (.ok f) s') (notedBy (model prog w) A env fun e s' => R (.error e) s') (.ref I) s) : codeAny (model prog w) A (.forLoop (.Name x px) (.ref I) body [] env) R s := by
  obtain ⟨I', T, v1, v2, m, news, J, e, hh, hI, hIL, hn, F, N, off, h0, hJT, turn, done⟩ := h
  cases e
  refine codeAny_forLoop
    (fun k s' => ∃ i h gs tk m' news', i ≤ 2 ∧ k = 3 - i ∧ s' = ⟨h, gs, s.drawn, tk, s.os⟩ ∧ h.IsTupleIter I T i ∧ Fr h₀ env.locals h m' ∧ News h₀ env.locals h news' ∧ (∀ p ∈ news', @Ne Nat p.1 I) ∧ J gs m' news') ?_ 3
    ⟨0, s.heap, s.gens, s.toks, m, news, by omega, rfl, rfl, hI, F, N, off, h0⟩
  rintro k s' ⟨i, h, gs, tk, m', news', hi, rfl, rfl, hI', F', N', off', hJ⟩
  have hTm := hJT _ _ _ hJ
  have hT : Heap.IsTuple h T #[v1, v2] := ⟨_, (N' _ hTm).1, rfl, _, rfl⟩
  have hTI : T ≠ I := off' _ hTm
  have next : ∀ h₁ : Heap, Heap.ExtBut I h h₁ → Fr h₀ env.locals h₁ m' ∧ News h₀ env.locals h₁ news' := fun h₁ hk => by
    refine ⟨⟨F'.ns.at' fun o e => hk _ o (Ne.symm hIL) e, fun b o e => hk b o (fun eb => by rw [eb, hn] at e; cases e) (F'.keep b o e), F'.above⟩, fun p hp => ⟨hk _ _ (off' p hp) (N' p hp).1, (N' p hp).2⟩⟩
  by_cases hlt : i < 2
  · obtain ⟨v, hv, hvs⟩ : ∃ v, (#[v1, v2] : Array Value)[i]? = some v ∧ (v = v1 ∨ v = v2) := by
      rcases i with _ | _ | i
      · exact ⟨v1, rfl, .inl rfl⟩
      · exact ⟨v2, rfl, .inr rfl⟩
      · omega
    refine wpAny_pyNext_tuple_item hI' hT hv fun h₁ hit hs => ?_
    obtain ⟨F₁, N₁⟩ := next h₁ hs.extBut
    refine wpAny_assign_Name (wpAny_storeName_local hx F₁.ns (fun h₂ hn₂ hs₂ => ?_) hp)
    have F₂ := F₁.set hn₂ hs₂
    have N₂ := N₁.set hs₂
    obtain ⟨oI, g1, g2, g3⟩ := hit
    have g1' : h₂.get? I = some oI := (hs₂.2 I hIL).trans g1
    have N₃ : News h₀ env.locals h₂ ((I, oI) :: news') := fun p hp => by
      rcases List.mem_cons.mp hp with rfl | hp
      · exact ⟨g1', hIL, hn⟩
      · exact N₂ p hp
    refine wpAny_mono (turn v hvs gs m' news' oI h₂ _ hJ off' g2 F₂ N₃) (fun f s₃ h₃ => ?_) fun _ _ e => e
    obtain ⟨rfl, h₄, gs₄, tk₄, m₄, news₄, rfl, F₄, N₄, off₄, hJ₄⟩ := h₃
    refine ⟨3 - (i + 1), by omega, i + 1, h₄, gs₄, tk₄, m₄, news₄, by omega, rfl, rfl, ⟨oI, (N₄ _ (.head _)).1, g2, g3⟩, F₄, fun p hp => N₄ p (.tail _ hp), off₄, hJ₄⟩
  · have e2 : i = 2 := by omega
    subst e2
    refine wpAny_pyNext_tuple_end hh hI' hT rfl fun h₁ hk => wpAny_execs_nil ?_
    obtain ⟨F₁, N₁⟩ := next h₁ hk
    exact done _ _ _ _ _ F₁ N₁ hJ
theorem For_G {px pos : Pos} {iter : Expr} {m : Str → Option Value} (_F : Fr h₀ env.locals s.heap m) (hx : env.kindOf x = some .local)
    (hp : (env.scope.kind == .class || (env.scope.kind == .module && env.locals != env.globals)) = false)
    (h : wpAny (model prog w) A (eval iter env) (fun xv s₁ => wpAny (model prog w) A (pyIter xv) (fun it s₂ => LoopAtG prog w A h₀ env x body Q E it s₂) E s₁) E s)
    (hs : ∀ x, foldedSetIterable iter env x = pure x := by intro _; rfl)
    (hE : PassesOwn (model prog w) A env E := by passes_own) :
    wpAny (model prog w) A (exec (.For (.Name x px) iter body [] pos) env) Q E s := by
  refine wpAny_For (wpAny_mono h (fun xv s₁ h₁ => wpAny_mono h₁ (fun it s₂ h₂ => ?_) fun _ _ e => e) fun _ _ e => e) hs
  have h₂' := h₂
  obtain ⟨I, T, v1, v2, m, news, J, rfl, r⟩ := h₂
  refine codeG (h₀ := h₀) (R := fun r s' => match r with | .ok f => Q f s' | .error e => cameBackBy (model prog w) A env E e s') hx hp ?_
  obtain ⟨hh, hI, hIL, hn, F, N, off, h0, hJT, turn, done⟩ := r
  exact ⟨I, T, v1, v2, m, news, J, rfl, hh, hI, hIL, hn, F, N, off, h0, hJT, fun v hv gs m₁ news₁ oI h tk a b c d e => wpAny_passesOwn hE (turn v hv gs m₁ news₁ oI h tk a b c d e), done⟩
/-- a loop over a pair of written values, by what holds throughout -/
theorem pair_inv {T : Addr} {v1 v2 : Value} (J : Array GenState → (Str → Option Value) → List (Addr × Obj) → Prop) (hh : A.handled = none) (F : Fr h₀ env.locals s.heap m) (N : News h₀ env.locals s.heap news) (hT : (T, { cls := .type "tuple", data := .seq #[v1, v2] : Obj }) ∈ news)
    (h0 : J s.gens m news) (hJT : ∀ gs m₁ n₁, J gs m₁ n₁ → (T, { cls := .type "tuple", data := .seq #[v1, v2] : Obj }) ∈ n₁)
    (turn : ∀ v, v = v1 ∨ v = v2 → ∀ gs m₁ news₁ I oI h tk, J gs m₁ news₁ → (∀ p ∈ news₁, @Ne Nat p.1 I) → oI.cls = .type "tuple_iterator" → Fr h₀ env.locals h (fun y => if y = x then some v else m₁ y) → News h₀ env.locals h ((I, oI) :: news₁) →
      wpAny (model prog w) A (execs body env) (TurnG h₀ env.locals I oI J ⟨h, gs, s.drawn, tk, s.os⟩) E ⟨h, gs, s.drawn, tk, s.os⟩)
    (done : ∀ gs h' tk m' news', Fr h₀ env.locals h' m' → News h₀ env.locals h' news' → J gs m' news' → Q .next ⟨h', gs, s.drawn, tk, s.os⟩) :
    wpAny (model prog w) A (pyIter (.ref T)) (fun it s₂ => LoopAtG prog w A h₀ env x body Q E it s₂) E s := by
  refine wpAny_pyIter_tuple ⟨_, (N _ hT).1, rfl, _, rfl⟩ ?_
  have hLlt : env.locals < s.heap.objs.size := F.ns.lt
  have hfree : h₀.get? s.heap.objs.size = none := by
    cases e : h₀.get? s.heap.objs.size with
    | none => rfl
    | some o => exact absurd (Heap.lt_size (F.keep _ _ e)) (Nat.lt_irrefl _)
  exact ⟨s.heap.objs.size, T, v1, v2, m, news, J, rfl, hh, ⟨_, Heap.get?_push_size _ rfl, rfl, rfl⟩, Nat.ne_of_gt hLlt, hfree, F.keeps fun _ _ e => Heap.get?_push_of_some _ e, N.grown fun _ _ e => Heap.get?_push_of_some _ e, fun p hp => Nat.ne_of_lt (Heap.lt_size (N p hp).1), h0, hJT,
    fun v hv gs m₁ news₁ oI h tk a b c d e => turn v hv gs m₁ news₁ s.heap.objs.size oI h tk a b c d e, done⟩
end
end Mine
end

section
open PySem PySem.W PySem.Calls PyProof.Rows PySem.Spec
set_option maxRecDepth 100000
set_option maxHeartbeats 1000000
namespace Mine
/-- a loop over a list of tuples, in which generators are made -/
def LoopAtL (prog : Program) (w : World) (A : Around) (h₀ : Heap) (env : Env) (elts : List Expr) (xk : Nat) (pt : Pos) (body : List Stmt) (Q : Flow → Shared → Prop) (E : Value → Shared → Prop) (it : Value) (s : Shared) : Prop :=
  ∃ (I l : Addr) (items : Array Value) (m : Str → Option Value) (news : List (Addr × Obj)) (J : Nat → Array GenState → (Str → Option Value) → List (Addr × Obj) → Prop),
    it = .ref I ∧ A.handled = none ∧ s.heap.IsListIter I l 0 ∧ @Ne Nat I env.locals ∧ h₀.get? I = none ∧ Fr h₀ env.locals s.heap m ∧ News h₀ env.locals s.heap news ∧ (∀ p ∈ news, @Ne Nat p.1 I) ∧ J 0 s.gens m news ∧
    (∀ i gs m₁ n₁, J i gs m₁ n₁ → ∃ c, (l, listOf items c) ∈ n₁) ∧ (∀ (i : Nat) v, items[i]? = some v → ∃ T : Addr, v = Value.ref T) ∧
    (∀ (i : Nat) v, items[i]? = some v → ∀ gs m₁ news₁ oI h tk, J i gs m₁ news₁ → (∀ p ∈ news₁, @Ne Nat p.1 I) → oI.cls = .type "list_iterator" → Fr h₀ env.locals h m₁ → News h₀ env.locals h ((I, oI) :: news₁) →
      wpAny (model prog w) A (assign (.Tuple elts xk pt) env v) (fun _ s₁ => wpAny (model prog w) A (execs body env) (TurnG h₀ env.locals I oI (J (i + 1)) ⟨h, gs, s.drawn, tk, s.os⟩) E s₁) E ⟨h, gs, s.drawn, tk, s.os⟩) ∧
    ∀ gs h' tk m' news', Fr h₀ env.locals h' m' → News h₀ env.locals h' news' → J items.size gs m' news' → Q .next ⟨h', gs, s.drawn, tk, s.os⟩
section
variable {prog : Program} {w : World} {A : Around} {E : Value → Shared → Prop} {s : Shared} {h₀ : Heap} {m : Str → Option Value} {env : Env} {elts : List Expr} {xk : Nat} {pt : Pos} {body : List Stmt} {Q : Flow → Shared → Prop} {news : List (Addr × Obj)}
theorem codeL {R : Result → Shared → Prop} {I : Addr}
    (h : LoopAtL prog w A h₀ env elts xk pt body (fun f s' => R (.ok f) s') (notedBy (model prog w) A env fun e s' => R (.error e) s') (.ref I) s) : codeAny (model prog w) A (.forLoop (.Tuple elts xk pt) (.ref I) body [] env) R s := by
  obtain ⟨I', l, items, m, news, J, e, hh, hI, hIL, hn, F, N, off, h0, hJl, hT, turn, done⟩ := h
  cases e
  refine codeAny_forLoop_any
    (fun k s' => ∃ i h gs tk m' news', i ≤ items.size ∧ k = items.size + 1 - i ∧ s' = ⟨h, gs, s.drawn, tk, s.os⟩ ∧ h.IsListIter I l i ∧ Fr h₀ env.locals h m' ∧ News h₀ env.locals h news' ∧ (∀ p ∈ news', @Ne Nat p.1 I) ∧ J i gs m' news') ?_ (items.size + 1)
    ⟨0, s.heap, s.gens, s.toks, m, news, Nat.zero_le _, rfl, rfl, hI, F, N, off, h0⟩
  rintro k s' ⟨i, h, gs, tk, m', news', hi, rfl, rfl, hI', F', N', off', hJ⟩
  obtain ⟨c, hlm⟩ := hJl _ _ _ _ hJ
  have hL : Heap.IsList h l items := ⟨_, (N' _ hlm).1, rfl, _, rfl⟩
  have hlI : l ≠ I := off' _ hlm
  have next : ∀ h₁ : Heap, Heap.ExtBut I h h₁ → Fr h₀ env.locals h₁ m' ∧ News h₀ env.locals h₁ news' := fun h₁ hk => by
    refine ⟨⟨F'.ns.at' fun o e => hk _ o (Ne.symm hIL) e, fun b o e => hk b o (fun eb => by rw [eb, hn] at e; cases e) (F'.keep b o e), F'.above⟩, fun p hp => ⟨hk _ _ (off' p hp) (N' p hp).1, (N' p hp).2⟩⟩
  by_cases hlt : i < items.size
  · have hv : items[i]? = some items[i] := Array.getElem?_eq_getElem hlt
    refine wpAny_pyNext_list_item hI' hL (x := items[i]) hv fun h₁ hit hs => ?_
    obtain ⟨F₁, N₁⟩ := next h₁ hs.extBut
    obtain ⟨T, eT⟩ := hT i _ hv
    have hit' := hit
    obtain ⟨oI, g1, g2, g3⟩ := hit
    have N₃ : News h₀ env.locals h₁ ((I, oI) :: news') := fun p hp => by
      rcases List.mem_cons.mp hp with rfl | hp
      · exact ⟨g1, hIL, hn⟩
      · exact N₁ p hp
    have key := turn i _ hv gs m' news' oI h₁ tk hJ off' g2 F₁ N₃
    show wpAny (model prog w) A (letOwnedTupleGo (.Tuple elts xk pt) (.ref I) items[i]) _ _ _
    rw [eT] at key ⊢
    refine wpAny_letOwnedTupleGo_listiter (l := l) (i := i + 1) hit' ?_
    refine wpAny_mono key (fun _ s₂ h₂ => wpAny_mono h₂ (fun f s₃ h₃ => ?_) fun _ _ e => e) fun _ _ e => e
    obtain ⟨rfl, h₄, gs₄, tk₄, m₄, news₄, rfl, F₄, N₄, off₄, hJ₄⟩ := h₃
    exact ⟨items.size + 1 - (i + 1), by omega, i + 1, h₄, gs₄, tk₄, m₄, news₄, hlt, rfl, rfl, ⟨oI, (N₄ _ (.head _)).1, g2, g3⟩, F₄, fun p hp => N₄ p (.tail _ hp), off₄, hJ₄⟩
  · have e2 : i = items.size := by omega
    subst e2
    refine wpAny_pyNext_list_end hh hI' hL (by simp) fun h₁ hk => wpAny_execs_nil ?_
    obtain ⟨F₁, N₁⟩ := next h₁ hk
    exact done _ _ _ _ _ F₁ N₁ hJ
theorem For_L {pos : Pos} {iter : Expr} {m : Str → Option Value} (_F : Fr h₀ env.locals s.heap m)
    (h : wpAny (model prog w) A (eval iter env) (fun xv s₁ => wpAny (model prog w) A (pyIter xv) (fun it s₂ => LoopAtL prog w A h₀ env elts xk pt body Q E it s₂) E s₁) E s)
    (hs : ∀ x, foldedSetIterable iter env x = pure x := by intro _; rfl)
    (hE : PassesOwn (model prog w) A env E := by passes_own) :
    wpAny (model prog w) A (exec (.For (.Tuple elts xk pt) iter body [] pos) env) Q E s := by
  refine wpAny_For (wpAny_mono h (fun xv s₁ h₁ => wpAny_mono h₁ (fun it s₂ h₂ => ?_) fun _ _ e => e) fun _ _ e => e) hs
  obtain ⟨I, l, items, m, news, J, rfl, r⟩ := h₂
  refine codeL (h₀ := h₀) (R := fun r s' => match r with | .ok f => Q f s' | .error e => cameBackBy (model prog w) A env E e s') ?_
  obtain ⟨hh, hI, hIL, hn, F, N, off, h0, hJl, hT, turn, done⟩ := r
  exact ⟨I, l, items, m, news, J, rfl, hh, hI, hIL, hn, F, N, off, h0, hJl, hT, fun i v hv gs m₁ news₁ oI h tk a b c d e => wpAny_mono (turn i v hv gs m₁ news₁ oI h tk a b c d e) (fun _ _ x => wpAny_passesOwn hE x) hE, done⟩
theorem list_inv {l : Addr} {items : Array Value} {c : Nat} (J : Nat → Array GenState → (Str → Option Value) → List (Addr × Obj) → Prop) (hh : A.handled = none) (F : Fr h₀ env.locals s.heap m) (N : News h₀ env.locals s.heap news) (hl : (l, listOf items c) ∈ news)
    (h0 : J 0 s.gens m news) (hJl : ∀ i gs m₁ n₁, J i gs m₁ n₁ → ∃ c, (l, listOf items c) ∈ n₁) (hT : ∀ (i : Nat) v, items[i]? = some v → ∃ T : Addr, v = Value.ref T)
    (turn : ∀ (i : Nat) v, items[i]? = some v → ∀ gs m₁ news₁ I oI h tk, J i gs m₁ news₁ → (∀ p ∈ news₁, @Ne Nat p.1 I) → oI.cls = .type "list_iterator" → Fr h₀ env.locals h m₁ → News h₀ env.locals h ((I, oI) :: news₁) →
      wpAny (model prog w) A (assign (.Tuple elts xk pt) env v) (fun _ s₁ => wpAny (model prog w) A (execs body env) (TurnG h₀ env.locals I oI (J (i + 1)) ⟨h, gs, s.drawn, tk, s.os⟩) E s₁) E ⟨h, gs, s.drawn, tk, s.os⟩)
    (done : ∀ gs h' tk m' news', Fr h₀ env.locals h' m' → News h₀ env.locals h' news' → J items.size gs m' news' → Q .next ⟨h', gs, s.drawn, tk, s.os⟩) :
    wpAny (model prog w) A (pyIter (.ref l)) (fun it s₂ => LoopAtL prog w A h₀ env elts xk pt body Q E it s₂) E s := by
  refine wpAny_pyIter_list ⟨_, (N _ hl).1, rfl, _, rfl⟩ ?_
  have hLlt : env.locals < s.heap.objs.size := F.ns.lt
  have hfree : h₀.get? s.heap.objs.size = none := by
    cases e : h₀.get? s.heap.objs.size with
    | none => rfl
    | some o => exact absurd (Heap.lt_size (F.keep _ _ e)) (Nat.lt_irrefl _)
  exact ⟨s.heap.objs.size, l, items, m, news, J, rfl, hh, ⟨_, Heap.get?_push_size _ rfl, rfl, rfl⟩, Nat.ne_of_gt hLlt, hfree, F.keeps fun _ _ e => Heap.get?_push_of_some _ e, N.grown fun _ _ e => Heap.get?_push_of_some _ e, fun p hp => Nat.ne_of_lt (Heap.lt_size (N p hp).1), h0, hJl, hT,
    fun i v hv gs m₁ news₁ oI h tk a b c d e => turn i v hv gs m₁ news₁ s.heap.objs.size oI h tk a b c d e, done⟩
end
end Mine
end

section
open PySem PySem.W PySem.Calls PyProof.Rows
set_option maxRecDepth 100000
set_option maxHeartbeats 2000000
namespace Mine
theorem zz_HL2 : True := by
  w_top off
  k_with_none
  trivial
theorem map_7 {m : Str → Option Value} {k1 k2 k3 k4 k5 k6 k7 : Str} {v1 v2 v3 v4 v5 v6 v7 : Value} (h1 : m k1 = some v1) (h2 : m k2 = some v2) (h3 : m k3 = some v3) (h4 : m k4 = some v4) (h5 : m k5 = some v5) (h6 : m k6 = some v6) (h7 : m k7 = some v7) :
    m = fun z => if z = k1 then some v1 else if z = k2 then some v2 else if z = k3 then some v3 else if z = k4 then some v4 else if z = k5 then some v5 else if z = k6 then some v6 else if z = k7 then some v7 else m z := by
  funext z
  split
  · rename_i e; rw [e, h1]
  · split
    · rename_i e; rw [e, h2]
    · split
      · rename_i e; rw [e, h3]
      · split
        · rename_i e; rw [e, h4]
        · split
          · rename_i e; rw [e, h5]
          · split
            · rename_i e; rw [e, h6]
            · split
              · rename_i e; rw [e, h7]
              · rfl
theorem fr_7 {g h : Heap} {L : Addr} {m : Str → Option Value} {k1 k2 k3 k4 k5 k6 k7 : Str} {v1 v2 v3 v4 v5 v6 v7 : Value} (F : Fr g L h m) (h1 : m k1 = some v1) (h2 : m k2 = some v2) (h3 : m k3 = some v3) (h4 : m k4 = some v4) (h5 : m k5 = some v5) (h6 : m k6 = some v6) (h7 : m k7 = some v7) :
    Fr g L h (fun z => if z = k1 then some v1 else if z = k2 then some v2 else if z = k3 then some v3 else if z = k4 then some v4 else if z = k5 then some v5 else if z = k6 then some v6 else if z = k7 then some v7 else m z) := by
  rw [← map_7 h1 h2 h3 h4 h5 h6 h7]; exact F
theorem off9 {I P : Addr} {o o' : Obj} {a1 a2 a3 a4 a5 a6 a7 : Addr × Obj} {r : List (Addr × Obj)} (h : ∀ p ∈ a1 :: a2 :: a3 :: a4 :: a5 :: a6 :: a7 :: (P, o) :: r, @Ne Nat p.1 I) : ∀ p ∈ a1 :: a2 :: a3 :: a4 :: a5 :: a6 :: a7 :: (P, o') :: r, @Ne Nat p.1 I := fun p hp => by
  simp only [List.mem_cons] at hp h
  rcases hp with e | e | e | e | e | e | e | e | e
  · exact h _ (by simp [e])
  · exact h _ (by simp [e])
  · exact h _ (by simp [e])
  · exact h _ (by simp [e])
  · exact h _ (by simp [e])
  · exact h _ (by simp [e])
  · exact h _ (by simp [e])
  · rw [e]; exact h (P, o) (by simp)
  · exact h _ (by simp [e])
def StopM (P : Prop) : Prop := P
theorem stopM_ {P : Prop} (h : StopM P) : P := h
theorem zz_HL2_6 : True := by
  k_with "my execs cons" =>
    ((with_reducible show wpAny _ _ (execs (Stmt.Try _ _ _ _ _ :: _) _) _ _ _); refine stopM_ ?_)
  k_with "my exec For Tuple List cons nil" =>
    (k_here; (rename Fr _ _ _ _ => lFzz67'); (with_unfolding_all refine' For_L lFzz67' ?_; k_whole))
  k_with "my pyIter ref" =>
    ((with_reducible show wpAny _ _ (pyIter (Value.ref _)) (fun itzz68 s₂ => LoopAtL _ _ _ _ _ _ _ _ _ _ _ itzz68 s₂) _ _); refine stopM_ ?_)
  k_with "my TurnG" =>
    (refine stopM_ ?_)
  trivial
local macro_rules | `(tactic| k_all) => `(tactic| assumption)
local macro_rules | `(tactic| k_ne) => `(tactic| ((show @Ne Nat _ 107); first | (show @Ne Nat 186 107; decide) | ((rename News _ _ _ _ => nU); first | exact ne_data (P := 107) nU (by k_mem) (by k_mem) (by intro e; cases e) | exact ne_cls (P := 107) nU (by k_mem) (by k_mem) (by assumption) | exact ne_cell (P := 107) nU (by k_mem) (by k_mem) (by assumption))))
theorem zz_HL2_7 : True := by
  k_with "my call ref cons" =>
    (k_here; (with_reducible show wpAny _ _ (call (Value.ref 112) _ _) _ _ _); k_dflt (refine' cov_u ?zz70B ?zz70F ?zz70N ?zz70U ?zz70hT ?zz70T ?zz70hk ?zz70hd ?zz70hu ?zz70hx ?zz70hy ?zz70hxl ?zz70hyl ?zz70hlen ?zz70hn2 ?zz70hn ?zz70h200 ?zz70K ?zz70hgs ?_ ?zz70X; (case zz70X => k_asm); (case zz70B => assumption); (case zz70F => k_asm); (case zz70N => k_asm); (case zz70U => k_updF); (case zz70hT => assumption); (case zz70T => assumption); (case zz70hk => rfl); (case zz70hd => ktr_room); (case zz70hu => ktr_units); (case zz70hx => k_mem); (case zz70hy => k_mem); (case zz70hxl => omega); (case zz70hyl => omega); (case zz70hlen => omega); (case zz70hn2 => omega); (case zz70K => assumption); (case zz70hn => assumption); (case zz70h200 => omega); (case zz70hgs => assumption); k_whole; intro hzz70' tkzz70' gszz70' rzz70' tzz70' pszz70' hTzz70' Fzz70' Nzz70' qzz70' hbzz70'; (try dsimp only at Nzz70')))
  k_with "my binaryOp Mult int int" =>
    (k_here; refine mul_r (by assumption) ?_)
  k_with "my binaryOp Div int int" =>
    (k_here; k_dflt ((refine' div_due ?zz72A ?zz72D ?zz72h ?_; (case zz72A => rfl); (case zz72D => assumption); (case zz72h => assumption)); intro rzz72' tzz72' qzz72'))
  k_with "my compareOp NotEq float float" =>
    (k_here; k_dflt (refine' ne_due ?zz73K ?zz73q1 ?zz73q2 ?_; (case zz73q1 => assumption); (case zz73q2 => assumption); (case zz73K => assumption); k_whole))
  trivial
theorem h2 {w : World} {dp un : Nat} {gd : Option (List Code)} {cn : Str} {cs : Scope} {a : Addr} {ccd : Value} {cl : List (Str × Addr)} {base g : Heap} {L0 L : Addr} {m : Str → Option Value} {s : Shared} {Q : Flow → Shared → Prop} {R1 R2 : Value → Shared → Prop}
    {mean : ExcName → Option Value} {mg mb : Str → Option Value} {news : List (Addr × Obj)} {pc ps : Array Value} {ax ay aU aV : Addr} {zu zv : List Value} {n : Nat} {far xy xx : Int} {tf tn t1 t2 : Tok} {oF : Obj}
    (B : Below (ktrTop dp un gd cn cs L0 a ccd cl []) base [envX cn cs L0 a ccd cl] g) (F : Fr g L s.heap (fun z => if z = Str.ofString "us" then some (.ref aU) else if z = Str.ofString "vs" then some (.ref aV) else if z = Str.ofString "xs" then some (.ref ax) else if z = Str.ofString "ys" then some (.ref ay) else if z = Str.ofString "n" then some (.int (n : Int) tn) else if z = Str.ofString "xy" then some (.int xy t1) else if z = Str.ofString "xx" then some (.int xx t2) else m z)) (N : News g L s.heap ((aV, LCg.lst zv) :: (aU, LCg.lst zu) :: (L + 1, oF) :: (107, tabObj pc) :: (186, tabObj ps) :: news)) (dF : oF.data = .cell (some (.int far tf))) (T : Top Mine.vw (looseW Mine.vw [Str.ofString "_tuplegetter", Str.ofString "LinearRegression", Str.ofString "linear_regression", Str.ofString "covariance"]) mean mg mb g)
    (h9 : ∀ p ∈ news, p.1 ≠ 107) (hTc : TabOk pc) (hd : dp + 9 < recursionLimit) (hu : un + 60 < cLine) (hgs : AllBare s.gens) (lu : zu.length = n) (lv : zv.length = n) (n2 : 2 ≤ n) (n16 : n ≤ 16)
    {U V : List Int} {Xb Yb : Int} {pr qr qy : Nat → Int} (K1 : FullOk zu zv U V n Xb Yb pr qr) (K2 : FullOk zv zu V U n Yb Xb pr qy) (K3 : FullOk zu zu U U n Xb Xb qr qr) (E1 : CovEq n (preSum pr n) (8 * xy)) (E2 : CovEq n (preSum qr n) xx) (y1 : Tny (8 * xy)) (y2 : Tny xx)
    (hQ : ∀ h' tk m' gs' pc', Fr g L h' m' → News g L h' ((aV, LCg.lst zv) :: (aU, LCg.lst zu) :: (L + 1, oF) :: (107, tabObj pc') :: (186, tabObj ps) :: news) → TabOk pc' → AllBare gs' → m' (Str.ofString "us") = some (.ref aU) → m' (Str.ofString "vs") = some (.ref aV) → m' (Str.ofString "xs") = some (.ref ax) → m' (Str.ofString "ys") = some (.ref ay) → m' (Str.ofString "n") = some (.int (n : Int) tn) → m' (Str.ofString "xy") = some (.int xy t1) → m' (Str.ofString "xx") = some (.int xx t2) →
      wpAny (model PySem.Challenge.rw_kq0023_05.row.prog w) ((ktrTop dp un gd cn cs L0 a ccd cl []).deeper (envOfC (Str.ofString "_law_holds") hoScope L 208 (Value.ref 207))) (execs (hoRest 2) (envOfC (Str.ofString "_law_holds") hoScope L 208 (Value.ref 207))) Q (fun e s' => wpAny (model PySem.Challenge.rw_kq0023_05.row.prog w) ((ktrTop dp un gd cn cs L0 a ccd cl []).deeper (envOfC (Str.ofString "_law_holds") hoScope L 208 (Value.ref 207))) (leaving (envOfC (Str.ofString "_law_holds") hoScope L 208 (Value.ref 207)) e) (fun _ s'' => R1 e s'') (fun e' s'' => R2 e' s'') s') ⟨h', gs', s.drawn, tk, s.os⟩) :
    (Mine.hd.heap_39 w.params).In g → wpAny (model PySem.Challenge.rw_kq0023_05.row.prog w) ((ktrTop dp un gd cn cs L0 a ccd cl []).deeper (envOfC (Str.ofString "_law_holds") hoScope L 208 (Value.ref 207))) (execs (hoRest 1) (envOfC (Str.ofString "_law_holds") hoScope L 208 (Value.ref 207))) Q (fun e s' => wpAny (model PySem.Challenge.rw_kq0023_05.row.prog w) ((ktrTop dp un gd cn cs L0 a ccd cl []).deeper (envOfC (Str.ofString "_law_holds") hoScope L 208 (Value.ref 207))) (leaving (envOfC (Str.ofString "_law_holds") hoScope L 208 (Value.ref 207)) e) (fun _ s'' => R1 e s'') (fun e' s'' => R2 e' s'') s') s := by
  k_fill
  intro X
  dsimp only [hoRest, hoScope, hoFn, fnScope, fnBody, PySem.Challenge.pw_kq0023_05, List.getLastD, List.getLast, List.drop, List.dropLast]
  have hs1 : Sm ((n : Int) - 1) := ⟨PySem.intBits_le_64 (by omega) (by omega)⟩
  k_steps
  all_goals (try k_data)
  unfold StopM
  rename News _ _ _ _ => NN
  rename Fr _ _ _ _ => FF
  refine list_inv (fun i gs m₁ n₁ => AllBare gs ∧ m₁ (Str.ofString "us") = some (.ref aU) ∧ m₁ (Str.ofString "vs") = some (.ref aV) ∧ m₁ (Str.ofString "xs") = some (.ref ax) ∧ m₁ (Str.ofString "ys") = some (.ref ay) ∧ m₁ (Str.ofString "n") = some (.int (n : Int) tn) ∧ m₁ (Str.ofString "xy") = some (.int xy t1) ∧ m₁ (Str.ofString "xx") = some (.int xx t2) ∧ ∃ pc, TabOk pc ∧ n₁ = _ :: _ :: _ :: _ :: (aV, LCg.lst zv) :: (aU, LCg.lst zu) :: (L + 1, oF) :: (107, tabObj pc) :: (186, tabObj ps) :: news) rfl FF NN (.head _) ⟨hgs, rfl, rfl, rfl, rfl, rfl, rfl, rfl, pc, hTc, rfl⟩ (fun i gs m₁ n₁ hJ => ?_) (fun i v hv => ?_) (fun i v hv gs m₁ news₁ I oI h tk hJ off hcI F₁ N₁ => ?_) (fun gs h' tk m' news' F' N' hJ => ?_)
  · obtain ⟨_, _, _, _, _, _, _, _, ps, _, rfl⟩ := hJ
    exact ⟨_, .head _⟩
  · rcases i with _ | _ | _ | i
    · exact ⟨_, (Option.some.inj hv).symm⟩
    · exact ⟨_, (Option.some.inj hv).symm⟩
    · exact ⟨_, (Option.some.inj hv).symm⟩
    · exact absurd hv (by simp)
  · obtain ⟨hb, m1, m2, m3, m4, m5, m6, m7, pc', hTp, rfl⟩ := hJ
    have F₂ := fr_7 F₁ m1 m2 m3 m4 m5 m6 m7
    (try clear FF); (try clear NN); (try clear hTc); (try clear hgs); clear F₁
    rcases i with _ | _ | _ | i
    · simp at hv
      subst hv
      k_steps
      all_goals (try k_data)
      unfold StopM
      rename News _ _ _ _ => NN2
      rename Fr _ _ _ _ => FF2
      refine ⟨rfl, _, _, _, _, _, rfl, FF2, NN2, ?_, by assumption, rfl, rfl, rfl, rfl, rfl, rfl, rfl, _, by assumption, rfl⟩
      exact off9 off
    · simp at hv
      subst hv
      k_steps
      all_goals (try k_data)
      unfold StopM
      rename News _ _ _ _ => NN2
      rename Fr _ _ _ _ => FF2
      refine ⟨rfl, _, _, _, _, _, rfl, FF2, NN2, ?_, by assumption, rfl, rfl, rfl, rfl, rfl, rfl, rfl, _, by assumption, rfl⟩
      exact off9 off
    · simp at hv
      subst hv
      k_steps
      all_goals (try k_data)
      unfold StopM
      rename News _ _ _ _ => NN2
      rename Fr _ _ _ _ => FF2
      refine ⟨rfl, _, _, _, _, _, rfl, FF2, NN2, ?_, by assumption, rfl, rfl, rfl, rfl, rfl, rfl, rfl, _, by assumption, rfl⟩
      exact off9 off
    · exact absurd hv (by simp)
  · obtain ⟨hb, m1, m2, m3, m4, m5, m6, m7, pc', hTp, rfl⟩ := hJ
    exact hQ _ _ _ _ _ F' (fun q hq => N' q (.tail _ (.tail _ (.tail _ (.tail _ hq))))) hTp hb m1 m2 m3 m4 m5 m6 m7
end Mine
end

section
open PySem PySem.W PySem.Calls PyProof.Rows PySem.Spec PySem.Builtin PySem.Builtin.ObjectAttr
set_option maxRecDepth 100000
set_option maxHeartbeats 1000000
namespace Mine
section
variable {prog : Program} {w : World} {A : Around} {E : Value → Shared → Prop} {s : Shared} {K : Frag} {C x : Addr} {ox : Obj} {od : Option Obj} {name : PySem.Str}
/-- an attribute of an object of a subclass of tuple, held by a descriptor that the program defines itself -/
theorem own_attr {g a : Addr} {expr : Bool} {Q : Value → Shared → Prop} (X : K.In s.heap) (I : InstAt s.heap x ox C od) (hga : findIn K (.ref C) "__getattribute__" = some (some (.builtin "tuple.__getattribute__"))) (hk : findIn K (.ref C) "__getattr__" = some none)
    (hf : findObj K C od name = some (.bind (.ref g) (.ref a))) (hm : mroIn K C (.type "tuple") = some true)
    (h : wpAny (model prog w) A.in1 (call (.ref g) [.ref a, .ref x, .ref C]) (fun v s' => wpAny (model prog w) A (handedOut v) Q E s') (fun _ _ => False) { s with toks := s.toks + 1 }) :
    wpAny (model prog w) A (getAttr (.ref x) name expr) Q E s := by
  have L0 := I.type (M := model prog w)
  have L1 := looks_findIn (M := model prog w) X hga
  have L2 := looks_findIn (M := model prog w) X hk
  have L3 := looks_find (M := model prog w) X I hf
  have L4 := looks_mroIn (M := model prog w) X hm
  obtain ⟨hp, gg, d, tk, os⟩ := s
  unfold getAttr getAttrBy
  refine wpAny_bind (wpAny_mkText (wpAny_holding (wpAny_bind (L0.at (wpAny_bind (L1.at ?_))))))
  show wpAny _ _ (getAttrByItsOwn _ _ _ _ _ _) _ _ _
  unfold getAttrByItsOwn
  refine wpAny_bind (m := hookBefore (.ref C)) (L2.at ?_)
  refine wpAny_bind (wpAny_attempt (wpAny_holding ?_))
  have e1 : callGetattribute (.ref x) (.str name tk) (.builtin "tuple.__getattribute__") expr = boundAndCalled (.builtin "tuple.__getattribute__") (.ref x) (.str name tk) := by
    unfold callGetattribute
    rw [if_neg (by cases expr <;> decide)]
  rw [e1]
  unfold boundAndCalled
  rw [show bindSpecial (.builtin "tuple.__getattribute__") (.ref x) = pure (.builtin "tuple.__getattribute__", [.ref x]) from PySem.F.slot_tuple_getattribute.bind _]
  refine wpAny_bind (wpAny_pure (wpAny_call ?_))
  refine codeAny_call_builtin PySem.F.slot_tuple_getattribute.plain am_entry_tuple_getattribute (check_slot (i := "tuple.__getattribute__") (owner := "tuple") (n := "__getattribute__") (by decide +kernel) (by decide +kernel) (L0.andThen L4) (PySem.F.args_tuple_getattribute_2 _ _) ?_)
  unfold Builtin.«object.__getattribute__»
  refine wpAny_bind (m := slotArgs "__getattribute__" 1 _) (wpAny_pure ?_)
  refine wpAny_bind (m := attrName _) (wpAny_pure ?_)
  refine wpAny_bind (L0.at (wpAny_bind (L3.at ?_)))
  dsimp only
  unfold bindTo
  dsimp only
  refine wpAny_bind (wpAny_holding (wpAny_mono h (fun v s' z => ?_) fun _ _ z => z.elim))
  exact wpAny_pure z
end
end Mine
end

section
open PySem PySem.W PySem.Calls PyProof.Rows
set_option maxRecDepth 100000
set_option maxHeartbeats 400000
namespace Mine
theorem zz_GAe : True := by
  w_top off
  k_with_none
  trivial
theorem cls_some {K : Frag} {C : Addr} {c : Value} {d : Option Addr} {cd : ClassData} {sl : Array (Option Value)} (e : K.lookup C = some ⟨c, d, .cls cd, sl⟩) : (clsIn K C).isSome = true := by
  unfold clsIn; rw [e]; rfl
section
variable {prog : Program} {w : World} {A : Around} {E : Value → Shared → Prop} {s : Shared} {h₀ : Heap} {L t C : Addr} {o : Obj} {news : List (Addr × Obj)}
theorem type_own {Q : Value → Shared → Prop} (N : News h₀ L s.heap news) (hm : (t, o) ∈ news) (hc : o.cls = .ref C) (h : Q (.ref C) s) : wpAny (model prog w) A (call (.type "type") [.ref t]) Q E s := by
  obtain ⟨hp, g, d, tk, os⟩ := s
  refine call_type_obj (N _ hm).1 (by rw [hc]; rfl) ?_
  rw [hc]; exact h
end
section
variable {prog : Program} {w : World} {A : Around} {E : Value → Shared → Prop} {s : Shared} {K : Frag} {C : Addr} {c : Value} {d : Option Addr} {cd : ClassData} {sl : Array (Option Value)} {T : String}
theorem sub_nested {k : Value} {dep : Int} {tk : Tok} {Q : Fin → Shared → Prop} (hk : k = .int dep tk) (X : K.In s.heap) (e : K.lookup C = some ⟨c, d, .cls cd, sl⟩) (hm : mroIn K C (.type T) = some true) (ht : typeOf (.type T) = pure (.type "type")) (hq : Q (.done (.ret (.bool true))) s) :
    wpAny (model prog w) A (Builtin.«issubclass.nested» ⟨[.ref C, .type T, k], []⟩) Q E s := by
  subst hk
  have L1 : Looks (model prog w) s.heap (isType (.ref C)) true := (Looks.ld (X _ _ e)).andThen .now
  have L2 := looks_mroIn (M := model prog w) X hm
  have L3 : Looks (model prog w) s.heap (typeOf (.type T)) (.type "type") := Looks.of_pure ht
  obtain ⟨hp, g, dr, t, os⟩ := s
  unfold Builtin.«issubclass.nested»
  repeat lk
  exact hq
theorem sub_own {Q : Value → Shared → Prop} (X : K.In s.heap) (e : K.lookup C = some ⟨c, d, .cls cd, sl⟩) (hm : mroIn K C (.type T) = some true) (ht : typeOf (.type T) = pure (.type "type")) (h : Q (.bool true) s) : wpAny (model prog w) A (call (.builtin "issubclass") [.ref C, .type T]) Q E s :=
  call_issubclass (S := fun _ R s => K.In s.heap ∧ R (.ok (.ret (.bool true))) s) (fun _ _ _ _ _ hs => issubclass_outer (sub_nested rfl hs.1 e hm ht hs.2)) ⟨X, h⟩
end
section
variable {prog : Program} {w : World} {A : Around} {E : Value → Shared → Prop} {s : Shared} {K : Frag} {C t : Addr} {o : Obj} {vs : Array Value} {n : Nat} {i : Int} {tk : Tok} {v : Value}
theorem item_own {h₀ : Heap} {L : Addr} {news : List (Addr × Obj)} {Q : Value → Shared → Prop} (X : K.In s.heap) (N : News h₀ L s.heap news) (hmem : (t, o) ∈ news) (hc : o.cls = .ref C) (hd : o.data = .seq vs n) (hm : mroIn K C (.type "tuple") = some true) (h0 : i = 0 ∨ i = 1) (hz : vs.size = 2) (hv : vs[i.toNat]? = some v) (h : Q v s) :
    wpAny (model prog w) A (call (.builtin "tuple.__getitem__") [.ref t, .int i tk]) Q E s := by
  have ho := (N _ hmem).1
  have t1 : Looks (model prog w) s.heap (typeOf (.ref t)) (.ref C) := hc ▸ (Looks.ld ho).andThen .now
  refine wpAny_call (codeAny_call_builtin slot_tuple_getitem.plain entry_tuple_getitem (check_slot (i := "tuple.__getitem__") (owner := "tuple") (n := "__getitem__") (by decide +kernel) (by decide +kernel) (t1.andThen (looks_mroIn X hm)) (args_tuple_getitem _ _) ?_))
  unfold Builtin.«tuple.__getitem__»
  refine wpAny_bind (m := slotArgs "__getitem__" 1 _) (wpAny_pure ?_)
  dsimp only
  unfold Builtin.Tuple.tupleItemsOf
  refine wpAny_bind (wpAny_bind (wpAny_seqItems ho hd (wpAny_pure ?_)))
  have hr : (seqIndex? i vs.size).bind (vs[·]?) = some v := by
    have e : seqIndex? i vs.size = some i.toNat := by rw [hz]; rcases h0 with rfl | rfl <;> rfl
    rw [e]; exact hv
  have hb : (decide (i < -(2 ^ 63)) || decide (i ≥ 2 ^ 63)) = false := by rcases h0 with rfl | rfl <;> decide
  refine wpAny_bind (wpAny_typeOf (typeIs_int s i tk) ?_)
  rw [if_neg (by decide)]
  refine wpAny_bind (wpAny_specialOf (T := "int") (typeIs_int s i tk) int_index ?_)
  rw [if_neg (by simp)]
  refine wpAny_bind (wpAny_of_eq (a := i) rfl ?_)
  rw [if_neg (by rw [hb]; decide), hr]
  exact wpAny_pure (a := Fin.done (.ret v)) h
end
theorem meta_tup : typeOf (.type "tuple") = pure (.type "type") := by kernel_rfl
theorem zz_GAe_8 : True := by
  k_with "my call builtin:issubclass" =>
    (k_here; k_dflt (refine' sub_own ?zz74X ?zz74e ?zz74m ?zz74t ?_; (case zz74X => k_in); (case zz74e => k_is); (case zz74m => k_is); (case zz74t => exact meta_tup); k_whole))
  k_with "my getMethod type:tuple" =>
    (k_here; refine' method_type ?zz75F ?zz75X ?zz75m (by decide +kernel) ?zz75e ?zz75h ?_; (case zz75F => k_asm); (case zz75X => k_asm); (case zz75m => exact meta_tup); (case zz75e => k_dflt k_is); (case zz75h => k_handed))
  k_with "my call type:type" =>
    (k_here; k_dflt (refine' type_own ?zz76N ?zz76m ?zz76c ?_; (case zz76N => k_asm); (case zz76m => assumption); (case zz76c => exact rfl); k_whole))
  k_with "my call builtin:tuple.__getitem__" =>
    (k_here; k_dflt (refine' item_own ?zz77X ?zz77N ?zz77o ?zz77c ?zz77d ?zz77m ?zz77z ?zz77sz ?zz77v ?_; (case zz77X => k_in); (case zz77N => k_asm); (case zz77o => assumption); (case zz77c => exact rfl); (case zz77d => exact rfl); (case zz77m => k_is); (case zz77z => decide); (case zz77sz => exact rfl); (case zz77v => exact rfl); k_whole))
  trivial
theorem get_slope {w : World} {dp un : Nat} {gd : Option (List Code)} {cn : Str} {cs : Scope} {a : Addr} {ccd : Value} {cl : List (Str × Addr)} {outer : List Env} {A₀ : Around} {base h₀ : Heap} {L : Addr} {m : Str → Option Value} {s : Shared} {Q E : Value → Shared → Prop}
    {mean : ExcName → Option Value} {mg mb : Str → Option Value} {news : List (Addr × Obj)} {t dx : Addr} {v1 v2 : Value}
    (B : Below A₀ base outer h₀) (F : Fr h₀ L s.heap m) (N : News h₀ L s.heap news) (T : Top Mine.vw (looseW Mine.vw [Str.ofString "_tuplegetter", Str.ofString "LinearRegression", Str.ofString "linear_regression", Str.ofString "covariance"]) mean mg mb h₀) (hk : cs.kind = .function) (hd : dp + 5 < recursionLimit) (hu : un + 40 < cLine)
    (ht : (t, lrObj 180 dx v1 v2) ∈ news) (hdx : (dx, emptyDict) ∈ news) (hv : handedOut v1 = pure v1)
    (h : ∀ h' tk, Fr h₀ L h' m → News h₀ L h' news → Q v1 { s with heap := h', toks := tk }) :
    (Mine.hd.heap_39 w.params).In h₀ → wpAny (model PySem.Challenge.rw_kq0023_05.row.prog w) (ktrTop dp un gd cn cs L a ccd cl outer) (getAttr (.ref t) (Str.ofString "slope") true) Q E s := by
  k_fill
  intro X
  have I : InstAt s.heap t (lrObj 180 dx v1 v2) 180 (some emptyDict) := ⟨(N _ ht).1, rfl, rfl, (N _ hdx).1⟩
  refine' own_attr (g := 71) (a := 172) (X.keeps F.keep) I ?k1 ?k2 ?k3 ?k4 ?_
  case k1 => k_is
  case k2 => k_is
  case k3 =>
    refine' findObj_data ?a ?b ?c ?d
    case a => (refine' have_eq (x := (Mine.hd.heap_39 w.params).lookup 180) ?e ?k; (case e => k_is); exact cls_some)
    case b => k_is
    case c => k_is
    case d => k_is
  case k4 => k_is
  refine wpAny_call ?_
  refine' code_def ?k1 ?k2 ?k3 ?k4 ?k5 ?kA ?kF ?kK ?k6 ?k7 ?k8 ?k9 ?kB ?_ ?c2 ?c3 ?c4 ?c5; (case kA => exact rfl); (case kF => exact rfl); (case kK => exact hk); (case k1 => k_asm); (case k2 => k_asm); (case k3 => k_asm); (case k4 => k_asm); (case k5 => k_asm); (case k6 => k_is); (case k7 => k_is); (case k8 => ktr_room); (case k9 => first | exact binds_K (by k_in) rfl (by k_is) rfl rfl rfl | exact BindsTo.of_eq rfl); (case kB => exact locs rfl); (case c2 => exact rfl); (case c3 => exact rfl); (case c4 => exact rfl); (case c5 => decide)
  intro g' L' h' FG' F' N' B' X' T'
  (try dsimp only)
  (try k_fold)
  k_steps
  all_goals (try k_data)
  show wpAny _ _ (handedOut v1) _ _ _
  rw [hv]
  refine wpAny_pure (h _ _ ?_ ?_)
  · assumption
  · assumption
end Mine
end

section
open PySem PySem.W PySem.Calls PyProof.Rows PySem.Spec
set_option maxRecDepth 100000
set_option maxHeartbeats 1000000
namespace Mine
section
variable {prog : Program} {w : World} {A₀ : Around} {E : Value → Shared → Prop} {s' : Shared} {g G : Heap} {L e t C : Addr} {m : Str → Option Value} {env : Env}
  {vs : List Value} {b₀ : Stmt} {suite : List Stmt} {pos np : Pos} {rest : List ExceptHandler} {Q : Flow → Shared → Prop} {news : List (Addr × Obj)} {KF : Frag} {x : Str}
end
end Mine
end

section
open PySem PySem.W PySem.Calls PyProof.Rows PySem.Spec
set_option maxRecDepth 100000
set_option maxHeartbeats 1000000
namespace Mine
theorem fresh_any {g G B : Heap} {outer : List Env} {env : Env} {L b : Addr} {m : Str → Option Value} (F : Fr g L G m) (hf : env.frame = some L) (hBG : ∀ b o, G.get? b = some o → b ∉ (env :: outer).filterMap (·.frame) → B.get? b = some o) (hb : B.get? b = none)
    (hnf : ∀ o, g.get? b = some o → b ∈ outer.filterMap (·.frame) → False) : g.get? b = none := by
  cases q : g.get? b with
  | none => rfl
  | some o =>
    by_cases hm : b ∈ outer.filterMap (·.frame)
    · exact (hnf o q hm).elim
    · have := hBG b o (F.keep b o q) (fun hm' => by
        rcases mem_any hf hm' with z | z
        · rw [z, kts_self F] at q
          cases q
        · exact hm z)
      rw [hb] at this
      cases this
section
variable {prog : Program} {w : World} {A₀ : Around} {E : Value → Shared → Prop} {s' : Shared} {base g g₀ G : Heap} {outer : List Env} {L e t C : Addr} {m : Str → Option Value} {env : Env}
  {vs : List Value} {n : Str} {b₀ : Stmt} {suite : List Stmt} {pos np : Pos} {rest : List ExceptHandler} {Q : Flow → Shared → Prop} {news : List (Addr × Obj)} {KF : Frag}
  {p : Program} {loose : List Str} {mean : ExcName → Option Value} {mg mb : Str → Option Value} {x : Str}
/-- an exception of the program's own class is caught by its name and bound, in any frame -/
theorem caught_as (R : RaisedS base G (env :: outer) e (.ref C) t vs news s'.heap) (F : Fr g L G m) (K : Below A₀ base outer g) (hsm : G.UpToSlots s'.heap) (hf : env.frame = some L) (XB : KF.In base) (TB : Top p loose mean mg mb base)
    (D : KtsDicts (outer.filterMap (·.frame)) g) (T0 : KtsTurn (outer.filterMap (·.frame)) g₀ g) (q : ktsIn KF C "BaseException" = true)
    (hname : ∀ (A : Around) (s : Shared) (E Q : Value → Shared → Prop) (g : Heap), Fr g L s.heap m → KF.In g → TopRead p loose mg mb g → Q (.ref C) s → wpAny (model prog w) A (eval (.Name x np) env) Q E s)
    (hlo : env.kindOf n = some .local) (hp : (env.scope.kind == .class || (env.scope.kind == .module && env.locals != env.globals)) = false) (hel : env.locals = L)
    (k : ∀ h' g' news₂ tk, KtsTurn (outer.filterMap (·.frame)) g₀ g' → Fr g' L h' (fun y => if y = n then some (.ref e) else m y) → News g' L h' news₂ → Got news₂ e t (.ref C) vs → News g' L h' news → Below A₀ base outer g' → KF.In g' → Top p loose mean mg mb g' → KtsDicts (outer.filterMap (·.frame)) g' →
      wpAny (model prog w) ((A₀.deeper env).mark (some (.ref e))) (execs (b₀ :: suite) env)
        (fun f s₄ => wpAny (model prog w) (A₀.deeper env) (do bindName env n .none; unbindBehindTheSuite env n pos) (fun _ s₅ => Q f s₅) E s₄)
        (AsSuiteRaised (model prog w) ((A₀.deeper env).mark (some (.ref e))) env n pos (notedBy (model prog w) ((A₀.deeper env).mark (some (.ref e))) env (cameBackBy (model prog w) (A₀.deeper env) env E)))
        { s' with heap := h', toks := tk }) :
    wpAny (model prog w) (A₀.deeper env) (noteFrame (.ref e) env)
      (fun _ s₂ => wpAny (model prog w) (A₀.deeper env) (setFlight (.ref e) none) (fun _ s₃ =>
        wpAny (model prog w) (A₀.deeper env) (handleBy (.ref e) env (.ExceptHandler (some (.Name x np)) (some n) (b₀ :: suite) pos :: rest)) Q E s₃) E s₂) E s' := by
  obtain ⟨⟨B, hB, hBG, hl, hfl, hnew⟩, htup⟩ := R
  have hL : B.get? L = none := by
    obtain ⟨_, ⟨L', _, hf', hn', _⟩, _⟩ := hfl.2.2.1
    obtain rfl : L = L' := Option.some.inj (hf.symm.trans hf')
    exact hn'
  refine wpAny_looks_onW (Around.frames_deeper K.stack) hf hfl fun h₄ hheld₄ hsm₄ => ?_
  refine wpAny_landsW hheld₄ fun h₅ hheld hsm₅' => ?_
  have hsm₅ := hsm₄.trans hsm₅'
  obtain ⟨g₅, T₅, F₅, K₅⟩ := ground_any K F hf hBG hheld.1 (hsm.trans hsm₅)
  have X₅ : KF.In g₅ := XB.keeps K₅.stays
  have P₅ : TopRead p loose mg mb g₅ := topRead_of (TB.keeps K₅.stays)
  obtain ⟨ob, hob, hobc⟩ := hheld.there
  obtain ⟨nm, q', N, bs, bm, hdct, sn, sub, ab, col, dd, k0, k1, k2, k3, k5, newId, hC, hbase, hbT⟩ := kts_cls X₅ q
  have hC₅ := F₅.keep _ _ hC
  refine wpAny_handleBy_cons (codeAny_handlers_test (hname _ _ _ _ _ F₅ X₅ P₅ ?_)) (by intro q; cases q)
  refine wpAny_excMatches_sub_self hC₅ hob hobc hbase (codeAny_handlers_suite_as ?_)
  refine lands_againW hheld fun h₆ hfl₆ hsm₆ => ?_
  obtain ⟨g₆, T₆, F₆, K₆⟩ := ground_any K F hf hBG hfl₆.1 ((hsm.trans hsm₅).trans hsm₆)
  obtain ⟨oe, ws, hoe, hoec, hoed, hoe0⟩ := hfl₆.first
  obtain ⟨ot, nt, hot, hotc, hotd⟩ := (htup.of_slots hsm₅).of_slots hsm₆
  have ne₆ : g₆.get? e = none := T₆.none_ _ (fresh_any F hf hBG hfl₆.2.1 fun o ho m => by
    obtain ⟨_, o', ho', hd⟩ := K.frames.mem m
    rw [ho] at ho'
    cases ho'
    obtain ⟨sl, hs⟩ := ((hsm.trans hsm₅).trans hsm₆) _ _ (F.keep _ _ ho) hd
    rw [hoe] at hs
    cases hs
    exact hd _ hoed)
  have nt₆ : g₆.get? t = none := T₆.none_ _ (fresh_any F hf hBG hnew fun o ho m => by
    obtain ⟨o', es, n', ho', hd⟩ := D _ m
    rw [ho] at ho'
    cases ho'
    obtain ⟨sl, hs⟩ := ((hsm.trans hsm₅).trans hsm₆) _ _ (F.keep _ _ ho) (fun vs q => by rw [hd] at q; cases q)
    rw [hot] at hs
    cases hs
    have z := hd.symm.trans hotd
    cases z)
  have N₆ := News.more F₆ (News.more F₆ News.nil hot (fun es n q => by rw [hotd] at q; cases q) nt₆) hoe (fun es n q => by rw [hoed] at q; cases q) ne₆
  have Nl : News g₆ L h₆ news := fun q hq => ⟨hfl₆.1 _ _ (hl q hq).1, (fun z => by have := (hl q hq).1; rw [z, hL] at this; cases this), T₆.none_ _ (kts_none F.keep (hl q hq).2.1)⟩
  have X₆ : KF.In g₆ := XB.keeps K₆.stays
  have P₆ : Top p loose mean mg mb g₆ := TB.keeps K₆.stays
  have D₆ : KtsDicts (outer.filterMap (·.frame)) g₆ := D.turn T₆
  refine wpAny_storeName_local hlo (hel ▸ F₆.ns) (fun h₇ hn₇ hs₇ => ?_) hp
  have F₇ : Fr g₆ L h₇ (fun y => if y = n then some (.ref e) else m y) := F₆.set (hel ▸ hn₇) (hel ▸ hs₇)
  have N₇ : News g₆ L h₇ (_ ++ news) := News.set (fun q hq => (List.mem_append.mp hq).elim (N₆ q) (Nl q)) (hel ▸ hs₇)
  exact k h₇ g₆ _ _ (T0.trans T₆) F₇ (fun q hq => N₇ q (List.mem_append_left _ hq)) ⟨oe, ot, ws, nt, .head _, .tail _ (.head _), hoec, hoed, hoe0, hotc, hotd⟩ (fun q hq => N₇ q (List.mem_append_right _ hq)) K₆ X₆ P₆ D₆
end
section
variable {M : Model} {A : Around} {E : Value → Shared → Prop} {s : Shared} {cn : Str} {cs : Scope} {L a : Addr} {cd : Value} {h₀ : Heap} {m : Str → Option Value} {news : List (Addr × Obj)}
theorem name_goes_any {n : Str} {pos : Pos} {Q : Unit → Shared → Prop} (F : Fr h₀ L s.heap m) (N : News h₀ L s.heap news)
    (h : ∀ h' v, Fr h₀ L h' (fun x => if x = n then v else m x) → News h₀ L h' news → Q () { s with heap := h', toks := s.toks + 1 })
    (hl : (envOfC cn cs L a cd).kindOf n = some .local) (hk : cs.kind = .function) :
    wpAny M A (do bindName (envOfC cn cs L a cd) n .none; unbindBehindTheSuite (envOfC cn cs L a cd) n pos) Q E s :=
  wpAny_nameGoes_keeps (env := envOfC cn cs L a cd) hl F.ns (by show (cs.kind == .class || (cs.kind == .module && L != mainGlobals)) = false; rw [hk]; rfl) fun h' v hn hs => h h' v (F.set hn hs) (N.set hs)
end
end Mine
end

section
open PySem PySem.W PySem.Calls PyProof.Rows
set_option maxRecDepth 100000
set_option maxHeartbeats 2000000
namespace Mine
theorem zz_HL3a : True := by
  w_top off
  k_with_none
  trivial
def StopN (P : Prop) : Prop := P
theorem stopN_ {P : Prop} (h : StopN P) : P := h
theorem zz_HL3a_9 : True := by
  k_with "my execs cons" =>
    ((with_reducible show wpAny _ _ (execs (Stmt.Assign [Expr.Name (PySem.Str.ofString "whole") _] _ _ :: _) _) _ _ _); refine stopN_ ?_)
  k_with "my exec Try cons cons nil nil" =>
    (k_here; (refine wpAny_Try_except ?_); (try dsimp only))
  trivial
local macro_rules | `(tactic| k_all) => `(tactic| assumption)
local macro_rules | `(tactic| k_ne) => `(tactic| ((show @Ne Nat _ 186); first | (show @Ne Nat 107 186; decide) | ((rename News _ _ _ _ => nU); first | exact ne_data (P := 186) nU (by k_mem) (by k_mem) (by intro e; cases e) | exact ne_cls (P := 186) nU (by k_mem) (by k_mem) (by assumption) | exact ne_cell (P := 186) nU (by k_mem) (by k_mem) (by assumption))))
theorem zz_HL3a_10 : True := by
  k_with "my call ref cons" =>
    (k_here; (with_reducible show wpAny _ _ (call (Value.ref 189) _ _) _ _ _); k_dflt (refine' lr_u ?zz80B ?zz80F ?zz80N ?zz80U ?zz80hT ?zz80T ?zz80hk ?zz80hd ?zz80hu ?zz80hx ?zz80hy ?zz80hxl ?zz80hyl ?zz80hlen ?zz80hn2 ?zz80hn ?zz80h200 ?zz80K ?zz80D ?zz80hgs ?_ ?zz80X; (case zz80X => k_asm); (case zz80B => assumption); (case zz80F => k_asm); (case zz80N => k_asm); (case zz80U => k_updF); (case zz80hT => assumption); (case zz80T => assumption); (case zz80hk => rfl); (case zz80hd => ktr_room); (case zz80hu => ktr_units); (case zz80hx => k_mem); (case zz80hy => k_mem); (case zz80hxl => omega); (case zz80hyl => omega); (case zz80hlen => omega); (case zz80hn2 => omega); (case zz80K => assumption); (case zz80D => assumption); (case zz80hn => assumption); (case zz80h200 => omega); (case zz80hgs => assumption); k_whole; intro tzz80' dxzz80' hzz80' tkzz80' gszz80' r1zz80' t1zz80' v2zz80' pszz80' hTzz80' Fzz80' Nzz80' l2zz80' qzz80' hbzz80'; (try dsimp only at Nzz80')))
  k_with "my getAttr ref" =>
    (k_here; ((with_reducible show wpAny _ _ (getAttr (Value.ref _) (PySem.Str.ofString "slope") _) _ _ _); k_dflt (refine' get_slope ?zz81B ?zz81F ?zz81N ?zz81T ?zz81hk ?zz81hd ?zz81hu ?zz81ht ?zz81hdx ?zz81hv ?_ ?zz81X; (case zz81X => assumption); (case zz81B => assumption); (case zz81F => k_asm); (case zz81N => k_asm); (case zz81T => assumption); (case zz81hk => rfl); (case zz81hd => first | ktr_room | decide); (case zz81hu => first | ktr_units | decide); (case zz81ht => k_mem); (case zz81hdx => k_mem); (case zz81hv => exact rfl); k_whole; intro hzz81' tkzz81' Fzz81' Nzz81')))
  k_with "my binaryOp Div int int" =>
    (k_here; k_dflt ((refine' div_slope ?zz82A ?zz82D ?zz82h ?_; (case zz82A => rfl); (case zz82D => assumption); (case zz82h => assumption)); intro rzz82' tzz82' qzz82'))
  k_with "my compareOp Eq float float" =>
    (k_here; k_dflt (refine' eq_slope ?zz83K ?zz83q1 ?zz83q2 ?_; (case zz83q1 => assumption); (case zz83q2 => assumption); (case zz83K => assumption); k_whole))
  trivial
theorem h3a {w : World} {dp un : Nat} {gd : Option (List Code)} {cn : Str} {cs : Scope} {a : Addr} {ccd : Value} {cl : List (Str × Addr)} {base g : Heap} {L0 L : Addr} {m : Str → Option Value} {s : Shared} {Q : Flow → Shared → Prop} {R1 R2 : Value → Shared → Prop}
    {mean : ExcName → Option Value} {mg mb : Str → Option Value} {news : List (Addr × Obj)} {pc ps : Array Value} {ax ay aU aV : Addr} {zu zv : List Value} {n : Nat} {far xy xx : Int} {tf tn t1 t2 : Tok} {oF : Obj}
    (B : Below (ktrTop dp un gd cn cs L0 a ccd cl []) base [envX cn cs L0 a ccd cl] g) (F : Fr g L s.heap (fun z => if z = Str.ofString "us" then some (.ref aU) else if z = Str.ofString "vs" then some (.ref aV) else if z = Str.ofString "xs" then some (.ref ax) else if z = Str.ofString "ys" then some (.ref ay) else if z = Str.ofString "n" then some (.int (n : Int) tn) else if z = Str.ofString "xy" then some (.int xy t1) else if z = Str.ofString "xx" then some (.int xx t2) else m z)) (N : News g L s.heap ((aV, LCg.lst zv) :: (aU, LCg.lst zu) :: (L + 1, oF) :: (107, tabObj pc) :: (186, tabObj ps) :: news)) (dF : oF.data = .cell (some (.int far tf))) (T : Top Mine.vw (looseW Mine.vw [Str.ofString "_tuplegetter", Str.ofString "LinearRegression", Str.ofString "linear_regression", Str.ofString "covariance"]) mean mg mb g) (XB : (Mine.hd.heap_39 w.params).In base) (TB : Top Mine.vw (looseW Mine.vw [Str.ofString "_tuplegetter", Str.ofString "LinearRegression", Str.ofString "linear_regression", Str.ofString "covariance"]) mean mg mb base) (D0 : KtsDicts (List.filterMap (·.frame) [envX cn cs L0 a ccd cl]) g)
    (h9 : ∀ p ∈ news, p.1 ≠ 186) (hT : TabOk ps) (hd : dp + 9 < recursionLimit) (hu : un + 60 < cLine) (hgs : AllBare s.gens) (lu : zu.length = n) (lv : zv.length = n) (n2 : 2 ≤ n) (n16 : n ≤ 16)
    {U V : List Int} {Xb Yb : Int} {pr qr : Nat → Int} (K1 : FullOk zu zv U V n Xb Yb pr qr) (D : preSum qr n ≠ 0) (hxx : xx ≠ 0) (SE : SlopeEq (preSum pr n) (preSum qr n) xy xx) (y1 : Tny (8 * xy))
    (hQ : ∀ h' tk m' gs' ps' g', KtsTurn (List.filterMap (·.frame) [envX cn cs L0 a ccd cl]) g g' → Fr g' L h' m' → News g' L h' ((aV, LCg.lst zv) :: (aU, LCg.lst zu) :: (L + 1, oF) :: (107, tabObj pc) :: (186, tabObj ps') :: news) → TabOk ps' → AllBare gs' → Below (ktrTop dp un gd cn cs L0 a ccd cl []) base [envX cn cs L0 a ccd cl] g' → (Mine.hd.heap_39 w.params).In g' → Top Mine.vw (looseW Mine.vw [Str.ofString "_tuplegetter", Str.ofString "LinearRegression", Str.ofString "linear_regression", Str.ofString "covariance"]) mean mg mb g' → KtsDicts (List.filterMap (·.frame) [envX cn cs L0 a ccd cl]) g' → m' (Str.ofString "us") = some (.ref aU) → m' (Str.ofString "vs") = some (.ref aV) → m' (Str.ofString "xs") = some (.ref ax) → m' (Str.ofString "ys") = some (.ref ay) → m' (Str.ofString "right") = some (.bool true) →
      wpAny (model PySem.Challenge.rw_kq0023_05.row.prog w) ((ktrTop dp un gd cn cs L0 a ccd cl []).deeper (envOfC (Str.ofString "_law_holds") hoScope L 208 (Value.ref 207))) (execs (hoRest 3) (envOfC (Str.ofString "_law_holds") hoScope L 208 (Value.ref 207))) Q (fun e s' => wpAny (model PySem.Challenge.rw_kq0023_05.row.prog w) ((ktrTop dp un gd cn cs L0 a ccd cl []).deeper (envOfC (Str.ofString "_law_holds") hoScope L 208 (Value.ref 207))) (leaving (envOfC (Str.ofString "_law_holds") hoScope L 208 (Value.ref 207)) e) (fun _ s'' => R1 e s'') (fun e' s'' => R2 e' s'') s') ⟨h', gs', s.drawn, tk, s.os⟩) :
    (Mine.hd.heap_39 w.params).In g → wpAny (model PySem.Challenge.rw_kq0023_05.row.prog w) ((ktrTop dp un gd cn cs L0 a ccd cl []).deeper (envOfC (Str.ofString "_law_holds") hoScope L 208 (Value.ref 207))) (execs (hoRest 2) (envOfC (Str.ofString "_law_holds") hoScope L 208 (Value.ref 207))) Q (fun e s' => wpAny (model PySem.Challenge.rw_kq0023_05.row.prog w) ((ktrTop dp un gd cn cs L0 a ccd cl []).deeper (envOfC (Str.ofString "_law_holds") hoScope L 208 (Value.ref 207))) (leaving (envOfC (Str.ofString "_law_holds") hoScope L 208 (Value.ref 207)) e) (fun _ s'' => R1 e s'') (fun e' s'' => R2 e' s'') s') s := by
  k_fill
  intro X
  dsimp only [hoRest, hoScope, hoFn, fnScope, fnBody, PySem.Challenge.pw_kq0023_05, List.getLastD, List.getLast, List.drop, List.dropLast]
  k_steps
  all_goals (try k_data)
  all_goals (try exact absurd (by assumption) hxx)
  unfold StopN
  rename News _ _ _ _ => NN
  rename Fr _ _ _ _ => FF
  exact hQ _ _ _ _ _ _ KtsTurn.refl FF (fun q hq => NN q (.tail _ (.tail _ hq))) (by assumption) (by assumption) B X T D0 rfl rfl rfl rfl rfl
end Mine
end

section
open PySem PySem.W PySem.Calls PyProof.Rows
set_option maxRecDepth 100000
set_option maxHeartbeats 2000000
namespace Mine
theorem zz_HL3b : True := by
  w_top off
  k_with_none
  trivial
def StopP (P : Prop) : Prop := P
theorem stopP_ {P : Prop} (h : StopP P) : P := h
theorem zz_HL3b_11 : True := by
  k_with "my execs cons" =>
    ((with_reducible show wpAny _ _ (execs (Stmt.Assign [Expr.Name (PySem.Str.ofString "whole") _] _ _ :: _) _) _ _ _); refine stopP_ ?_)
  k_with "my exec Try cons cons nil nil" =>
    (k_here; (refine wpAny_Try_except ?_); (try dsimp only))
  trivial
local macro_rules | `(tactic| k_all) => `(tactic| assumption)
local macro_rules | `(tactic| k_ne) => `(tactic| ((show @Ne Nat _ 186); first | (show @Ne Nat 107 186; decide) | ((rename News _ _ _ _ => nU); first | exact ne_data (P := 186) nU (by k_mem) (by k_mem) (by intro e; cases e) | exact ne_cls (P := 186) nU (by k_mem) (by k_mem) (by assumption) | exact ne_cell (P := 186) nU (by k_mem) (by k_mem) (by assumption))))
theorem zz_HL3b_12 : True := by
  k_with "my call ref cons" =>
    (k_here; (with_reducible show wpAny _ _ (call (Value.ref 189) _ _) _ _ _); k_dflt (refine' fl_u ?zz86B ?zz86F ?zz86N ?zz86U ?zz86hT ?zz86T ?zz86hk ?zz86hd ?zz86hu ?zz86hx ?zz86hy ?zz86hxl ?zz86hyl ?zz86hlen ?zz86hn2 ?zz86hn ?zz86h200 ?zz86K ?zz86Z ?zz86hgs ?zz86XB ?zz86TB ?_ ?zz86X; (case zz86X => k_asm); (case zz86B => assumption); (case zz86F => k_asm); (case zz86N => k_asm); (case zz86U => k_updF); (case zz86hT => assumption); (case zz86T => assumption); (case zz86hk => rfl); (case zz86hd => ktr_room); (case zz86hu => ktr_units); (case zz86hx => k_mem); (case zz86hy => k_mem); (case zz86hxl => omega); (case zz86hyl => omega); (case zz86hlen => omega); (case zz86hn2 => omega); (case zz86K => assumption); (case zz86Z => assumption); (case zz86hn => assumption); (case zz86h200 => omega); (case zz86hgs => assumption); (case zz86XB => assumption); (case zz86TB => assumption); k_whole; intro ezz86' tzz86' gzz86' hzz86' tkzz86' tk2zz86' gszz86' pszz86' hTzz86' FGzz86' Rzz86' Uzz86' hbzz86'))
  k_with "my call type:str" =>
    (k_here; (with_reducible show wpAny _ _ (call (Value.type "str") [Value.ref _]) _ _ _); k_dflt (refine' str_got ?zz87F ?zz87X ?zz87N ?zz87G ?zz87U ?zz87hs ?zz87hm ?_; (case zz87G => assumption); (case zz87N => assumption); (case zz87F => k_asm); (case zz87X => k_asm); (case zz87hs => k_is); (case zz87hm => k_is); (case zz87U => ktr_units); k_whole))
  k_with "my noteFrame ref" =>
    (k_here; (with_reducible show wpAny _ _ (noteFrame _ (envOfC _ _ _ _ _)) _ _ _); k_dflt (refine' caught_as ?zz88R ?zz88F ?zz88K ?zz88sm ?zz88hf ?zz88XB ?zz88TB ?zz88D ?zz88T0 ?zz88q ?zz88hn ?zz88hlo ?zz88hp ?zz88hel ?_; (case zz88R => assumption); (case zz88F => assumption); (case zz88K => assumption); (case zz88sm => assumption); (case zz88hf => rfl); (case zz88XB => assumption); (case zz88TB => assumption); (case zz88D => assumption); (case zz88T0 => exact KtsTurn.refl); (case zz88q => kts_isx); (case zz88hn => (intro Azz88 szz88 Ezz88 Qzz88 gzz88 Fzz88 Xzz88 Pzz88 hzz88; exact nameX_K Fzz88 Xzz88 Pzz88 (by k_is) hzz88)); (case zz88hlo => rfl); (case zz88hp => rfl); (case zz88hel => rfl); k_whole; intro hzz88' gzz88' n₂ tkzz88' Tzz88' Fzz88' N₂ Gzz88' Nzz88' Kzz88' Xzz88' Pzz88' Dzz88'))
  k_with "my bind" =>
    (k_here; (with_reducible show wpAny _ _ (do bindName (envOfC _ _ _ _ _) _ Value.none; unbindBehindTheSuite (envOfC _ _ _ _ _) _ _) _ _ _); k_dflt (refine' name_goes_any ?zz89F ?zz89N ?_ ?zz89l ?zz89k; (case zz89F => k_asm); (case zz89N => k_asm); (case zz89l => rfl); (case zz89k => rfl)); intro hzz89' vzz89' Fzz89' Nzz89')
  trivial
theorem h3b {w : World} {dp un : Nat} {gd : Option (List Code)} {cn : Str} {cs : Scope} {a : Addr} {ccd : Value} {cl : List (Str × Addr)} {base g : Heap} {L0 L : Addr} {m : Str → Option Value} {s : Shared} {Q : Flow → Shared → Prop} {R1 R2 : Value → Shared → Prop}
    {mean : ExcName → Option Value} {mg mb : Str → Option Value} {news : List (Addr × Obj)} {pc ps : Array Value} {ax ay aU aV : Addr} {zu zv : List Value} {n : Nat} {far xy xx : Int} {tf tn t1 t2 : Tok} {oF : Obj}
    (B : Below (ktrTop dp un gd cn cs L0 a ccd cl []) base [envX cn cs L0 a ccd cl] g) (F : Fr g L s.heap (fun z => if z = Str.ofString "us" then some (.ref aU) else if z = Str.ofString "vs" then some (.ref aV) else if z = Str.ofString "xs" then some (.ref ax) else if z = Str.ofString "ys" then some (.ref ay) else if z = Str.ofString "n" then some (.int (n : Int) tn) else if z = Str.ofString "xy" then some (.int xy t1) else if z = Str.ofString "xx" then some (.int xx t2) else m z)) (N : News g L s.heap ((aV, LCg.lst zv) :: (aU, LCg.lst zu) :: (L + 1, oF) :: (107, tabObj pc) :: (186, tabObj ps) :: news)) (dF : oF.data = .cell (some (.int far tf))) (T : Top Mine.vw (looseW Mine.vw [Str.ofString "_tuplegetter", Str.ofString "LinearRegression", Str.ofString "linear_regression", Str.ofString "covariance"]) mean mg mb g) (XB : (Mine.hd.heap_39 w.params).In base) (TB : Top Mine.vw (looseW Mine.vw [Str.ofString "_tuplegetter", Str.ofString "LinearRegression", Str.ofString "linear_regression", Str.ofString "covariance"]) mean mg mb base) (D0 : KtsDicts (List.filterMap (·.frame) [envX cn cs L0 a ccd cl]) g)
    (h9 : ∀ p ∈ news, p.1 ≠ 186) (hT : TabOk ps) (hd : dp + 9 < recursionLimit) (hu : un + 60 < cLine) (hgs : AllBare s.gens) (lu : zu.length = n) (lv : zv.length = n) (n2 : 2 ≤ n) (n16 : n ≤ 16)
    {U V : List Int} {Xb Yb : Int} {pr qr : Nat → Int} (K1 : FullOk zu zv U V n Xb Yb pr qr) (Z : FlatEnd n qr) (hxx : xx = 0)
    (hQ : ∀ h' tk m' gs' ps' g', KtsTurn (List.filterMap (·.frame) [envX cn cs L0 a ccd cl]) g g' → Fr g' L h' m' → News g' L h' ((aV, LCg.lst zv) :: (aU, LCg.lst zu) :: (L + 1, oF) :: (107, tabObj pc) :: (186, tabObj ps') :: news) → TabOk ps' → AllBare gs' → Below (ktrTop dp un gd cn cs L0 a ccd cl []) base [envX cn cs L0 a ccd cl] g' → (Mine.hd.heap_39 w.params).In g' → Top Mine.vw (looseW Mine.vw [Str.ofString "_tuplegetter", Str.ofString "LinearRegression", Str.ofString "linear_regression", Str.ofString "covariance"]) mean mg mb g' → KtsDicts (List.filterMap (·.frame) [envX cn cs L0 a ccd cl]) g' → m' (Str.ofString "us") = some (.ref aU) → m' (Str.ofString "vs") = some (.ref aV) → m' (Str.ofString "xs") = some (.ref ax) → m' (Str.ofString "ys") = some (.ref ay) → m' (Str.ofString "right") = some (.bool true) →
      wpAny (model PySem.Challenge.rw_kq0023_05.row.prog w) ((ktrTop dp un gd cn cs L0 a ccd cl []).deeper (envOfC (Str.ofString "_law_holds") hoScope L 208 (Value.ref 207))) (execs (hoRest 3) (envOfC (Str.ofString "_law_holds") hoScope L 208 (Value.ref 207))) Q (fun e s' => wpAny (model PySem.Challenge.rw_kq0023_05.row.prog w) ((ktrTop dp un gd cn cs L0 a ccd cl []).deeper (envOfC (Str.ofString "_law_holds") hoScope L 208 (Value.ref 207))) (leaving (envOfC (Str.ofString "_law_holds") hoScope L 208 (Value.ref 207)) e) (fun _ s'' => R1 e s'') (fun e' s'' => R2 e' s'') s') ⟨h', gs', s.drawn, tk, s.os⟩) :
    (Mine.hd.heap_39 w.params).In g → wpAny (model PySem.Challenge.rw_kq0023_05.row.prog w) ((ktrTop dp un gd cn cs L0 a ccd cl []).deeper (envOfC (Str.ofString "_law_holds") hoScope L 208 (Value.ref 207))) (execs (hoRest 2) (envOfC (Str.ofString "_law_holds") hoScope L 208 (Value.ref 207))) Q (fun e s' => wpAny (model PySem.Challenge.rw_kq0023_05.row.prog w) ((ktrTop dp un gd cn cs L0 a ccd cl []).deeper (envOfC (Str.ofString "_law_holds") hoScope L 208 (Value.ref 207))) (leaving (envOfC (Str.ofString "_law_holds") hoScope L 208 (Value.ref 207)) e) (fun _ s'' => R1 e s'') (fun e' s'' => R2 e' s'') s') s := by
  k_fill
  intro X
  dsimp only [hoRest, hoScope, hoFn, fnScope, fnBody, PySem.Challenge.pw_kq0023_05, List.getLastD, List.getLast, List.drop, List.dropLast]
  k_steps
  all_goals (try k_data)
  all_goals (try exact absurd hxx (by assumption))
  all_goals unfold StopP
  all_goals (rename News _ _ _ _ => NN; rename Fr _ _ _ _ => FF)
  all_goals (rename Below _ _ _ _ => BB; rename KtsDicts _ _ => DD; rename KtsTurn _ _ _ => TT; rename Top _ _ _ _ _ _ => TP)
  all_goals exact hQ _ _ _ _ _ _ TT FF NN (by assumption) (by assumption) BB (by assumption) TP DD rfl rfl rfl rfl rfl
end Mine
end

section
open PySem PySem.W PySem.Calls PyProof.Rows PySem.Spec PySem.Builtin
set_option maxRecDepth 100000
set_option maxHeartbeats 1000000
namespace Mine
/-- an object that holds a row of values, whatever its class -/
def Holds (h : Heap) (t : Addr) (vs : Array Value) : Prop := ∃ o n, h.get? t = some o ∧ o.data = .seq vs n
def IsIt (h : Heap) (it t : Addr) (i : Nat) : Prop := ∃ o, h.get? it = some o ∧ o.cls = .type "tuple_iterator" ∧ o.data = .fields #[.ref t, .int i 0]
section
variable {prog : Program} {w : World} {A : Around} {E : Value → Shared → Prop} {s : Shared} {K : Frag} {C t it : Addr} {o : Obj} {vs : Array Value} {i : Nat}
end
section
variable {prog : Program} {w : World} {A : Around} {E : Value → Shared → Prop} {s : Shared} {K : Frag} {C t dx : Addr} {v1 v2 : Value} {h₀ : Heap} {L : Addr} {m : PySem.Str → Option Value} {news : List (Addr × Obj)} {o : Obj} {n : Nat}
end
end Mine
end

section
open PySem PySem.W PySem.Calls PyProof.Rows PySem.Spec PySem.Builtin
set_option maxRecDepth 100000
set_option maxHeartbeats 1000000
namespace Mine
section
variable {prog : Program} {w : World} {A : Around} {E : Value → Shared → Prop} {s : Shared} {K : Frag} {C t it : Addr} {o : Obj} {vs : Array Value} {n : Nat}
end
end Mine
end

section
open PySem PySem.W PySem.Calls PyProof.Rows PySem.Spec LCg LCt
set_option maxRecDepth 100000
set_option maxHeartbeats 1000000
namespace Mine
def DropEnd (h₀ : Heap) (L : Addr) (m : Str → Option Value) (s : Shared) (all : List (Addr × Obj)) (ok : Bool) (s' : Shared) : Prop :=
  ok = false ∧ ∃ h' tk', s' = { s with heap := h', toks := tk' } ∧ Fr h₀ L h' m ∧ News h₀ L h' all
section
variable {prog : Program} {w : World} {A : Around} {E : Value → Shared → Prop} {s : Shared} {K : Frag} {C₀ : Addr} {h₀ : Heap} {L : Addr} {m : Str → Option Value} {env : Env} {ct elt iter : Expr} {x : Str} {px pos : Pos} {scope : Scope} {cl : List (Str × Addr)}
/-- what the source of a comprehension over an own pair of floats, all of whose members are passed over, must be -/
def DropSrc (prog : Program) (w : World) (A : Around) (K : Frag) (C₀ : Addr) (h₀ : Heap) (L : Addr) (m : Str → Option Value) (env : Env) (ct : Expr) (x : Str) (scope : Scope) (cl : List (Str × Addr)) (Q : Value → Shared → Prop) (xv : Value) (s₁ : Shared) : Prop :=
  ∃ (t : Addr) (o : Obj) (news : List (Addr × Obj)) (r1 r2 : UInt64) (t1 t2 : Tok) (n : Nat), xv = .ref t ∧ A.handled = none ∧ Fr h₀ L s₁.heap m ∧ News h₀ L s₁.heap news ∧ (t, o) ∈ news ∧ o.cls = .ref C₀ ∧ o.data = .seq #[.float r1 t1, .float r2 t2] n ∧
    (∀ r tr I oI C oC D m₂ h tk (E' : Value → Shared → Prop), NsObj oC m₂ → m₂ x = some (.float r tr) → Fr h₀ L h m → News h₀ L h ((I, oI) :: (C, oC) :: (D, lst []) :: news) → Off3 I C D news → ((@Ne Nat I C) ∧ (@Ne Nat I D) ∧ (@Ne Nat C D)) →
      wpAny (model prog w) A (isTrue ct (compEnvC scope cl C env) (eval ct (compEnvC scope cl C env))) (DropEnd h₀ L m ⟨h, s₁.gens, s₁.drawn, tk, s₁.os⟩ ((I, oI) :: (C, oC) :: (D, lst []) :: news)) E' ⟨h, s₁.gens, s₁.drawn, tk, s₁.os⟩) ∧
    (∀ D h tk, Fr h₀ L h m → News h₀ L h ((D, lst []) :: news) → Off1 D news → Q (.ref D) ⟨h, s₁.gens, s₁.drawn, tk, s₁.os⟩)
end
end Mine
end

section
open PySem PySem.W PySem.Calls PyProof.Rows PySem.Spec LCg LCt
set_option maxRecDepth 100000
set_option maxHeartbeats 1000000
namespace Mine
section
variable {prog : Program} {w : World} {A : Around} {s₁ : Shared} {h₀ : Heap} {L : Addr} {m : Str → Option Value} {env : Env} {ct elt : Expr} {x : Str} {scope : Scope} {cl : List (Str × Addr)} {Fin : Shared → List Value → List (Addr × Obj) → Prop} {news : List (Addr × Obj)} {vs : List Int} {ys : List Value} {ay : Addr} {c : Nat}
/-- a comprehension over ints all of which are passed over -/
theorem src_pass (hh : A.handled = none) (F : Fr h₀ L s₁.heap m) (N : News h₀ L s₁.heap news) (hm : (ay, listOf ys.toArray c) ∈ news) (hl : IntsAre ys vs) (h2 : ys.length < 200)
    (turn : ∀ (k : Int) t I oI C oC D h tk m₂ (E' : Value → Shared → Prop), NsObj oC m₂ → m₂ x = some (.int k t) → Fr h₀ L h m → News h₀ L h ((I, oI) :: (C, oC) :: (D, lst []) :: news) → Off3 I C D news → ((@Ne Nat I C) ∧ (@Ne Nat I D) ∧ (@Ne Nat C D)) →
      wpAny (model prog w) A (isTrue ct (compEnvC scope cl C env) (eval ct (compEnvC scope cl C env))) (DropEnd h₀ L m ⟨h, s₁.gens, s₁.drawn, tk, s₁.os⟩ ((I, oI) :: (C, oC) :: (D, lst []) :: news)) E' ⟨h, s₁.gens, s₁.drawn, tk, s₁.os⟩)
    (fin : ∀ g, Fin ⟨g, s₁.gens, s₁.drawn, s₁.toks, s₁.os⟩ [] news) :
    CompSrcT prog w A h₀ L m env ct elt x scope cl Fin (.ref ay) s₁ := by
  refine CompSrcT.ledger hh F N hm (by rw [List.size_toArray]; exact rng_line h2) fun g => ?_
  have step : ∀ (k i : Nat), k + i = ys.length → CompRestT prog w A h₀ L m env ct elt x scope cl ⟨g, s₁.gens, s₁.drawn, s₁.toks, s₁.os⟩ (SrcAt h₀ ay ys.toArray) (fun i v => ys.toArray[i]? = some v) (Fin ⟨g, s₁.gens, s₁.drawn, s₁.toks, s₁.os⟩) k i [] news := by
    intro k
    induction k with
    | zero => exact fun i _ => CompRestT.zero (fin g)
    | succ k ih =>
      intro i hi
      refine CompRestT.succ fun v I oI C oC D m₂ h tk E' hv hC hx' F₂ N₂ off ne => ?_
      obtain ⟨n, t, rfl, _⟩ := hl.at i v (by simpa using hv)
      refine wpAny_mono (turn n t I oI C oC D h tk m₂ E' hC hx' F₂ N₂ off ne) (fun ok s' hq => ?_) fun _ _ e => e
      obtain ⟨rfl, h₃, tk₃, rfl, F₃, N₃⟩ := hq
      simp only [Bool.false_eq_true, if_false]
      exact CompEnd.intro F₃ N₃ news (fun p hp => hp) off (Or.inr ⟨_, hm, rfl, _, rfl⟩) (ih (i + 1) (by omega))
  have := step ys.toArray.size 0 (by simp)
  exact this
end
section
variable {prog : Program} {w : World} {A : Around} {E : Value → Shared → Prop} {s : Shared} {h₀ : Heap} {L la lb : Addr} {news : List (Addr × Obj)}
theorem eq_ints2 {zs ys : List Value} {us : List Int} {c d : Nat} {Q : Value → Shared → Prop} (N : News h₀ L s.heap news) (hA : A.units < cLine) (ha : (la, listOf zs.toArray c) ∈ news) (hb : (lb, listOf ys.toArray d) ∈ news)
    (h1 : IntsAre zs us) (h2 : IntsAre ys us) (h : Q (.bool true) s) : wpAny (model prog w) A (compareOp .Eq (.ref la) (.ref lb)) Q E s := by
  have l1 := h1.length
  have l2 := h2.length
  refine SeqAt.eq_listAt (e := fun _ => true) (N.isList ha) (N.isList hb) (by simp; omega) hA (fun j hj hj' => ?_) ?_
  · intro prog w E Q hq
    obtain ⟨n, t, e1, x1⟩ := h1.at j zs.toArray[j] (by simp at hj ⊢)
    obtain ⟨n', t', e2, x2⟩ := h2.at j ys.toArray[j] (by simp at hj' ⊢)
    rw [x1] at x2
    obtain rfl := Option.some.inj x2
    rw [e1, e2]
    have := MeetsSeq.EqGives.int n n t t'
    rw [beq_self_eq_true] at this
    exact this prog w _ E s Q hq
  · have e : ((List.range zs.toArray.size).all fun _ => true) = true := by rw [List.all_eq_true]; intros; rfl
    rw [e]; exact h
end
end Mine
end

section
open PySem PySem.W PySem.Calls PyProof.Rows
set_option maxRecDepth 100000
set_option maxHeartbeats 2000000
namespace Mine
theorem zz_HL4 : True := by
  w_top off
  k_with_none
  trivial
theorem zz_HL4_13 : True := by
  k_with "my eval ListComp" =>
    (k_here; (with_reducible show wpAny _ _ (eval (Expr.ListComp (Expr.BinOp _ _ _ _) _ _ _) _) _ _ _); k_dflt (refine LCg.ListComp_U (F₀ := by k_asm) (by with_unfolding_all rfl) (by decide) (by rfl) (by decide) (by rfl) ?_))
  k_with "my CompSrc" =>
    (k_here; k_dflt ((show LCg.CompSrc _ _ _ _ _ _ _ (Expr.BinOp (Expr.BinOp _ Operator.Div _ _) Operator.Add _ _) _ _ _ _ _ _); (refine' src_u ?zz91hh ?zz91F ?zz91N ?zz91hm ?zz91hl ?zz91hq ?zz91h2 (fun kzz91' tzz91' Izz91' oIzz91' Czz91' oCzz91' Dzz91' mzz91' yszz91' hzz91' tkzz91' Ezz91' hkzz91' hCzz91' hxzz91' Fzz91' Nzz91' offzz91' nezz91' => ?_) (fun gzz91' yszz91' hlzz91' hl2zz91' hIzz91' => ?_)); (case zz91hh => rfl); (case zz91F => k_asm); (case zz91N => k_asm); (case zz91hm => k_ownIn); (case zz91hl => assumption); (case zz91hq => assumption); (case zz91h2 => omega); (all_goals (try (simp only [LCg.Off3, and_true] at offzz91')))))
  k_with "my CompSrc" =>
    (k_here; k_dflt ((show LCg.CompSrc _ _ _ _ _ _ _ (Expr.BinOp (Expr.Name _ _) Operator.Add _ _) _ _ _ _ _ _); (refine' src_v ?zz92hF ?zz92hh ?zz92F ?zz92N ?zz92hm ?zz92hl ?zz92h2 (fun kzz92' tzz92' Izz92' oIzz92' Czz92' oCzz92' Dzz92' mzz92' yszz92' hzz92' tkzz92' Ezz92' hCzz92' hxzz92' Fzz92' Nzz92' offzz92' nezz92' => ?_) (fun gzz92' yszz92' hlzz92' hl2zz92' hIzz92' => ?_)); (case zz92hF => assumption); (case zz92hh => rfl); (case zz92F => k_asm); (case zz92N => k_asm); (case zz92hm => k_ownIn); (case zz92hl => assumption); (case zz92h2 => omega); (all_goals (try (simp only [LCg.Off3, and_true] at offzz92')))))
  k_with "my binaryOp Div int int" =>
    (k_here; k_dflt ((refine' div_8 ?zz93D ?zz93h ?_; (case zz93D => assumption); (case zz93h => rfl)); intro rzz93' tzz93' qzz93'))
  k_with "my binaryOp Add float int" =>
    (k_here; k_dflt ((refine' add_8 ?zz94D ?zz94h ?zz94p ?_; (case zz94D => assumption); (case zz94h => assumption); (case zz94p => exact Nat.succ_pos _)); intro rzz94' tzz94' qzz94' kzz94'))
  k_with "my CompEnd" =>
    (refine' compEnd_el ?zz95F ?zz95N ?zz95sub ?zz95off ?zz95S ?zz95r; (case zz95r => first | exact UsEl.mk ⟨_, _, rfl, by assumption, by assumption⟩ | exact ElF.mk ⟨_, rfl⟩); (case zz95F => assumption); (case zz95N => assumption); (case zz95sub => kcf_all); (case zz95off => first | assumption | (simp only [LCg.Off3, and_true]; done) | (simp only [LCg.Off3, and_true]; assumption)); (case zz95S => first | exact trivial | exact rfl | lcg_src | assumption | exact Or.inr ⟨_, by k_ownIn, rfl, _, rfl⟩))
  k_with "my eval ListComp" =>
    (k_here; (with_reducible show wpAny _ _ (eval (Expr.ListComp (Expr.Name _ _) _ _ _) _) _ _ _); k_dflt (refine LCt.ListComp_T (F₀ := by k_asm) (by with_unfolding_all rfl) (by decide) (by rfl) (by decide) (by rfl) ?_))
  k_with "my CompSrcT" =>
    (k_here; k_dflt ((refine' src_pass ?zz97hh ?zz97F ?zz97N ?zz97hm ?zz97hl ?zz97h2 (fun kzz97' tzz97' Izz97' oIzz97' Czz97' oCzz97' Dzz97' hzz97' tkzz97' mzz97' Ezz97' hCzz97' hxzz97' Fzz97' Nzz97' offzz97' nezz97' => ?_) (fun gzz97' => ?_)); (case zz97hh => rfl); (case zz97F => k_asm); (case zz97N => k_asm); (case zz97hm => k_mem); (case zz97hl => assumption); (case zz97h2 => omega); (all_goals (try (simp only [LCg.Off3, and_true] at offzz97')))))
  k_with "my DropEnd" =>
    exact ⟨rfl, _, _, rfl, by assumption, by assumption⟩
  k_with "my compareOp Eq ref ref" =>
    (k_here; k_dflt (first
  | (refine' eq_us ?zz99N ?zz99u ?zz99a ?zz99b ?zz99nb ?zz99r1 ?zz99r2 ?_; (case zz99N => k_asm); (case zz99a => k_mem); (case zz99b => k_mem); (case zz99r1 => assumption); (case zz99r2 => assumption); (case zz99u => first | ktr_units | decide); (case zz99nb => exact NoneBooked.keeps (by assumption) (Fr.keep (by k_asm))); k_whole)
  | (refine' eq_ints2 ?zz99N ?zz99u ?zz99a ?zz99b ?zz99r1 ?zz99r2 ?_; (case zz99N => k_asm); (case zz99a => k_mem); (case zz99b => k_mem); (case zz99r1 => assumption); (case zz99r2 => assumption); (case zz99u => first | ktr_units | decide); k_whole)
  | (refine' eq_same (vs := []) ?zz99N ?zz99u ?zz99a ?zz99b ?zz99s ?_; (case zz99N => k_asm); (case zz99a => k_mem); (case zz99b => k_mem); (case zz99u => first | ktr_units | decide); (case zz99s => (intro vzz99 hvzz99; cases hvzz99)); k_whole)))
  trivial
theorem h4 {w : World} {dp un : Nat} {gd : Option (List Code)} {cn : Str} {cs : Scope} {a : Addr} {ccd : Value} {cl : List (Str × Addr)} {base g : Heap} {L0 L : Addr} {m : Str → Option Value} {s : Shared} {Q : Flow → Shared → Prop} {R1 R2 : Value → Shared → Prop}
    {mean : ExcName → Option Value} {mg mb : Str → Option Value} {news : List (Addr × Obj)} {pc ps : Array Value} {ax ay aU aV : Addr} {zu zv zx zy : List Value} {xs ys : List Int} {cx cy n : Nat} {far : Int} {tf : Tok} {oF : Obj}
    (B : Below (ktrTop dp un gd cn cs L0 a ccd cl []) base [envX cn cs L0 a ccd cl] g) (F : Fr g L s.heap (fun z => if z = Str.ofString "us" then some (.ref aU) else if z = Str.ofString "vs" then some (.ref aV) else if z = Str.ofString "xs" then some (.ref ax) else if z = Str.ofString "ys" then some (.ref ay) else if z = Str.ofString "right" then some (.bool true) else m z)) (N : News g L s.heap ((aV, LCg.lst zv) :: (aU, LCg.lst zu) :: (L + 1, oF) :: (107, tabObj pc) :: (186, tabObj ps) :: news)) (dF : oF.data = .cell (some (.int far tf))) (T : Top Mine.vw (looseW Mine.vw [Str.ofString "_tuplegetter", Str.ofString "LinearRegression", Str.ofString "linear_regression", Str.ofString "covariance"]) mean mg mb g)
    (hd : dp + 9 < recursionLimit) (hu : un + 60 < cLine) (lu : zu.length = n) (lv : zv.length = n) (n2 : 2 ≤ n) (n16 : n ≤ 16) (hx : (ax, listOf zx.toArray cx) ∈ news) (hy : (ay, listOf zy.toArray cy) ∈ news) (lx : zx.length = n) (ly : zy.length = n) (ix : IntsAre zx xs) (iy : IntsAre zy ys) (ux : UsAll far xs) (ru : RelI (UsEl far) xs zu) (iv : IntsAre zv (ys.map fun k => k + far)) (nb : NoneBooked g)
    (hQ : ∀ h' tk m' news', Fr g L h' m' → News g L h' news' → (∀ q ∈ (107, tabObj pc) :: (186, tabObj ps) :: news, q ∈ news') → Q (.ret (.bool true)) ⟨h', s.gens, s.drawn, tk, s.os⟩) :
    (Mine.hd.heap_39 w.params).In g → wpAny (model PySem.Challenge.rw_kq0023_05.row.prog w) ((ktrTop dp un gd cn cs L0 a ccd cl []).deeper (envOfC (Str.ofString "_law_holds") hoScope L 208 (Value.ref 207))) (execs (hoRest 3) (envOfC (Str.ofString "_law_holds") hoScope L 208 (Value.ref 207))) Q (fun e s' => wpAny (model PySem.Challenge.rw_kq0023_05.row.prog w) ((ktrTop dp un gd cn cs L0 a ccd cl []).deeper (envOfC (Str.ofString "_law_holds") hoScope L 208 (Value.ref 207))) (leaving (envOfC (Str.ofString "_law_holds") hoScope L 208 (Value.ref 207)) e) (fun _ s'' => R1 e s'') (fun e' s'' => R2 e' s'') s') s := by
  k_fill
  intro X
  dsimp only [hoRest, hoScope, hoFn, fnScope, fnBody, PySem.Challenge.pw_kq0023_05, List.getLastD, List.getLast, List.drop, List.dropLast]
  k_steps
  all_goals (try k_data)
  rename News _ _ _ _ => NN
  rename Fr _ _ _ _ => FF
  exact hQ _ _ _ _ FF NN (fun q hq => .tail _ (.tail _ (.tail _ (.tail _ (.tail _ (.tail _ (.tail _ hq)))))))
end Mine
end

section
open PySem PySem.W PySem.Calls PyProof.Rows
set_option maxRecDepth 100000
set_option maxHeartbeats 2000000
namespace Mine
/-- what the points must be -/
structure Pts5 (xs ys : List Int) (far : Int) (n : Nat) (xy xx : Int) : Prop where
  lx : xs.length = n
  ly : ys.length = n
  n2 : 2 ≤ n
  n16 : n ≤ 16
  ux : UsAll far xs
  vf : ∀ k ∈ ys, Fits (v1 far k)
  t1 : Tny (8 * xy)
  t2 : Tny xx
  full : ∃ (Xb Yb : Int) (pr qr qy : Nat → Int), (∀ zu zv : List Value, NumsAre zu (xs.map (u8 far)) → NumsAre zv (ys.map (v1 far)) → FullOk zu zv (xs.map (u8 far)) (ys.map (v1 far)) n Xb Yb pr qr ∧ FullOk zv zu (ys.map (v1 far)) (xs.map (u8 far)) n Yb Xb pr qy ∧ FullOk zu zu (xs.map (u8 far)) (xs.map (u8 far)) n Xb Xb qr qr) ∧
    CovEq n (preSum pr n) (8 * xy) ∧ CovEq n (preSum qr n) xx ∧ SlopeEq (preSum pr n) (preSum qr n) xy xx ∧ (preSum qr n = 0 ↔ xx = 0)
theorem fr_5 {g h : Heap} {L : Addr} {m : Str → Option Value} {k1 k2 k3 k4 k5 : Str} {v1 v2 v3 v4 v5 : Value} (F : Fr g L h m) (h1 : m k1 = some v1) (h2 : m k2 = some v2) (h3 : m k3 = some v3) (h4 : m k4 = some v4) (h5 : m k5 = some v5) :
    Fr g L h (fun z => if z = k1 then some v1 else if z = k2 then some v2 else if z = k3 then some v3 else if z = k4 then some v4 else if z = k5 then some v5 else m z) := by
  have e : m = fun z => if z = k1 then some v1 else if z = k2 then some v2 else if z = k3 then some v3 else if z = k4 then some v4 else if z = k5 then some v5 else m z := by
    funext z
    split
    · rename_i e; rw [e, h1]
    · split
      · rename_i e; rw [e, h2]
      · split
        · rename_i e; rw [e, h3]
        · split
          · rename_i e; rw [e, h4]
          · split
            · rename_i e; rw [e, h5]
            · rfl
  rw [← e]; exact F
theorem holds_t {w : World} {dp un : Nat} {gd : Option (List Code)} {cn : Str} {cs : Scope} {a : Addr} {ccd : Value} {cl : List (Str × Addr)} {A₀ : Around} {base h₀ : Heap} {L : Addr} {m : Str → Option Value} {s : Shared} {Q E : Value → Shared → Prop}
    {mean : ExcName → Option Value} {mg mb : Str → Option Value} {news : List (Addr × Obj)} {pc ps : Array Value} {ax ay : Addr} {zx zy : List Value} {xs ys : List Int} {cx cy n : Nat} {far xy xx : Int} {t1 t2 t3 t4 : Tok}
    (B : Below A₀ base [] h₀) (F : Fr h₀ L s.heap m) (N : News h₀ L s.heap ((107, tabObj pc) :: (186, tabObj ps) :: news)) (hTc : TabOk pc) (hT : TabOk ps) (T : Top Mine.vw (looseW Mine.vw [Str.ofString "_tuplegetter", Str.ofString "LinearRegression", Str.ofString "linear_regression", Str.ofString "covariance"]) mean mg mb h₀) (hk : cs.kind = .function) (hd : dp + 20 < recursionLimit) (hu : un + 100 < cLine)
    (hx : (ax, listOf zx.toArray cx) ∈ news) (hy : (ay, listOf zy.toArray cy) ∈ news) (ix : IntsAre zx xs) (iy : IntsAre zy ys)
    (hgs : AllBare s.gens) (h9 : ∀ p ∈ news, p.1 ≠ 107 ∧ p.1 ≠ 186) (nb : NoneBooked base)
    (XB : (Mine.hd.heap_39 w.params).In base) (TB : Top Mine.vw (looseW Mine.vw [Str.ofString "_tuplegetter", Str.ofString "LinearRegression", Str.ofString "linear_regression", Str.ofString "covariance"]) mean mg mb base) (P : Pts5 xs ys far n xy xx)
    (hQ : ∀ h' tk gs' pc' ps', TabOk pc' → TabOk ps' → Fr h₀ L h' m → News h₀ L h' ((107, tabObj pc') :: (186, tabObj ps') :: news) → AllBare gs' → Q (.bool true) ⟨h', gs', s.drawn, tk, s.os⟩) :
    (Mine.hd.heap_39 w.params).In h₀ → wpAny (model PySem.Challenge.rw_kq0023_05.row.prog w) (ktrTop dp un gd cn cs L a ccd cl []) (call (.ref 208) [.ref ax, .ref ay, .int far t1, .int n t2, .int xy t3, .int xx t4]) Q E s := by
  k_fill
  intro X
  refine wpAny_call ?_
  refine' code_anyC ?k1 ?k2 ?k3 ?k4 ?k5 ?kA ?kF ?kK ?k6 ?k7 ?k8 ?k9 ?kB ?kD ?_ ?c2 ?c3 ?c4; (case kA => exact rfl); (case kF => exact rfl); (case kK => exact hk); (case k1 => k_asm); (case k2 => k_asm); (case k3 => k_asm); (case k4 => k_asm); (case k5 => k_asm); (case k6 => k_is); (case k7 => k_is); (case k8 => ktr_room)
  case k9 => first | exact BindsTo.of_eq rfl | exact binds_K (by k_in) rfl (by k_is) rfl rfl rfl | (refine' kp_binds ?kx ?ke; (case kx => k_in); (case ke => exact fun _ => rfl))
  case kB => exact rfl
  case kD => decide +kernel
  case c2 => exact rfl
  case c3 => exact rfl
  case c4 => exact rfl
  intro g' L' h' tk' cells' FG' F' N' Y' B' X' T' D' l1
  k_cells Y'
  (try simp only [List.cons_append, List.nil_append] at N')
  rename _ = Data.cell _ => dF
  have F2 := fr_5 (k1 := Str.ofString "xs") (k2 := Str.ofString "ys") (k3 := Str.ofString "n") (k4 := Str.ofString "xy") (k5 := Str.ofString "xx") F' rfl rfl rfl rfl rfl
  clear F'
  have lzx : zx.length = n := by rw [ix.length]; exact P.lx
  have lzy : zy.length = n := by rw [iy.length]; exact P.ly
  have hn2 := P.n2
  have hn16 := P.n16
  obtain ⟨Xb, Yb, pr, qr, qy, hfull, E1, E2, SE, hz⟩ := P.full
  refine h1 B' F2 N' dF T' hx hy ix iy P.ux (by omega) (by omega) (fun h1' tk1 aU aV zu zv F1 N1 l1' l2' ru iv => ?_) X'
  obtain ⟨K1, K2, K3⟩ := hfull zu zv (nums_us ru) (nums_vs iv P.vf)
  refine h2 B' F1 N1 dF T' (fun p hp => (h9 p hp).1) hTc (by omega) (by omega) hgs (by omega) (by omega) hn2 hn16 K1 K2 K3 E1 E2 P.t1 P.t2 (fun h2' tk2 m2 gs2 pc2 F3 N3 hTc2 hb2 m1 m2' m3 m4 m5 m6 m7 => ?_) X'
  have F4 := fr_7 F3 m1 m2' m3 m4 m5 m6 m7
  by_cases hxx : xx = 0
  · refine h3b B' F4 N3 dF T' XB TB D' (fun p hp => (h9 p hp).2) hT (by omega) (by omega) hb2 (by omega) (by omega) hn2 hn16 K1 ⟨hz.mpr hxx⟩ hxx (fun h' tk m' gs' ps' g'' TT F5 N5 hT5 hb5 B5 X5 T5 D5 q1 q2 q3 q4 q5 => ?_) X'
    refine h4 B5 (fr_5 F5 q1 q2 q3 q4 q5) N5 dF T5 (by omega) (by omega) (by omega) (by omega) hn2 hn16 hx hy lzx lzy ix iy P.ux ru iv (NoneBooked.keeps nb B5.stays) (fun h6 tk6 m6 news6 F6 N6 hs6 => ?_) X5
    exact leaveS0_ F6 N6 TT fun F7 N7 => hQ _ _ _ _ _ hTc2 hT5 F7 (fun q hq => N7 q (hs6 q hq)) hb5
  · refine h3a B' F4 N3 dF T' XB TB D' (fun p hp => (h9 p hp).2) hT (by omega) (by omega) hb2 (by omega) (by omega) hn2 hn16 K1 (fun e => hxx (hz.mp e)) hxx SE P.t1 (fun h' tk m' gs' ps' g'' TT F5 N5 hT5 hb5 B5 X5 T5 D5 q1 q2 q3 q4 q5 => ?_) X'
    refine h4 B5 (fr_5 F5 q1 q2 q3 q4 q5) N5 dF T5 (by omega) (by omega) (by omega) (by omega) hn2 hn16 hx hy lzx lzy ix iy P.ux ru iv (NoneBooked.keeps nb B5.stays) (fun h6 tk6 m6 news6 F6 N6 hs6 => ?_) X5
    exact leaveS0_ F6 N6 TT fun F7 N7 => hQ _ _ _ _ _ hTc2 hT5 F7 (fun q hq => N7 q (hs6 q hq)) hb5
end Mine
end

section
open PySem PySem.W PySem.Calls PyProof.Rows PySem.Spec
set_option maxRecDepth 100000
set_option maxHeartbeats 1000000
namespace Mine
def tupO (x : Int) (t1 : Tok) (y : Int) (t2 : Tok) (n : Nat) : Obj := { cls := .type "tuple", data := .seq #[.int x t1, .int y t2] n }
/-- a list of pairs of ints, the pairs in the ledger's tail -/
structure TupsAre (tups : List (Addr × Obj)) (zs : List Value) (ps : List (Int × Int)) : Prop where
  len : zs.length = ps.length
  get : ∀ (i : Nat) v, zs[i]? = some v → ∃ x y, ps[i]? = some (x, y) ∧ ∃ (T : Addr) (t1 t2 : Tok) (n : Nat), v = .ref T ∧ (T, tupO x t1 y t2 n) ∈ tups
  cls : ∀ p ∈ tups, p.2.cls = .type "tuple"
theorem TupsAre.nil {tups : List (Addr × Obj)} (h : ∀ p ∈ tups, p.2.cls = .type "tuple") : TupsAre tups [] [] := ⟨rfl, fun i v e => by simp at e, h⟩
theorem TupsAre.snoc {tups : List (Addr × Obj)} {zs : List Value} {ps : List (Int × Int)} {T : Addr} {x y : Int} {t1 t2 : Tok} {n : Nat} (h : TupsAre tups zs ps) : TupsAre ((T, tupO x t1 y t2 n) :: tups) (zs ++ [.ref T]) (ps ++ [(x, y)]) := by
  refine ⟨by simp [h.len], fun i v e => ?_, fun p hp => ?_⟩
  · rcases Nat.lt_trichotomy i zs.length with c | c | c
    · rw [List.getElem?_append_left c] at e
      obtain ⟨x', y', e1, T', u1, u2, n', e2, e3⟩ := h.get i v e
      exact ⟨x', y', by rw [List.getElem?_append_left (by rw [← h.len]; exact c)]; exact e1, T', u1, u2, n', e2, .tail _ e3⟩
    · subst c
      rw [List.getElem?_append_right (Nat.le_refl _)] at e
      simp at e
      exact ⟨x, y, by rw [h.len, List.getElem?_append_right (Nat.le_refl _)]; simp, T, t1, t2, n, e.symm, .head _⟩
    · rw [List.getElem?_eq_none (by simp; omega)] at e
      cases e
  · rcases List.mem_cons.mp hp with rfl | hp
    · rfl
    · exact h.cls p hp
theorem TupsAre.mem {tups : List (Addr × Obj)} {zs : List Value} {ps : List (Int × Int)} {T : Addr} {x y : Int} {t1 t2 : Tok} {n : Nat} {v : Value} (hm : (T, tupO x t1 y t2 n) ∈ tups) (h : TupsAre tups zs ps) (e : v = .ref T) : TupsAre tups (zs ++ [v]) (ps ++ [(x, y)]) := by
  refine ⟨by simp [h.len], fun i w ei => ?_, h.cls⟩
  rcases Nat.lt_trichotomy i zs.length with c | c | c
  · rw [List.getElem?_append_left c] at ei
    obtain ⟨x', y', e1, r⟩ := h.get i w ei
    exact ⟨x', y', by rw [List.getElem?_append_left (by rw [← h.len]; exact c)]; exact e1, r⟩
  · subst c
    rw [List.getElem?_append_right (Nat.le_refl _)] at ei
    simp at ei
    exact ⟨x, y, by rw [h.len, List.getElem?_append_right (Nat.le_refl _)]; simp, T, t1, t2, n, ei ▸ e, hm⟩
  · rw [List.getElem?_eq_none (by simp; omega)] at ei
    cases ei
theorem tups_ne {h₀ h : Heap} {L d : Addr} {o : Obj} {all tups : List (Addr × Obj)} (N : News h₀ L h all) (ha : (d, o) ∈ all) (ho : o.cls ≠ .type "tuple") (hs : ∀ p ∈ tups, p ∈ all) (hc : ∀ p ∈ tups, p.2.cls = .type "tuple") : ∀ p ∈ tups, p.1 ≠ d := fun p hp e => by
  have h1 := (N _ (hs p hp)).1
  have h2 := (N _ ha).1
  rw [e, h2] at h1
  have := Option.some.inj h1
  exact ho (by have e2 : o = p.2 := this; rw [e2]; exact hc p hp)
theorem tups_neL {h₀ h : Heap} {L d : Addr} {o : Obj} {all tups : List (Addr × Obj)} {c : String} (N : News h₀ L h all) (ha : (d, o) ∈ all) (ho : o.cls = .type c) (hne : c ≠ "tuple") (hs : ∀ p ∈ tups, p ∈ all) (hc : ∀ p ∈ tups, p.2.cls = .type "tuple") : ∀ p ∈ tups, p.1 ≠ d :=
  tups_ne N ha (fun e => hne (by rw [ho] at e; exact Value.type.inj e)) hs hc
end Mine
end

section
open PySem PySem.W PySem.Calls PyProof.Rows PySem.Spec
set_option maxRecDepth 100000
set_option maxHeartbeats 1000000
namespace Mine
def RangeStep (h₀ : Heap) (L : Addr) (I : Addr) (oI : Obj) (Jn : (Str → Option Value) → List (Addr × Obj) → Prop) (s : Shared) (f : Flow) (s' : Shared) : Prop :=
  f = .next ∧ ∃ h' tk' m₂ news₂, s' = ⟨h', s.gens, s.drawn, tk', s.os⟩ ∧ Fr h₀ L h' m₂ ∧ News h₀ L h' ((I, oI) :: news₂) ∧ (∀ p ∈ news₂, @Ne Nat p.1 I) ∧ Jn m₂ news₂
section
variable {prog : Program} {w : World} {A : Around} {E : Value → Shared → Prop} {s : Shared} {h₀ : Heap} {m : Str → Option Value} {env : Env} {x : Str} {body : List Stmt} {Q : Flow → Shared → Prop} {news : List (Addr × Obj)} {r : Addr} {t u v : Tok} {n : Nat}
/-- a loop over range(n) by what holds ahead of its i-th turn -/
theorem range_inv (J : Nat → (Str → Option Value) → List (Addr × Obj) → Prop) (hh : A.handled = none) (F : Fr h₀ env.locals s.heap m) (N : News h₀ env.locals s.heap news) {b : Int} (hr : IsRange s.heap r 0 b 1 t u v) (hb : b.toNat = n) (hb1 : -2 < b) (h2 : n < 200) (h0 : J 0 m news)
    (turn : ∀ (i : Nat) t m₁ news₁ I oI h tk, i < n → J i m₁ news₁ → (∀ p ∈ news₁, @Ne Nat p.1 I) → Fr h₀ env.locals h (fun y => if y = x then some (.int (i : Int) t) else m₁ y) → News h₀ env.locals h ((I, oI) :: news₁) →
      wpAny (model prog w) A (execs body env) (RangeStep h₀ env.locals I oI (J (i + 1)) ⟨h, s.gens, s.drawn, tk, s.os⟩) E ⟨h, s.gens, s.drawn, tk, s.os⟩)
    (done : ∀ h' tk m' news', Fr h₀ env.locals h' m' → News h₀ env.locals h' news' → J n m' news' → Q .next ⟨h', s.gens, s.drawn, tk, s.os⟩) :
    wpAny (model prog w) A (pyIter (.ref r)) (fun it s₂ => LoopAtV prog w A h₀ env x body Q E it s₂) E s := by
  refine wpAny_pyIter_range hr (small_one (by decide) (by decide) (by omega) (by omega)) ?_
  have lt := F.ns.lt
  have off : ∀ p ∈ news, p.1 ≠ s.heap.objs.size := fun p hp => Nat.ne_of_lt (Heap.lt_size (N p hp).1)
  refine ⟨s.heap.objs.size, [s.heap.objs.size], [s.heap.objs.size], n, _, _, m, news, J, rfl, LCg.range_walks hh 0 n, ?_, ?_, ?_, ?_, F.keeps fun _ _ e => Heap.get?_push_of_some _ e, N.grown fun _ _ e => Heap.get?_push_of_some _ e, h0, ?_, ?_⟩
  · simp; exact Nat.ne_of_lt lt
  · intro b hb
    rw [List.mem_singleton.mp hb]
    exact next_is_new F
  · intro p hp hm
    exact off p hp (List.mem_singleton.mp hm)
  · show IsRangeIter _ _ _ _ _
    rw [show Builtin.Range.rangeSize 0 b 1 = (n : Int) by rw [rangeSize_nat]; omega]
    simpa using Heap.get?_push_size _ rfl
  · rintro i v m₁ news₁ s₁ own ⟨h, tk, rfl⟩ hi ⟨tv, rfl⟩ hJ ho1 ho2 ho3 ho4 hst F₁ N₁
    obtain ⟨oI, hst'⟩ : ∃ oI, h.get? s.heap.objs.size = some oI := ⟨_, hst⟩
    have hown : (s.heap.objs.size, oI) ∈ own := ho4 _ (List.mem_singleton.mpr rfl) (next_is_new F) _ hst'
    have N₂ : News h₀ env.locals h ((s.heap.objs.size, oI) :: news₁) := fun p hp => by
      rcases List.mem_cons.mp hp with rfl | hp
      · exact N₁ _ (List.mem_append_left _ hown)
      · exact N₁ _ (List.mem_append_right _ hp)
    rw [Int.zero_add] at F₁
    refine wpAny_mono (turn i tv m₁ news₁ s.heap.objs.size oI h tk hi hJ (fun p hp e => ho1 p hp (List.mem_singleton.mpr e)) F₁ N₂) (fun f s' hq => ?_) fun _ _ e => e
    obtain ⟨rfl, h', tk', m₂, news₂, rfl, F₃, N₃, off₃, hJ'⟩ := hq
    refine LoopStepV.next (LoopStepU.intro F₃ (fun p hp => ?_) (fun p hp hm => off₃ p hp (List.mem_singleton.mp hm)) hJ')
    rcases List.mem_append.mp hp with hp | hp
    · have e1 := List.mem_singleton.mp (ho2 p hp)
      have e2 := ho3 p hp
      rw [e1] at e2
      have e3 : some oI = some p.2 := hst'.symm.trans e2
      have : p = (s.heap.objs.size, oI) := Prod.ext e1 (Option.some.inj e3).symm
      rw [this]
      exact N₃ _ (.head _)
    · exact N₃ _ (.tail _ hp)
  · intro h' tk m' news' F' N' _ hJ'
    exact done h' tk m' news' F' N' hJ'
end
end Mine
end

section
open PySem PySem.W PySem.Calls PyProof.Rows PySem.Spec
set_option maxRecDepth 100000
set_option maxHeartbeats 1000000
namespace Mine
section
variable {prog : Program} {w : World} {A : Around} {E : Value → Shared → Prop} {s : Shared} {h₀ : Heap} {L D : Addr} {m : Str → Option Value} {news news' : List (Addr × Obj)} {n : Nat} {zs q : List Value} {x y : Value} {Q : Value → Shared → Prop}
theorem append_l (F : Fr h₀ L s.heap m) (N : News h₀ L s.heap news) (U : Upd D (listOf zs.toArray n) (listOf (zs ++ [x]).toArray (n + 1)) news news') (hz : zs.length < 200)
    (h : ∀ h', Fr h₀ L h' m → News h₀ L h' news' → Q .none { s with heap := h' }) : wpAny (model prog w) A (call (.builtin "list.append") [.ref D, x]) Q E s := by
  rw [← List.push_toArray] at U
  exact append_K F N U h (by rw [List.size_toArray]; exact rng_line hz)
theorem pop_0 {u : Tok} (F : Fr h₀ L s.heap m) (N : News h₀ L s.heap news) (U : Upd D (listOf (y :: q).toArray n) (listOf q.toArray (n + 1)) news news') (hz : q.length < 199)
    (h : ∀ h', Fr h₀ L h' m → News h₀ L h' news' → Q y { s with heap := h' }) : wpAny (model prog w) A (call (.builtin "list.pop") [.ref D, .int 0 u]) Q E s :=
  kl_popAt (k := 0) (p := []) (q := q) (y := y) F N rfl (by simp [seqIndex?]) rfl U (by rw [List.length_cons]; exact rng_line (by omega)) h
end
end Mine
end

section
open PySem PySem.W PySem.Calls PyProof.Rows
set_option maxRecDepth 100000
set_option maxHeartbeats 1000000
namespace Mine
theorem zz_LM1 : True := by
  w_top off
  k_with_none
  trivial
def ptsAt (scr : List Int) (h i : Nat) : List (Int × Int) := [(2, 1), (2, 4), (-1, 6)] ++ (List.range i).map fun k => (smallF (scr.getD k 0), smallF (scr.getD (h + k) 0))
theorem ptsAt_succ (scr : List Int) (h i : Nat) : ptsAt scr h (i + 1) = ptsAt scr h i ++ [(smallF (scr.getD i 0), smallF (scr.getD (h + i) 0))] := by
  unfold ptsAt
  rw [List.range_succ, List.map_append, ← List.append_assoc]
  rfl
theorem ptsAt_len (scr : List Int) (h i : Nat) : (ptsAt scr h i).length = 3 + i := by
  unfold ptsAt
  simp; omega
theorem fr_3 {g h : Heap} {L : Addr} {m : Str → Option Value} {k1 k2 k3 : Str} {v1 v2 v3 : Value} (F : Fr g L h m) (h1 : m k1 = some v1) (h2 : m k2 = some v2) (h3 : m k3 = some v3) :
    Fr g L h (fun z => if z = k1 then some v1 else if z = k2 then some v2 else if z = k3 then some v3 else m z) := by
  have e : m = fun z => if z = k1 then some v1 else if z = k2 then some v2 else if z = k3 then some v3 else m z := by
    funext z
    split
    · rename_i e; rw [e, h1]
    · split
      · rename_i e; rw [e, h2]
      · split
        · rename_i e; rw [e, h3]
        · rfl
  rw [← e]; exact F
theorem fr_3k {g h : Heap} {L : Addr} {m : Str → Option Value} {k k1 k2 k3 : Str} {v v1 v2 v3 : Value} (F : Fr g L h (fun y => if y = k then some v else m y)) (h1 : m k1 = some v1) (h2 : m k2 = some v2) (h3 : m k3 = some v3) :
    Fr g L h (fun z => if z = k then some v else if z = k1 then some v1 else if z = k2 then some v2 else if z = k3 then some v3 else m z) := by
  have e : m = fun z => if z = k1 then some v1 else if z = k2 then some v2 else if z = k3 then some v3 else m z := by
    funext z
    split
    · rename_i e; rw [e, h1]
    · split
      · rename_i e; rw [e, h2]
      · split
        · rename_i e; rw [e, h3]
        · rfl
  rw [e] at F
  exact F
theorem news_rot {h₀ h : Heap} {L : Addr} {d i a p q : Addr × Obj} {r : List (Addr × Obj)} (N : News h₀ L h (d :: i :: a :: p :: q :: r)) : News h₀ L h (i :: a :: p :: q :: d :: r) := fun x hx => N x (by
  simp only [List.mem_cons] at hx ⊢
  rcases hx with e | e | e | e | e | e
  · exact .inr (.inl e)
  · exact .inr (.inr (.inl e))
  · exact .inr (.inr (.inr (.inl e)))
  · exact .inr (.inr (.inr (.inr (.inl e))))
  · exact .inl e
  · exact .inr (.inr (.inr (.inr (.inr e)))))
theorem off_rot {I a D : Addr} {o o' od : Obj} {p q : Addr × Obj} {r : List (Addr × Obj)} (h : ∀ x ∈ (a, o) :: p :: q :: r, @Ne Nat x.1 I) (hd : @Ne Nat D I) : ∀ x ∈ (a, o') :: p :: q :: (D, od) :: r, @Ne Nat x.1 I := fun x hx => by
  simp only [List.mem_cons] at hx h
  rcases hx with e | e | e | e | e
  · rw [e]; exact h (a, o) (.inl rfl)
  · exact h x (.inr (.inl e))
  · exact h x (.inr (.inr (.inl e)))
  · rw [e]; exact hd
  · exact h x (.inr (.inr (.inr e)))
def StopA (P : Prop) : Prop := P
theorem stopA_ {P : Prop} (h : StopA P) : P := h
theorem zz_LM1_14 : True := by
  k_with "my exec For Name Call cons nil" =>
    (k_here; (rename Fr _ _ _ _ => lFzz100'); (with_unfolding_all refine' For_invVF lFzz100' ?zz100k1 ?zz100k2 ?_; (case zz100k1 => exact rfl); (case zz100k2 => exact rfl); k_whole))
  k_with "my pyIter ref" =>
    (refine stopA_ ?_)
  k_with "my RangeStep" =>
    (refine stopA_ ?_)
  k_with "my execs cons" =>
    ((with_reducible show wpAny _ _ (execs (Stmt.Assign [Expr.Name (PySem.Str.ofString "most") _] _ _ :: _) _) _ _ _); refine stopA_ ?_)
  trivial
local macro_rules | `(tactic| k_all) => `(tactic| first | exact List.forall_mem_nil _ | (refine' List.forall_mem_cons.mpr ⟨?a, ?b⟩; (case a => k_ne); (case b => k_all)) | ((rename News _ _ _ _ => nU); (rename TupsAre _ _ _ => tU); exact tups_neL nU (by k_mem) rfl (by decide) (fun p hp => by repeat (first | exact hp | refine List.Mem.tail _ ?_)) tU.cls))
theorem zz_LM1_15 : True := by
  k_with "my call ref cons" =>
    (k_here; (with_reducible show wpAny _ _ (call (Value.ref 203) _ _) _ _ _); k_dflt (refine' small_t ?zz104B ?zz104F ?zz104N ?zz104T ?zz104hk ?zz104hd ?zz104hu ?_ ?zz104X; (case zz104X => k_asm); (case zz104B => assumption); (case zz104F => k_asm); (case zz104N => k_asm); (case zz104T => assumption); (case zz104hk => rfl); (case zz104hd => first | ktr_room | decide); (case zz104hu => first | ktr_units | decide); k_whole; intro hzz104' tkzz104' tzz104' Fzz104' Nzz104'))
  k_with "my call builtin:list.append" =>
    (k_here; k_dflt (refine' append_l ?zz105F ?zz105N ?zz105U ?zz105z ?_; (case zz105F => k_asm); (case zz105N => k_asm); (case zz105U => k_upd); (case zz105z => omega); k_whole); intro hzz105' Fzz105' Nzz105'; (try dsimp only at Nzz105'))
  trivial
theorem lm1 {w : World} {fa : Addr} {cd : Value} {h₀ : Heap} {mean : ExcName → Option Value} {mg mb : Str → Option Value} {s : Shared} {Q : Flow → Shared → Prop} {R1 R2 : Value → Shared → Prop} {L aP aS : Addr} {m : Str → Option Value} {zs ws : List Value} {scr : List Int} {hN c : Nat} {th : Tok} {pc ps : Array Value} {tups : List (Addr × Obj)}
    (B : Below callerA h₀ [] h₀) (F : Fr h₀ L s.heap (fun z => if z = Str.ofString "points" then some (.ref aP) else if z = Str.ofString "half" then some (.int (hN : Int) th) else if z = Str.ofString "script" then some (.ref aS) else m z)) (N : News h₀ L s.heap ((aP, listOf (List.toArray zs) c) :: (107, tabObj pc) :: (186, tabObj ps) :: tups))
    (T : Top Mine.vw (looseW Mine.vw [Str.ofString "_tuplegetter", Str.ofString "LinearRegression", Str.ofString "linear_regression", Str.ofString "covariance"]) mean mg mb h₀)
    (hne : (@Ne Nat 107 aP) ∧ (@Ne Nat 186 aP)) (hl : h₀.IsList aS ws.toArray) (hi : IntsAre ws scr) (lh : 2 * hN ≤ scr.length) (h63 : scr.length ≤ 63) (hT : TupsAre tups zs (ptsAt scr hN 0))
    (hQ : ∀ h' tk m' zs' c' tups', Fr h₀ L h' m' → News h₀ L h' ((aP, listOf (List.toArray zs') c') :: (107, tabObj pc) :: (186, tabObj ps) :: tups') → TupsAre tups' zs' (ptsAt scr hN hN) → m' (Str.ofString "points") = some (.ref aP) → m' (Str.ofString "script") = some (.ref aS) →
      wpAny (model PySem.Challenge.rw_kq0023_05.row.prog w) (callerA.deeper (envOf (Str.ofString "law") lawScope L fa cd)) (execs (lawRest 3) (envOf (Str.ofString "law") lawScope L fa cd)) Q (fun e s' => wpAny (model PySem.Challenge.rw_kq0023_05.row.prog w) (callerA.deeper (envOf (Str.ofString "law") lawScope L fa cd)) (leaving (envOf (Str.ofString "law") lawScope L fa cd) e) (fun _ s'' => R1 e s'') (fun e' s'' => R2 e' s'') s') ⟨h', s.gens, s.drawn, tk, s.os⟩) :
    (Mine.hd.heap_39 w.params).In h₀ → wpAny (model PySem.Challenge.rw_kq0023_05.row.prog w) (callerA.deeper (envOf (Str.ofString "law") lawScope L fa cd)) (execs (lawRest 2) (envOf (Str.ofString "law") lawScope L fa cd)) Q (fun e s' => wpAny (model PySem.Challenge.rw_kq0023_05.row.prog w) (callerA.deeper (envOf (Str.ofString "law") lawScope L fa cd)) (leaving (envOf (Str.ofString "law") lawScope L fa cd) e) (fun _ s'' => R1 e s'') (fun e' s'' => R2 e' s'') s') s := by
  k_fill
  intro X
  obtain ⟨n1, n2⟩ := hne
  dsimp only [lawRest, lawScope, lawFn, fnScope, fnBody, PySem.Challenge.pw_kq0023_05, List.getLastD, List.getLast, List.drop]
  k_steps
  all_goals (try k_data)
  unfold StopA
  rename IsRange _ _ _ _ _ _ _ _ => hR
  rename News _ _ _ _ => NN
  rename Fr _ _ _ _ => FF
  have lws : ws.length = scr.length := hi.length
  refine range_inv (n := hN) (fun i m₁ news₁ => m₁ (Str.ofString "points") = some (.ref aP) ∧ m₁ (Str.ofString "half") = some (.int (hN : Int) th) ∧ m₁ (Str.ofString "script") = some (.ref aS) ∧ ∃ zs c tups, news₁ = (aP, listOf (List.toArray zs) c) :: (107, tabObj pc) :: (186, tabObj ps) :: tups ∧ TupsAre tups zs (ptsAt scr hN i)) rfl FF NN hR (by omega) (by omega) (by omega) ⟨rfl, rfl, rfl, zs, c, _, rfl, ?_⟩ (fun i t m₁ news₁ I oI h tk hi' hJ off F₁ N₁ => ?_) (fun h' tk m' news' F' N' hJ => ?_)
  · exact hT
  · obtain ⟨hm1, hm2, hm3, zs, c, tups, rfl, hP⟩ := hJ
    have F₂ := fr_3k F₁ hm1 hm2 hm3
    have hneI : @Ne Nat aP I := off _ (.head _)
    have hll := hP.len
    have hpl := ptsAt_len scr hN i
    (try clear FF); (try clear NN); clear F₁ hT
    k_steps
    all_goals (try k_data)
    unfold StopA
    rename News _ _ _ _ => NN2
    rename Fr _ _ _ _ => FF2
    rename _ ∧ _ => lz
    refine ⟨rfl, _, _, _, _, rfl, FF2, news_rot NN2, off_rot off (Nat.ne_of_gt lz.1), rfl, rfl, rfl, _, _, _, rfl, ?_⟩
    rw [ptsAt_succ]
    exact hP.snoc
  · obtain ⟨hm1, hm2, hm3, zs, c, tups, rfl, hP⟩ := hJ
    exact hQ _ _ _ _ _ _ F' N' hP hm1 hm3
end Mine
end

section
open PySem PySem.W PySem.Calls PyProof.Rows
set_option maxRecDepth 100000
namespace Mine
def forBody : Stmt → List Stmt
  | .For _ _ body _ _ => body
  | _ => []
def tbRest (k : Nat) : List Stmt := (forBody ((lawRest 6).headD (.Pass default))).drop k
def dotI (xs ys : List Int) : Int := (List.zipWith (· * ·) xs ys).sum
/-- n * sum of the products less the product of the sums -/
def XY (xs ys : List Int) : Int := (xs.length : Int) * dotI xs ys - xs.sum * ys.sum
structure StOk (xs ys : List Int) : Prop where
  len : xs.length = ys.length
  bx : ∀ x ∈ xs, x.natAbs ≤ 2 ^ 18 + 20
  b_y : ∀ y ∈ ys, y.natAbs ≤ 2 ^ 18 + 20
theorem mI {m : Option Value} {a b : Int} {t : Tok} (h : m = some (.int a t)) (e : a = b) : m = some (.int b t) := e ▸ h
theorem dot_cons (x y : Int) (xs ys : List Int) : dotI (x :: xs) (y :: ys) = x * y + dotI xs ys := rfl
theorem dot_snoc {xs ys : List Int} (h : xs.length = ys.length) (x y : Int) : dotI (xs ++ [x]) (ys ++ [y]) = dotI xs ys + x * y := by
  unfold dotI
  rw [List.zipWith_append h]
  simp
theorem XY_cons {n : Int} {a b : Int} {xs ys : List Int} (hl : xs.length = ys.length) (hn : n = (xs.length : Int) + 1) : ((n - 1) * XY (a :: xs) (b :: ys) - ((n - 1) * a - ((a :: xs).sum - a)) * ((n - 1) * b - ((b :: ys).sum - b))).fdiv (n - 1 + 1) = XY xs ys := by
  have e : (n - 1) * XY (a :: xs) (b :: ys) - ((n - 1) * a - ((a :: xs).sum - a)) * ((n - 1) * b - ((b :: ys).sum - b)) = XY xs ys * (n - 1 + 1) := by
    unfold XY
    rw [dot_cons, List.sum_cons, List.sum_cons, List.length_cons]
    subst hn
    push_cast
    grind
  rw [e]
  exact Int.mul_fdiv_cancel _ (by omega)
theorem XY_snoc {n : Int} {x y : Int} {xs ys : List Int} (hl : xs.length = ys.length) (hn : n = (xs.length : Int)) (h0 : 0 < n) : ((n + 1) * XY xs ys + (n * x - xs.sum) * (n * y - ys.sum)).fdiv n = XY (xs ++ [x]) (ys ++ [y]) := by
  have e : (n + 1) * XY xs ys + (n * x - xs.sum) * (n * y - ys.sum) = XY (xs ++ [x]) (ys ++ [y]) * n := by
    unfold XY
    rw [dot_snoc hl, List.sum_append, List.sum_append, List.length_append]
    subst hn
    simp
    grind
  rw [e]
  exact Int.mul_fdiv_cancel _ (by omega)
theorem sum_tl (a : Int) (xs : List Int) : (a :: xs).sum - a = xs.sum := by rw [List.sum_cons]; omega
theorem XY_first {x y : Int} {xs ys : List Int} (hl : xs.length = ys.length) (h : ¬ (0 : Int) < (xs.length : Int)) : XY xs ys = XY (xs ++ [x]) (ys ++ [y]) := by
  have h1 : xs = [] := List.eq_nil_of_length_eq_zero (by omega)
  have h2 : ys = [] := List.eq_nil_of_length_eq_zero (by omega)
  subst h1 h2
  unfold XY dotI
  simp
theorem len_snoc (x : Int) (xs : List Int) : (xs.length : Int) + 1 = ((xs ++ [x]).length : Int) := by simp
theorem sum_snoc (x : Int) (xs : List Int) : xs.sum + x = (xs ++ [x]).sum := by simp
end Mine
end

section
open PySem PySem.W PySem.Calls PyProof.Rows
set_option maxRecDepth 100000
set_option maxHeartbeats 2000000
namespace Mine
theorem zz_TB1 : True := by
  w_top off
  k_with_none
  trivial
def StopB (P : Prop) : Prop := P
theorem stopB_ {P : Prop} (h : StopB P) : P := h
theorem zz_TB1_16 : True := by
  k_with "my execs cons" =>
    ((with_reducible show wpAny _ _ (execs (Stmt.AugAssign _ _ _ _ :: _) _) _ _ _); refine stopB_ ?_)
  trivial
local macro_rules | `(tactic| k_all) => `(tactic| first | exact List.forall_mem_nil _ | (refine' List.forall_mem_cons.mpr ⟨?a, ?b⟩; (case a => k_ne); (case b => k_all)) | ((rename News _ _ _ _ => nU); (rename TupsAre _ _ _ => tU); exact tups_neL nU (by k_mem) rfl (by decide) (fun p hp => by repeat (first | exact hp | refine List.Mem.tail _ ?_)) tU.cls))
theorem zz_TB1_17 : True := by
  k_with "my call builtin:list.pop" =>
    (k_here; k_dflt (refine' pop_0 ?zz107F ?zz107N ?zz107U ?zz107z ?_; (case zz107F => k_asm); (case zz107N => k_asm); (case zz107U => k_upd); (case zz107z => omega); k_whole); intro hzz107' Fzz107' Nzz107'; (try dsimp only at Nzz107'))
  k_with "my binaryOp Mult int int" =>
    (k_here; refine mul_l (by assumption) ?_)
  trivial
theorem tb1a {a0 b0 : Int} {ta tb : Tok} {w : World} {fa : Addr} {cd : Value} {h₀ : Heap} {mean : ExcName → Option Value} {mg mb : Str → Option Value} {s : Shared} {Q : Flow → Shared → Prop} {R1 R2 : Value → Shared → Prop} {L aX aY aP I : Addr} {m : Str → Option Value} {zx zy zs : List Value} {xs ys : List Int} {cx cy c : Nat} {x y most : Int} {tx ty tm tn t1 t2 t3 t4 : Tok} {pc ps : Array Value} {tups : List (Addr × Obj)} {oI : Obj} {pts : List (Int × Int)}
    (B : Below callerA h₀ [] h₀) (F : Fr h₀ L s.heap (fun z => if z = Str.ofString "x" then some (.int x tx) else if z = Str.ofString "y" then some (.int y ty) else if z = Str.ofString "most" then some (.int most tm) else if z = Str.ofString "xs" then some (.ref aX) else if z = Str.ofString "ys" then some (.ref aY) else if z = Str.ofString "n" then some (.int most tn) else if z = Str.ofString "sx" then some (.int (a0 :: xs).sum t1) else if z = Str.ofString "sy" then some (.int (b0 :: ys).sum t2) else if z = Str.ofString "xy" then some (.int (XY (a0 :: xs) (b0 :: ys)) t3) else if z = Str.ofString "xx" then some (.int (XY (a0 :: xs) (a0 :: xs)) t4) else m z)) (N : News h₀ L s.heap ((I, oI) :: (aX, listOf (List.toArray (.int a0 ta :: zx)) cx) :: (aY, listOf (List.toArray (.int b0 tb :: zy)) cy) :: (aP, listOf (List.toArray zs) c) :: (107, tabObj pc) :: (186, tabObj ps) :: tups))
    (T : Top Mine.vw (looseW Mine.vw [Str.ofString "_tuplegetter", Str.ofString "LinearRegression", Str.ofString "linear_regression", Str.ofString "covariance"]) mean mg mb h₀) (hP : TupsAre tups zs pts)
    (hne : (@Ne Nat aY aX) ∧ (@Ne Nat aP aX) ∧ (@Ne Nat 107 aX) ∧ (@Ne Nat 186 aX) ∧ (@Ne Nat aP aY) ∧ (@Ne Nat 107 aY) ∧ (@Ne Nat 186 aY)) (hnI : (@Ne Nat aX I) ∧ (@Ne Nat aY I)) (lx : zx.length = xs.length) (hl : xs.length = ys.length) (ly : zy.length = xs.length) (hm : most = (xs.length : Int) + 1) (h2 : 2 ≤ most) (h16 : most ≤ 16) (s1 : Sm (most - 1)) (s2 : Sm ((most - 1) * a0 - ((a0 :: xs).sum - a0)))
    (hQ : ∀ h' tk m' tn t1 t2 t3 t4, Fr h₀ L h' m' → News h₀ L h' ((I, oI) :: (aX, listOf (List.toArray zx) (cx + 1)) :: (aY, listOf (List.toArray zy) (cy + 1)) :: (aP, listOf (List.toArray zs) c) :: (107, tabObj pc) :: (186, tabObj ps) :: tups) → m' (Str.ofString "x") = some (.int x tx) → m' (Str.ofString "y") = some (.int y ty) → m' (Str.ofString "most") = some (.int most tm) → m' (Str.ofString "xs") = some (.ref aX) → m' (Str.ofString "ys") = some (.ref aY) → m' (Str.ofString "n") = some (.int (xs.length : Int) tn) → m' (Str.ofString "sx") = some (.int xs.sum t1) → m' (Str.ofString "sy") = some (.int ys.sum t2) → m' (Str.ofString "xy") = some (.int (XY xs ys) t3) → m' (Str.ofString "xx") = some (.int (XY xs xs) t4) →
      wpAny (model PySem.Challenge.rw_kq0023_05.row.prog w) (callerA.deeper (envOf (Str.ofString "law") lawScope L fa cd)) (execs (tbRest 1) (envOf (Str.ofString "law") lawScope L fa cd)) Q (fun e s' => wpAny (model PySem.Challenge.rw_kq0023_05.row.prog w) (callerA.deeper (envOf (Str.ofString "law") lawScope L fa cd)) (leaving (envOf (Str.ofString "law") lawScope L fa cd) e) (fun _ s'' => R1 e s'') (fun e' s'' => R2 e' s'') s') ⟨h', s.gens, s.drawn, tk, s.os⟩) :
    (Mine.hd.heap_39 w.params).In h₀ → wpAny (model PySem.Challenge.rw_kq0023_05.row.prog w) (callerA.deeper (envOf (Str.ofString "law") lawScope L fa cd)) (execs (tbRest 0) (envOf (Str.ofString "law") lawScope L fa cd)) Q (fun e s' => wpAny (model PySem.Challenge.rw_kq0023_05.row.prog w) (callerA.deeper (envOf (Str.ofString "law") lawScope L fa cd)) (leaving (envOf (Str.ofString "law") lawScope L fa cd) e) (fun _ s'' => R1 e s'') (fun e' s'' => R2 e' s'') s') s := by
  k_fill
  intro X
  obtain ⟨n1, n2, n3, n4, n5, n6, n7⟩ := hne
  obtain ⟨i1, i2⟩ := hnI
  dsimp only [tbRest, forBody, lawRest, lawScope, lawFn, fnScope, fnBody, PySem.Challenge.pw_kq0023_05, List.getLastD, List.getLast, List.drop, List.headD]
  k_steps
  all_goals (try k_data)
  all_goals (try exact absurd rfl (by assumption))
  unfold StopB
  rename News _ _ _ _ => NN
  rename Fr _ _ _ _ => FF
  exact hQ _ _ _ _ _ _ _ _ FF (fun q hq => NN q (.tail _ (.tail _ (.tail _ (.tail _ hq))))) rfl rfl rfl rfl rfl (mI rfl (by omega)) (mI rfl (sum_tl a0 xs)) (mI rfl (sum_tl b0 ys)) (mI rfl (XY_cons hl hm)) (mI rfl (XY_cons rfl hm))
theorem tb1b {w : World} {fa : Addr} {cd : Value} {h₀ : Heap} {mean : ExcName → Option Value} {mg mb : Str → Option Value} {s : Shared} {Q : Flow → Shared → Prop} {R1 R2 : Value → Shared → Prop} {L aX aY aP I : Addr} {m : Str → Option Value} {zx zy zs : List Value} {xs ys : List Int} {cx cy c : Nat} {x y most : Int} {tx ty tm tn t1 t2 t3 t4 : Tok} {pc ps : Array Value} {tups : List (Addr × Obj)} {oI : Obj} {pts : List (Int × Int)}
    (B : Below callerA h₀ [] h₀) (F : Fr h₀ L s.heap (fun z => if z = Str.ofString "x" then some (.int x tx) else if z = Str.ofString "y" then some (.int y ty) else if z = Str.ofString "most" then some (.int most tm) else if z = Str.ofString "xs" then some (.ref aX) else if z = Str.ofString "ys" then some (.ref aY) else if z = Str.ofString "n" then some (.int (xs.length : Int) tn) else if z = Str.ofString "sx" then some (.int xs.sum t1) else if z = Str.ofString "sy" then some (.int ys.sum t2) else if z = Str.ofString "xy" then some (.int (XY xs ys) t3) else if z = Str.ofString "xx" then some (.int (XY xs xs) t4) else m z)) (N : News h₀ L s.heap ((I, oI) :: (aX, listOf (List.toArray zx) cx) :: (aY, listOf (List.toArray zy) cy) :: (aP, listOf (List.toArray zs) c) :: (107, tabObj pc) :: (186, tabObj ps) :: tups))
    (T : Top Mine.vw (looseW Mine.vw [Str.ofString "_tuplegetter", Str.ofString "LinearRegression", Str.ofString "linear_regression", Str.ofString "covariance"]) mean mg mb h₀) (hP : TupsAre tups zs pts)
    (hne : (xs.length : Int) ≠ most)
    (hQ : ∀ h' tk m' tn t1 t2 t3 t4, Fr h₀ L h' m' → News h₀ L h' ((I, oI) :: (aX, listOf (List.toArray zx) cx) :: (aY, listOf (List.toArray zy) cy) :: (aP, listOf (List.toArray zs) c) :: (107, tabObj pc) :: (186, tabObj ps) :: tups) → m' (Str.ofString "x") = some (.int x tx) → m' (Str.ofString "y") = some (.int y ty) → m' (Str.ofString "most") = some (.int most tm) → m' (Str.ofString "xs") = some (.ref aX) → m' (Str.ofString "ys") = some (.ref aY) → m' (Str.ofString "n") = some (.int (xs.length : Int) tn) → m' (Str.ofString "sx") = some (.int xs.sum t1) → m' (Str.ofString "sy") = some (.int ys.sum t2) → m' (Str.ofString "xy") = some (.int (XY xs ys) t3) → m' (Str.ofString "xx") = some (.int (XY xs xs) t4) →
      wpAny (model PySem.Challenge.rw_kq0023_05.row.prog w) (callerA.deeper (envOf (Str.ofString "law") lawScope L fa cd)) (execs (tbRest 1) (envOf (Str.ofString "law") lawScope L fa cd)) Q (fun e s' => wpAny (model PySem.Challenge.rw_kq0023_05.row.prog w) (callerA.deeper (envOf (Str.ofString "law") lawScope L fa cd)) (leaving (envOf (Str.ofString "law") lawScope L fa cd) e) (fun _ s'' => R1 e s'') (fun e' s'' => R2 e' s'') s') ⟨h', s.gens, s.drawn, tk, s.os⟩) :
    (Mine.hd.heap_39 w.params).In h₀ → wpAny (model PySem.Challenge.rw_kq0023_05.row.prog w) (callerA.deeper (envOf (Str.ofString "law") lawScope L fa cd)) (execs (tbRest 0) (envOf (Str.ofString "law") lawScope L fa cd)) Q (fun e s' => wpAny (model PySem.Challenge.rw_kq0023_05.row.prog w) (callerA.deeper (envOf (Str.ofString "law") lawScope L fa cd)) (leaving (envOf (Str.ofString "law") lawScope L fa cd) e) (fun _ s'' => R1 e s'') (fun e' s'' => R2 e' s'') s') s := by
  k_fill
  intro X
  dsimp only [tbRest, forBody, lawRest, lawScope, lawFn, fnScope, fnBody, PySem.Challenge.pw_kq0023_05, List.getLastD, List.getLast, List.drop, List.headD]
  k_steps
  all_goals (try k_data)
  all_goals (try exact absurd (by assumption) hne)
  unfold StopB
  rename News _ _ _ _ => NN
  rename Fr _ _ _ _ => FF
  exact hQ _ _ _ _ _ _ _ _ FF NN rfl rfl rfl rfl rfl rfl rfl rfl rfl rfl
end Mine
end

section
open PySem PySem.W PySem.Calls PyProof.Rows
set_option maxRecDepth 100000
set_option maxHeartbeats 2000000
namespace Mine
theorem zz_TB2 : True := by
  w_top off
  k_with_none
  trivial
def StopC (P : Prop) : Prop := P
theorem stopC_ {P : Prop} (h : StopC P) : P := h
theorem zz_TB2_18 : True := by
  k_with "my execs cons" =>
    ((with_reducible show wpAny _ _ (execs (Stmt.For _ _ _ _ _ :: _) _) _ _ _); refine stopC_ ?_)
  trivial
local macro_rules | `(tactic| k_all) => `(tactic| first | exact List.forall_mem_nil _ | (refine' List.forall_mem_cons.mpr ⟨?a, ?b⟩; (case a => k_ne); (case b => k_all)) | ((rename News _ _ _ _ => nU); (rename TupsAre _ _ _ => tU); exact tups_neL nU (by k_mem) rfl (by decide) (fun p hp => by repeat (first | exact hp | refine List.Mem.tail _ ?_)) tU.cls))
theorem zz_TB2_19 : True := by
  k_with "my call builtin:list.append" =>
    (k_here; k_dflt (refine' append_l ?zz110F ?zz110N ?zz110U ?zz110z ?_; (case zz110F => k_asm); (case zz110N => k_asm); (case zz110U => k_upd); (case zz110z => omega); k_whole); intro hzz110' Fzz110' Nzz110'; (try dsimp only at Nzz110'))
  k_with "my binaryOp Mult int int" =>
    (k_here; refine mul_l (by assumption) ?_)
  k_with "my call ref cons" =>
    (k_here; (with_reducible show wpAny _ _ (call (Value.ref 196) _ _) _ _ _); k_dflt (refine' odd_t ?zz112B ?zz112F ?zz112N ?zz112T ?zz112hk ?zz112hd ?zz112hu ?zz112hx ?_ ?zz112X; (case zz112X => k_asm); (case zz112B => assumption); (case zz112F => k_asm); (case zz112N => k_asm); (case zz112T => assumption); (case zz112hk => rfl); (case zz112hd => first | ktr_room | decide); (case zz112hu => first | ktr_units | decide); (case zz112hx => omega); k_whole; intro hzz112' tkzz112' dzz112' tzz112' hOzz112' Fzz112' Nzz112'; (have hpzz112' := hOzz112'.pos); (rename ∀ d, OddOf _ d → Sm _ => hSzz112'); (have hS2zz112' := hSzz112' _ hOzz112')))
  trivial
theorem tb2 {w : World} {fa : Addr} {cd : Value} {h₀ : Heap} {mean : ExcName → Option Value} {mg mb : Str → Option Value} {s : Shared} {Q : Flow → Shared → Prop} {R1 R2 : Value → Shared → Prop} {L aX aY aP I : Addr} {m : Str → Option Value} {zx zy zs : List Value} {xs ys : List Int} {cx cy c : Nat} {x y most : Int} {tx ty tm tn t1 t2 t3 t4 : Tok} {pc ps : Array Value} {tups : List (Addr × Obj)} {oI : Obj} {pts : List (Int × Int)}
    (B : Below callerA h₀ [] h₀) (F : Fr h₀ L s.heap (fun z => if z = Str.ofString "x" then some (.int x tx) else if z = Str.ofString "y" then some (.int y ty) else if z = Str.ofString "most" then some (.int most tm) else if z = Str.ofString "xs" then some (.ref aX) else if z = Str.ofString "ys" then some (.ref aY) else if z = Str.ofString "n" then some (.int (xs.length : Int) tn) else if z = Str.ofString "sx" then some (.int xs.sum t1) else if z = Str.ofString "sy" then some (.int ys.sum t2) else if z = Str.ofString "xy" then some (.int (XY xs ys) t3) else if z = Str.ofString "xx" then some (.int (XY xs xs) t4) else m z)) (N : News h₀ L s.heap ((I, oI) :: (aX, listOf (List.toArray zx) cx) :: (aY, listOf (List.toArray zy) cy) :: (aP, listOf (List.toArray zs) c) :: (107, tabObj pc) :: (186, tabObj ps) :: tups))
    (T : Top Mine.vw (looseW Mine.vw [Str.ofString "_tuplegetter", Str.ofString "LinearRegression", Str.ofString "linear_regression", Str.ofString "covariance"]) mean mg mb h₀) (hP : TupsAre tups zs pts)
    (hne : (@Ne Nat aY aX) ∧ (@Ne Nat aP aX) ∧ (@Ne Nat 107 aX) ∧ (@Ne Nat 186 aX) ∧ (@Ne Nat aP aY) ∧ (@Ne Nat 107 aY) ∧ (@Ne Nat 186 aY)) (hnI : (@Ne Nat aX I) ∧ (@Ne Nat aY I)) (lx : zx.length = xs.length) (hl : xs.length = ys.length) (ly : zy.length = xs.length) (h16 : xs.length ≤ 15) (s1 : Sm (xs.length : Int)) (s2 : Sm ((xs.length : Int) + 1)) (s3 : ∀ d, OddOf ((xs.length : Int) + 1) d → Sm ((xs.length : Int) * (x - (xs.sum + x).fmod d) - xs.sum))
    (hQ : ∀ h' tk m' d d' tx ty tn t1 t2 t3 t4, OddOf ((xs.length : Int) + 1) d → OddOf ((xs.length : Int) + 1) d' → Fr h₀ L h' m' → News h₀ L h' ((I, oI) :: (aX, listOf (List.toArray (zx ++ [.int (x - (xs.sum + x).fmod d) tx])) (cx + 1)) :: (aY, listOf (List.toArray (zy ++ [.int (y - (ys.sum + y).fmod d') ty])) (cy + 1)) :: (aP, listOf (List.toArray zs) c) :: (107, tabObj pc) :: (186, tabObj ps) :: tups) → m' (Str.ofString "most") = some (.int most tm) → m' (Str.ofString "xs") = some (.ref aX) → m' (Str.ofString "ys") = some (.ref aY) → m' (Str.ofString "n") = some (.int ((xs ++ [x - (xs.sum + x).fmod d]).length : Int) tn) → m' (Str.ofString "sx") = some (.int (xs ++ [x - (xs.sum + x).fmod d]).sum t1) → m' (Str.ofString "sy") = some (.int (ys ++ [y - (ys.sum + y).fmod d']).sum t2) → m' (Str.ofString "xy") = some (.int (XY (xs ++ [x - (xs.sum + x).fmod d]) (ys ++ [y - (ys.sum + y).fmod d'])) t3) → m' (Str.ofString "xx") = some (.int (XY (xs ++ [x - (xs.sum + x).fmod d]) (xs ++ [x - (xs.sum + x).fmod d])) t4) →
      wpAny (model PySem.Challenge.rw_kq0023_05.row.prog w) (callerA.deeper (envOf (Str.ofString "law") lawScope L fa cd)) (execs (tbRest 7) (envOf (Str.ofString "law") lawScope L fa cd)) Q (fun e s' => wpAny (model PySem.Challenge.rw_kq0023_05.row.prog w) (callerA.deeper (envOf (Str.ofString "law") lawScope L fa cd)) (leaving (envOf (Str.ofString "law") lawScope L fa cd) e) (fun _ s'' => R1 e s'') (fun e' s'' => R2 e' s'') s') ⟨h', s.gens, s.drawn, tk, s.os⟩) :
    (Mine.hd.heap_39 w.params).In h₀ → wpAny (model PySem.Challenge.rw_kq0023_05.row.prog w) (callerA.deeper (envOf (Str.ofString "law") lawScope L fa cd)) (execs (tbRest 1) (envOf (Str.ofString "law") lawScope L fa cd)) Q (fun e s' => wpAny (model PySem.Challenge.rw_kq0023_05.row.prog w) (callerA.deeper (envOf (Str.ofString "law") lawScope L fa cd)) (leaving (envOf (Str.ofString "law") lawScope L fa cd) e) (fun _ s'' => R1 e s'') (fun e' s'' => R2 e' s'') s') s := by
  k_fill
  intro X
  obtain ⟨n1, n2, n3, n4, n5, n6, n7⟩ := hne
  obtain ⟨i1, i2⟩ := hnI
  dsimp only [tbRest, forBody, lawRest, lawScope, lawFn, fnScope, fnBody, PySem.Challenge.pw_kq0023_05, List.getLastD, List.getLast, List.drop, List.headD]
  k_steps
  all_goals (try k_data)
  · unfold StopC
    rename News _ _ _ _ => NN
    rename Fr _ _ _ _ => FF
    exact hQ _ _ _ _ _ _ _ _ _ _ _ _ (by assumption) (by assumption) FF (fun q hq => NN q (.tail _ (.tail _ (.tail _ hq)))) rfl rfl rfl (mI rfl (len_snoc _ _)) (mI rfl (sum_snoc _ _)) (mI rfl (sum_snoc _ _)) (mI rfl (XY_snoc hl rfl (by assumption))) (mI rfl (XY_snoc rfl rfl (by assumption)))
  · unfold StopC
    rename News _ _ _ _ => NN
    rename Fr _ _ _ _ => FF
    exact hQ _ _ _ _ _ _ _ _ _ _ _ _ (by assumption) (by assumption) FF (fun q hq => NN q (.tail _ hq)) rfl rfl rfl (mI rfl (len_snoc _ _)) (mI rfl (sum_snoc _ _)) (mI rfl (sum_snoc _ _)) (mI rfl (XY_first hl (by assumption))) (mI rfl (XY_first rfl (by assumption)))
end Mine
end

section
open PySem PySem.W PySem.Calls PyProof.Rows
set_option maxRecDepth 100000
set_option maxHeartbeats 2000000
namespace Mine
theorem tab_off {h₀ h : Heap} {L P : Addr} {ps : Array Value} {all rest : List (Addr × Obj)} (N : News h₀ L h all) (hm : (P, tabObj ps) ∈ all) (hs : ∀ q ∈ rest, q ∈ all) (hc : ∀ q ∈ rest, q.2.cls ≠ .none) : ∀ q ∈ rest, q.1 ≠ P := fun q hq e => by
  have h1 := (N _ (hs q hq)).1
  have h2 := (N _ hm).1
  rw [e, h2] at h1
  have e2 : tabObj ps = q.2 := Option.some.inj h1
  exact hc q hq (by rw [← e2]; rfl)
theorem holds_6 {w : World} {dp un : Nat} {gd : Option (List Code)} {cn : Str} {cs : Scope} {a : Addr} {ccd : Value} {cl : List (Str × Addr)} {A₀ : Around} {base h₀ : Heap} {L : Addr} {m : Str → Option Value} {s : Shared} {Q E : Value → Shared → Prop}
    {mean : ExcName → Option Value} {mg mb : Str → Option Value} {a1 a2 a3 a4 a5 a6 : Addr × Obj} {r : List (Addr × Obj)} {pc ps : Array Value} {ax ay : Addr} {zx zy : List Value} {xs ys : List Int} {cx cy n : Nat} {far xy xx : Int} {t1 t2 t3 t4 : Tok}
    (B : Below A₀ base [] h₀) (F : Fr h₀ L s.heap m) (N : News h₀ L s.heap (a1 :: a2 :: a3 :: a4 :: a5 :: a6 :: (107, tabObj pc) :: (186, tabObj ps) :: r)) (hTc : TabOk pc) (hT : TabOk ps) (T : Top Mine.vw (looseW Mine.vw [Str.ofString "_tuplegetter", Str.ofString "LinearRegression", Str.ofString "linear_regression", Str.ofString "covariance"]) mean mg mb h₀) (hk : cs.kind = .function) (hd : dp + 20 < recursionLimit) (hu : un + 100 < cLine)
    (hx : (ax, listOf zx.toArray cx) ∈ a1 :: a2 :: a3 :: a4 :: a5 :: a6 :: r) (hy : (ay, listOf zy.toArray cy) ∈ a1 :: a2 :: a3 :: a4 :: a5 :: a6 :: r) (ix : IntsAre zx xs) (iy : IntsAre zy ys)
    (hgs : AllBare s.gens) (h9 : ∀ p ∈ a1 :: a2 :: a3 :: a4 :: a5 :: a6 :: r, p.2.cls ≠ .none) (nb : NoneBooked base)
    (XB : (Mine.hd.heap_39 w.params).In base) (TB : Top Mine.vw (looseW Mine.vw [Str.ofString "_tuplegetter", Str.ofString "LinearRegression", Str.ofString "linear_regression", Str.ofString "covariance"]) mean mg mb base) (P : Pts5 xs ys far n xy xx)
    (hQ : ∀ h' tk gs' pc' ps', TabOk pc' → TabOk ps' → Fr h₀ L h' m → News h₀ L h' (a1 :: a2 :: a3 :: a4 :: a5 :: a6 :: (107, tabObj pc') :: (186, tabObj ps') :: r) → AllBare gs' → Q (.bool true) ⟨h', gs', s.drawn, tk, s.os⟩) :
    (Mine.hd.heap_39 w.params).In h₀ → wpAny (model PySem.Challenge.rw_kq0023_05.row.prog w) (ktrTop dp un gd cn cs L a ccd cl []) (call (.ref 208) [.ref ax, .ref ay, .int far t1, .int n t2, .int xy t3, .int xx t4]) Q E s := by
  have hsub : ∀ q ∈ a1 :: a2 :: a3 :: a4 :: a5 :: a6 :: r, q ∈ a1 :: a2 :: a3 :: a4 :: a5 :: a6 :: (107, tabObj pc) :: (186, tabObj ps) :: r := fun q hq => by
    simp only [List.mem_cons] at hq ⊢
    grind
  have o1 := tab_off N (P := 107) (ps := pc) (by simp) hsub h9
  have o2 := tab_off N (P := 186) (ps := ps) (by simp) hsub h9
  refine holds_t B F (news := a1 :: a2 :: a3 :: a4 :: a5 :: a6 :: r) (fun q hq => N q ?_) hTc hT T hk hd hu hx hy ix iy hgs (fun p hp => ⟨o1 p hp, o2 p hp⟩) nb XB TB P fun h' tk gs' pc' ps' q1 q2 F' N' hb => hQ h' tk gs' pc' ps' q1 q2 F' (fun q hq => N' q ?_) hb
  · simp only [List.mem_cons] at hq ⊢
    grind
  · simp only [List.mem_cons] at hq ⊢
    grind
end Mine
end

section
open PySem PySem.W PySem.Calls PyProof.Rows
set_option maxRecDepth 100000
set_option maxHeartbeats 2000000
namespace Mine
theorem zz_TB4 : True := by
  w_top off
  k_with_none
  trivial
theorem map_8 {m : Str → Option Value} {k1 k2 k3 k4 k5 k6 k7 k8 : Str} {v1 v2 v3 v4 v5 v6 v7 v8 : Value} (h1 : m k1 = some v1) (h2 : m k2 = some v2) (h3 : m k3 = some v3) (h4 : m k4 = some v4) (h5 : m k5 = some v5) (h6 : m k6 = some v6) (h7 : m k7 = some v7) (h8 : m k8 = some v8) : m = fun z => if z = k1 then some v1 else if z = k2 then some v2 else if z = k3 then some v3 else if z = k4 then some v4 else if z = k5 then some v5 else if z = k6 then some v6 else if z = k7 then some v7 else if z = k8 then some v8 else m z := by
  funext z
  split
  · rename_i e; rw [e, h1]
  · skip
    split
    · rename_i e; rw [e, h2]
    · skip
      split
      · rename_i e; rw [e, h3]
      · skip
        split
        · rename_i e; rw [e, h4]
        · skip
          split
          · rename_i e; rw [e, h5]
          · skip
            split
            · rename_i e; rw [e, h6]
            · skip
              split
              · rename_i e; rw [e, h7]
              · skip
                split
                · rename_i e; rw [e, h8]
                · rfl
theorem fr_8 {g h : Heap} {L : Addr} {m : Str → Option Value} {k1 k2 k3 k4 k5 k6 k7 k8 : Str} {v1 v2 v3 v4 v5 v6 v7 v8 : Value} (F : Fr g L h m) (h1 : m k1 = some v1) (h2 : m k2 = some v2) (h3 : m k3 = some v3) (h4 : m k4 = some v4) (h5 : m k5 = some v5) (h6 : m k6 = some v6) (h7 : m k7 = some v7) (h8 : m k8 = some v8) : Fr g L h (fun z => if z = k1 then some v1 else if z = k2 then some v2 else if z = k3 then some v3 else if z = k4 then some v4 else if z = k5 then some v5 else if z = k6 then some v6 else if z = k7 then some v7 else if z = k8 then some v8 else m z) := by
  rw [← map_8 h1 h2 h3 h4 h5 h6 h7 h8]; exact F
theorem fr_8k {g h : Heap} {L : Addr} {m : Str → Option Value} {k : Str} {v : Option Value} {k1 k2 k3 k4 k5 k6 k7 k8 : Str} {v1 v2 v3 v4 v5 v6 v7 v8 : Value} (F : Fr g L h (fun z => if z = k then v else m z)) (h1 : m k1 = some v1) (h2 : m k2 = some v2) (h3 : m k3 = some v3) (h4 : m k4 = some v4) (h5 : m k5 = some v5) (h6 : m k6 = some v6) (h7 : m k7 = some v7) (h8 : m k8 = some v8) : Fr g L h (fun z => if z = k then v else if z = k1 then some v1 else if z = k2 then some v2 else if z = k3 then some v3 else if z = k4 then some v4 else if z = k5 then some v5 else if z = k6 then some v6 else if z = k7 then some v7 else if z = k8 then some v8 else m z) := by
  have e := map_8 h1 h2 h3 h4 h5 h6 h7 h8
  rw [e] at F
  exact F
theorem cls_7 {a1 a2 a3 a4 a5 a6 : Addr × Obj} {r : List (Addr × Obj)} {c1 c3 : String} (h1 : a1.2.cls = .type c1) (h2 : a2.2.cls ≠ .none) (h3 : a3.2.cls = .type c3) (h4 : a4.2.cls ≠ .none) (h5 : a5.2.cls ≠ .none) (h6 : a6.2.cls ≠ .none) (h : ∀ p ∈ r, p.2.cls = .type "tuple") : ∀ p ∈ a1 :: a2 :: a3 :: a4 :: a5 :: a6 :: r, p.2.cls ≠ .none := fun p hp => by
  simp only [List.mem_cons] at hp
  rcases hp with rfl | rfl | rfl | rfl | rfl | rfl | hp
  · rw [h1]; intro e; cases e
  · exact h2
  · rw [h3]; intro e; cases e
  · exact h4
  · exact h5
  · exact h6
  · rw [h p hp]; intro e; cases e
theorem off_tabs {I2 : Addr} {a1 a2 a3 a4 a5 : Addr × Obj} {o1 o2 o1' o2' : Obj} {P R : Addr} {r : List (Addr × Obj)} (h : ∀ p ∈ a1 :: a2 :: a3 :: a4 :: a5 :: (P, o1) :: (R, o2) :: r, @Ne Nat p.1 I2) : ∀ p ∈ a1 :: a2 :: a3 :: a4 :: a5 :: (P, o1') :: (R, o2') :: r, @Ne Nat p.1 I2 := fun p hp => by
  simp only [List.mem_cons] at hp h
  rcases hp with e | e | e | e | e | e | e | e
  · exact h p (.inl e)
  · exact h p (.inr (.inl e))
  · exact h p (.inr (.inr (.inl e)))
  · exact h p (.inr (.inr (.inr (.inl e))))
  · exact h p (.inr (.inr (.inr (.inr (.inl e)))))
  · rw [e]; exact h (P, o1) (.inr (.inr (.inr (.inr (.inr (.inl rfl))))))
  · rw [e]; exact h (R, o2) (.inr (.inr (.inr (.inr (.inr (.inr (.inl rfl)))))))
  · exact h p (.inr (.inr (.inr (.inr (.inr (.inr (.inr e)))))))
def StopD (P : Prop) : Prop := P
theorem stopD_ {P : Prop} (h : StopD P) : P := h
theorem zz_TB4_20 : True := by
  k_with "my exec For Name Tuple cons nil" =>
    (k_here; (rename Fr _ _ _ _ => lFzz113'); (with_unfolding_all refine' For_G lFzz113' ?zz113k1 ?zz113k2 ?_; (case zz113k1 => exact rfl); (case zz113k2 => exact rfl); k_whole))
  k_with "my pyIter ref" =>
    ((with_reducible show wpAny _ _ (pyIter (Value.ref _)) (fun itzz114 s₂ => LoopAtG _ _ _ _ _ _ _ _ _ itzz114 s₂) _ _); refine stopD_ ?_)
  k_with "my TurnG" =>
    (refine stopD_ ?_)
  k_with "my call ref cons" =>
    (k_here; (with_reducible show wpAny _ _ (call (Value.ref 208) _ _) _ _ _); k_dflt (refine' holds_6 ?zz116B ?zz116F ?zz116N ?zz116hTc ?zz116hT ?zz116T ?zz116hk ?zz116hd ?zz116hu ?zz116hx ?zz116hy ?zz116ix ?zz116iy ?zz116hgs ?zz116h9 ?zz116nb ?zz116XB ?zz116TB ?zz116P ?_ ?zz116X; (case zz116X => k_asm); (case zz116B => assumption); (case zz116F => k_asm); (case zz116N => k_asm); (case zz116hTc => assumption); (case zz116hT => assumption); (case zz116T => assumption); (case zz116hk => rfl); (case zz116hd => first | ktr_room | decide); (case zz116hu => first | ktr_units | decide); (case zz116hx => k_mem); (case zz116hy => k_mem); (case zz116P => assumption); (case zz116ix => assumption); (case zz116iy => assumption); (case zz116hgs => assumption); (case zz116h9 => exact cls_7 (by assumption) (by intro ezz116; cases ezz116) (by assumption) (by intro ezz116; cases ezz116) (by intro ezz116; cases ezz116) (by intro ezz116; cases ezz116) (TupsAre.cls (by assumption))); (case zz116nb => assumption); (case zz116XB => assumption); (case zz116TB => assumption); k_whole; intro hzz116' tkzz116' gszz116' pczz116' pszz116' hTczz116' hTzz116' Fzz116' Nzz116' hbzz116'))
  trivial
theorem tb3a {w : World} {fa : Addr} {cd : Value} {h₀ : Heap} {mean : ExcName → Option Value} {mg mb : Str → Option Value} {s : Shared} {Q : Flow → Shared → Prop} {R1 R2 : Value → Shared → Prop} {L aX aY aP I : Addr} {m : Str → Option Value} {zx zy zs : List Value} {xs ys : List Int} {cx cy c : Nat} {most : Int} {tm tn t1 t2 t3 t4 : Tok} {pc ps : Array Value} {tups : List (Addr × Obj)} {oI : Obj} {pts : List (Int × Int)}
    (B : Below callerA h₀ [] h₀) (F : Fr h₀ L s.heap (fun z => if z = Str.ofString "most" then some (.int most tm) else if z = Str.ofString "xs" then some (.ref aX) else if z = Str.ofString "ys" then some (.ref aY) else if z = Str.ofString "n" then some (.int (xs.length : Int) tn) else if z = Str.ofString "sx" then some (.int xs.sum t1) else if z = Str.ofString "sy" then some (.int ys.sum t2) else if z = Str.ofString "xy" then some (.int (XY xs ys) t3) else if z = Str.ofString "xx" then some (.int (XY xs xs) t4) else m z)) (N : News h₀ L s.heap ((I, oI) :: (aX, listOf (List.toArray zx) cx) :: (aY, listOf (List.toArray zy) cy) :: (aP, listOf (List.toArray zs) c) :: (107, tabObj pc) :: (186, tabObj ps) :: tups))
    (T : Top Mine.vw (looseW Mine.vw [Str.ofString "_tuplegetter", Str.ofString "LinearRegression", Str.ofString "linear_regression", Str.ofString "covariance"]) mean mg mb h₀) (hP : TupsAre tups zs pts) (hTc : TabOk pc) (hT : TabOk ps) (hgs : AllBare s.gens) (nb : NoneBooked h₀) (hcI : oI.cls = .type "list_iterator")
    (ix : IntsAre zx xs) (iy : IntsAre zy ys) (hn : 2 ≤ xs.length) (P1 : Pts5 xs ys 0 xs.length (XY xs ys) (XY xs xs)) (P2 : Pts5 xs ys (2 ^ Int.toNat 40) xs.length (XY xs ys) (XY xs xs))
    (hQ : ∀ h' tk m' gs' pc' ps', Fr h₀ L h' m' → News h₀ L h' ((I, oI) :: (aX, listOf (List.toArray zx) cx) :: (aY, listOf (List.toArray zy) cy) :: (aP, listOf (List.toArray zs) c) :: (107, tabObj pc') :: (186, tabObj ps') :: tups) → AllBare gs' → TabOk pc' → TabOk ps' → m' (Str.ofString "most") = some (.int most tm) → m' (Str.ofString "xs") = some (.ref aX) → m' (Str.ofString "ys") = some (.ref aY) → m' (Str.ofString "n") = some (.int (xs.length : Int) tn) → m' (Str.ofString "sx") = some (.int xs.sum t1) → m' (Str.ofString "sy") = some (.int ys.sum t2) → m' (Str.ofString "xy") = some (.int (XY xs ys) t3) → m' (Str.ofString "xx") = some (.int (XY xs xs) t4) → Q .next ⟨h', gs', s.drawn, tk, s.os⟩) :
    (Mine.hd.heap_39 w.params).In h₀ → wpAny (model PySem.Challenge.rw_kq0023_05.row.prog w) (callerA.deeper (envOf (Str.ofString "law") lawScope L fa cd)) (execs (tbRest 7) (envOf (Str.ofString "law") lawScope L fa cd)) Q (fun e s' => wpAny (model PySem.Challenge.rw_kq0023_05.row.prog w) (callerA.deeper (envOf (Str.ofString "law") lawScope L fa cd)) (leaving (envOf (Str.ofString "law") lawScope L fa cd) e) (fun _ s'' => R1 e s'') (fun e' s'' => R2 e' s'') s') s := by
  k_fill
  intro X
  dsimp only [tbRest, forBody, lawRest, lawScope, lawFn, fnScope, fnBody, PySem.Challenge.pw_kq0023_05, List.getLastD, List.getLast, List.drop, List.headD]
  k_steps
  all_goals (try k_data)
  unfold StopD
  rename News _ _ _ _ => NN
  rename Fr _ _ _ _ => FF
  refine pair_inv (fun gs m₁ n₁ => AllBare gs ∧ m₁ (Str.ofString "most") = some (.int most tm) ∧ m₁ (Str.ofString "xs") = some (.ref aX) ∧ m₁ (Str.ofString "ys") = some (.ref aY) ∧ m₁ (Str.ofString "n") = some (.int (xs.length : Int) tn) ∧ m₁ (Str.ofString "sx") = some (.int xs.sum t1) ∧ m₁ (Str.ofString "sy") = some (.int ys.sum t2) ∧ m₁ (Str.ofString "xy") = some (.int (XY xs ys) t3) ∧ m₁ (Str.ofString "xx") = some (.int (XY xs xs) t4) ∧ ∃ pc ps, TabOk pc ∧ TabOk ps ∧ n₁ = _ :: ((I, oI) :: (aX, listOf (List.toArray zx) cx) :: (aY, listOf (List.toArray zy) cy) :: (aP, listOf (List.toArray zs) c) :: (107, tabObj pc) :: (186, tabObj ps) :: tups)) rfl FF NN (.head _) ⟨hgs, rfl, rfl, rfl, rfl, rfl, rfl, rfl, rfl, pc, ps, hTc, hT, rfl⟩ (fun gs m₁ n₁ hJ => ?_) (fun v hv gs m₁ news₁ I2 oI2 h tk hJ off hcI2 F₁ N₁ => ?_) (fun gs h' tk m' news' F' N' hJ => ?_)
  · obtain ⟨_, _, _, _, _, _, _, _, _, pc, ps, _, _, rfl⟩ := hJ
    exact .head _
  · obtain ⟨hb, m1, m2, m3, m4, m5, m6, m7, m8, pc', ps', hTc', hT', rfl⟩ := hJ
    have F₂ := fr_8k F₁ m1 m2 m3 m4 m5 m6 m7 m8
    (try clear FF); (try clear NN); clear F₁ hTc hT hgs
    rcases hv with rfl | rfl
    all_goals (k_steps; (all_goals (try k_data)); (all_goals (try (exact absurd (by assumption) (by omega)))); unfold StopD; (rename News _ _ _ _ => NN2); (rename Fr _ _ _ _ => FF2); exact ⟨rfl, _, _, _, _, _, rfl, FF2, NN2, off_tabs off, by assumption, rfl, rfl, rfl, rfl, rfl, rfl, rfl, rfl, _, _, by assumption, by assumption, rfl⟩)
  · obtain ⟨hb, m1, m2, m3, m4, m5, m6, m7, m8, pc', ps', hTc', hT', rfl⟩ := hJ
    refine wpAny_execs_nil ?_
    exact hQ _ _ _ _ _ _ F' (fun q hq => N' q (.tail _ hq)) hb hTc' hT' m1 m2 m3 m4 m5 m6 m7 m8
theorem tb3b {w : World} {fa : Addr} {cd : Value} {h₀ : Heap} {mean : ExcName → Option Value} {mg mb : Str → Option Value} {s : Shared} {Q : Flow → Shared → Prop} {R1 R2 : Value → Shared → Prop} {L aX aY aP I : Addr} {m : Str → Option Value} {zx zy zs : List Value} {xs ys : List Int} {cx cy c : Nat} {most : Int} {tm tn t1 t2 t3 t4 : Tok} {pc ps : Array Value} {tups : List (Addr × Obj)} {oI : Obj} {pts : List (Int × Int)}
    (B : Below callerA h₀ [] h₀) (F : Fr h₀ L s.heap (fun z => if z = Str.ofString "most" then some (.int most tm) else if z = Str.ofString "xs" then some (.ref aX) else if z = Str.ofString "ys" then some (.ref aY) else if z = Str.ofString "n" then some (.int (xs.length : Int) tn) else if z = Str.ofString "sx" then some (.int xs.sum t1) else if z = Str.ofString "sy" then some (.int ys.sum t2) else if z = Str.ofString "xy" then some (.int (XY xs ys) t3) else if z = Str.ofString "xx" then some (.int (XY xs xs) t4) else m z)) (N : News h₀ L s.heap ((I, oI) :: (aX, listOf (List.toArray zx) cx) :: (aY, listOf (List.toArray zy) cy) :: (aP, listOf (List.toArray zs) c) :: (107, tabObj pc) :: (186, tabObj ps) :: tups))
    (T : Top Mine.vw (looseW Mine.vw [Str.ofString "_tuplegetter", Str.ofString "LinearRegression", Str.ofString "linear_regression", Str.ofString "covariance"]) mean mg mb h₀) (hP : TupsAre tups zs pts) (hTc : TabOk pc) (hT : TabOk ps) (hgs : AllBare s.gens) (nb : NoneBooked h₀) (hcI : oI.cls = .type "list_iterator")
    (ix : IntsAre zx xs) (iy : IntsAre zy ys) (hn : xs.length < 2)
    (hQ : ∀ h' tk m' gs' pc' ps', Fr h₀ L h' m' → News h₀ L h' ((I, oI) :: (aX, listOf (List.toArray zx) cx) :: (aY, listOf (List.toArray zy) cy) :: (aP, listOf (List.toArray zs) c) :: (107, tabObj pc') :: (186, tabObj ps') :: tups) → AllBare gs' → TabOk pc' → TabOk ps' → m' (Str.ofString "most") = some (.int most tm) → m' (Str.ofString "xs") = some (.ref aX) → m' (Str.ofString "ys") = some (.ref aY) → m' (Str.ofString "n") = some (.int (xs.length : Int) tn) → m' (Str.ofString "sx") = some (.int xs.sum t1) → m' (Str.ofString "sy") = some (.int ys.sum t2) → m' (Str.ofString "xy") = some (.int (XY xs ys) t3) → m' (Str.ofString "xx") = some (.int (XY xs xs) t4) → Q .next ⟨h', gs', s.drawn, tk, s.os⟩) :
    (Mine.hd.heap_39 w.params).In h₀ → wpAny (model PySem.Challenge.rw_kq0023_05.row.prog w) (callerA.deeper (envOf (Str.ofString "law") lawScope L fa cd)) (execs (tbRest 7) (envOf (Str.ofString "law") lawScope L fa cd)) Q (fun e s' => wpAny (model PySem.Challenge.rw_kq0023_05.row.prog w) (callerA.deeper (envOf (Str.ofString "law") lawScope L fa cd)) (leaving (envOf (Str.ofString "law") lawScope L fa cd) e) (fun _ s'' => R1 e s'') (fun e' s'' => R2 e' s'') s') s := by
  k_fill
  intro X
  dsimp only [tbRest, forBody, lawRest, lawScope, lawFn, fnScope, fnBody, PySem.Challenge.pw_kq0023_05, List.getLastD, List.getLast, List.drop, List.headD]
  k_steps
  all_goals (try k_data)
  unfold StopD
  rename News _ _ _ _ => NN
  rename Fr _ _ _ _ => FF
  refine pair_inv (fun gs m₁ n₁ => AllBare gs ∧ m₁ (Str.ofString "most") = some (.int most tm) ∧ m₁ (Str.ofString "xs") = some (.ref aX) ∧ m₁ (Str.ofString "ys") = some (.ref aY) ∧ m₁ (Str.ofString "n") = some (.int (xs.length : Int) tn) ∧ m₁ (Str.ofString "sx") = some (.int xs.sum t1) ∧ m₁ (Str.ofString "sy") = some (.int ys.sum t2) ∧ m₁ (Str.ofString "xy") = some (.int (XY xs ys) t3) ∧ m₁ (Str.ofString "xx") = some (.int (XY xs xs) t4) ∧ ∃ pc ps, TabOk pc ∧ TabOk ps ∧ n₁ = _ :: ((I, oI) :: (aX, listOf (List.toArray zx) cx) :: (aY, listOf (List.toArray zy) cy) :: (aP, listOf (List.toArray zs) c) :: (107, tabObj pc) :: (186, tabObj ps) :: tups)) rfl FF NN (.head _) ⟨hgs, rfl, rfl, rfl, rfl, rfl, rfl, rfl, rfl, pc, ps, hTc, hT, rfl⟩ (fun gs m₁ n₁ hJ => ?_) (fun v hv gs m₁ news₁ I2 oI2 h tk hJ off hcI2 F₁ N₁ => ?_) (fun gs h' tk m' news' F' N' hJ => ?_)
  · obtain ⟨_, _, _, _, _, _, _, _, _, pc, ps, _, _, rfl⟩ := hJ
    exact .head _
  · obtain ⟨hb, m1, m2, m3, m4, m5, m6, m7, m8, pc', ps', hTc', hT', rfl⟩ := hJ
    have F₂ := fr_8k F₁ m1 m2 m3 m4 m5 m6 m7 m8
    (try clear FF); (try clear NN); clear F₁ hTc hT hgs
    rcases hv with rfl | rfl
    all_goals (k_steps; (all_goals (try k_data)); (all_goals (try (exact absurd (by assumption) (by omega)))); unfold StopD; (rename News _ _ _ _ => NN2); (rename Fr _ _ _ _ => FF2); exact ⟨rfl, _, _, _, _, _, rfl, FF2, NN2, off_tabs off, by assumption, rfl, rfl, rfl, rfl, rfl, rfl, rfl, rfl, _, _, by assumption, by assumption, rfl⟩)
  · obtain ⟨hb, m1, m2, m3, m4, m5, m6, m7, m8, pc', ps', hTc', hT', rfl⟩ := hJ
    refine wpAny_execs_nil ?_
    exact hQ _ _ _ _ _ _ F' (fun q hq => N' q (.tail _ hq)) hb hTc' hT' m1 m2 m3 m4 m5 m6 m7 m8
end Mine
end

section
open PySem PySem.W
namespace Mine
structure BdAll (B : Nat) (us : List Int) : Prop where
  bd : ∀ k ∈ us, k.natAbs ≤ B
theorem bd_sum {B : Nat} : ∀ {us : List Int}, BdAll B us → us.sum.natAbs ≤ B * us.length
  | [], _ => by simp
  | a :: l, h => by
    have h1 := h.bd a (.head _)
    have h2 := bd_sum (us := l) ⟨fun k hk => h.bd k (.tail _ hk)⟩
    rw [List.sum_cons, List.length_cons, Nat.mul_add]
    omega
theorem bd_map {α : Type} {B : Nat} {f : α → Int} {l : List α} (h : ∀ x ∈ l, (f x).natAbs ≤ B) : BdAll B (l.map f) := ⟨fun k hk => by
  obtain ⟨z, hz, rfl⟩ := List.mem_map.mp hk
  exact h z hz⟩
theorem bd_at {B : Nat} {us : List Int} (h : BdAll B us) (i : Nat) : (us.getD i 0).natAbs ≤ B := by
  rcases Nat.lt_or_ge i us.length with c | c
  · rw [List.getD_eq_getElem?_getD, List.getElem?_eq_getElem c]; exact h.bd _ (List.getElem_mem c)
  · rw [List.getD_eq_getElem?_getD, List.getElem?_eq_none c]; exact Nat.zero_le _
theorem mul_le {a b : Int} {A B : Nat} (ha : a.natAbs ≤ A) (hb : b.natAbs ≤ B) : (a * b).natAbs ≤ A * B := by
  rw [Int.natAbs_mul]; exact Nat.mul_le_mul ha hb
end Mine
end

section
open PySem PySem.W PySem.Calls PyProof.Rows Float64
set_option maxRecDepth 100000
set_option maxHeartbeats 1000000
set_option exponentiation.threshold 3000
namespace Mine
theorem ps_lin (f g : Nat → Int) (a b c : Int) : ∀ j, preSum (fun i => a * f i + b * g i + c) j = a * preSum f j + b * preSum g j + c * j
  | 0 => by simp [preSum]
  | j + 1 => by
    show preSum (fun i => a * f i + b * g i + c) j + (a * f j + b * g j + c) = a * (preSum f j + f j) + b * (preSum g j + g j) + c * ((j + 1 : Nat) : Int)
    rw [ps_lin f g a b c j]
    push_cast
    grind
theorem ps_scale (f : Nat → Int) (K : Int) : ∀ j, preSum (fun i => f i * K) j = preSum f j * K
  | 0 => by simp [preSum]
  | j + 1 => by
    show preSum (fun i => f i * K) j + f j * K = (preSum f j + f j) * K
    rw [ps_scale f K j]; grind
theorem ps_bound {f : Nat → Int} {B n : Nat} (h : ∀ i, i < n → (f i).natAbs ≤ B) : ∀ j, j ≤ n → (preSum f j).natAbs ≤ j * B
  | 0, _ => by simp [preSum]
  | j + 1, hj => by
    have h1 := ps_bound h j (by omega)
    have h2 := h j (by omega)
    show (preSum f j + f j).natAbs ≤ (j + 1) * B
    rw [Nat.add_mul, Nat.one_mul]
    omega
theorem ps_sq {d : Nat → Int} : ∀ {n : Nat}, 0 ≤ preSum (fun i => d i * d i) n ∧ (preSum (fun i => d i * d i) n = 0 → ∀ i, i < n → d i = 0)
  | 0 => ⟨Int.le_refl _, fun _ i hi => by omega⟩
  | n + 1 => by
    obtain ⟨h1, h2⟩ := ps_sq (d := d) (n := n)
    have h3 : 0 ≤ d n * d n := by rcases Int.le_total 0 (d n) with c | c
                                  · exact Int.mul_nonneg c c
                                  · exact Int.mul_nonneg_of_nonpos_of_nonpos c c
    refine ⟨Int.add_nonneg h1 h3, fun e i hi => ?_⟩
    have e' : preSum (fun i => d i * d i) n + d n * d n = 0 := e
    rcases Nat.lt_succ_iff_lt_or_eq.mp hi with c | rfl
    · exact h2 (by omega) i c
    · have : d i * d i = 0 := by omega
      rcases Int.mul_eq_zero.mp this with h | h <;> exact h
theorem sum_ps {us : List Int} {n : Nat} (h : us.length = n) : us.sum = preSum (fun i => us.getD i 0) n := by
  rw [preSum_list, List.take_of_length_le (by omega)]
theorem ps_upd {f g : Nat → Int} {a : Nat} {d : Int} (hne : ∀ i, i ≠ a → g i = f i) (ha : g a = f a + d) : ∀ n, preSum g n = preSum f n + if a < n then d else 0
  | 0 => by simp [preSum]
  | n + 1 => by
    show preSum g n + g n = preSum f n + f n + _
    rw [ps_upd hne ha n]
    by_cases e : n = a
    · subst e; rw [ha, if_neg (Nat.lt_irrefl _), if_pos (Nat.lt_succ_self _)]; omega
    · rw [hne n e]
      by_cases c : a < n
      · rw [if_pos c, if_pos (by omega)]; omega
      · rw [if_neg c, if_neg (by omega)]; omega
end Mine
end

section
open PySem PySem.W PySem.Calls PyProof.Rows PySem.Spec
set_option maxRecDepth 100000
set_option maxHeartbeats 1000000
set_option exponentiation.threshold 3000
namespace Mine
structure C5 (P Q R S T : Int) : Prop where
  fP : ∀ a : Int, a.natAbs ≤ 2 ^ 53 → Fits (a * P)
  fQ : ∀ a : Int, a.natAbs ≤ 2 ^ 53 → Fits (a * Q)
  fR : ∀ a : Int, a.natAbs ≤ 2 ^ 53 → Fits (a * R)
  fS : ∀ a : Int, a.natAbs ≤ 2 ^ 53 → Fits (a * S)
  fT : ∀ a : Int, a.natAbs ≤ 2 ^ 53 → Fits (a * T)
  pq : P * Q = R * T
  pp : P * P = S * T
  t : T = 2 ^ 1074
theorem c5_of (a b r s : Nat) (h1 : a + b = r + 1074) (h2 : a + a = s + 1074) (ha : a ≤ 1990) (hb : b ≤ 1990) (hr : r ≤ 1990) (hs : s ≤ 1990) : C5 (2 ^ a) (2 ^ b) (2 ^ r) (2 ^ s) (2 ^ 1074) :=
  ⟨fun x h => Fits.of x a h ha, fun x h => Fits.of x b h hb, fun x h => Fits.of x r h hr, fun x h => Fits.of x s h hs, fun x h => Fits.of x 1074 h (by decide), by rw [← Int.pow_add, ← Int.pow_add, h1], by rw [← Int.pow_add, ← Int.pow_add, h2], rfl⟩
theorem sum_mapL {f : Int → Int} : ∀ {l : List Int} {a b : Int}, (∀ x ∈ l, f x = a * x + b) → (l.map f).sum = a * l.sum + b * l.length
  | [], _, _, _ => by simp
  | x :: l, a, b, h => by
    rw [List.map_cons, List.sum_cons, List.sum_cons, h x (.head _), sum_mapL (l := l) (a := a) (b := b) fun y hy => h y (.tail _ hy), List.length_cons]
    push_cast
    grind
theorem full5 {P Q R S T : Int} (c : C5 P Q R S T) {ds es : List Int} {N : Nat} {left high : Int} {zx zy : List Value} (hx : NumsAre zx (ds.map fun d => (left + d) * P)) (hy : NumsAre zy (es.map fun e => (high + e) * Q)) (ld : ds.length = N) (le : es.length = N) (hN : N ≤ 16) (hsd : ds.sum = 0) (hse : es.sum = 0)
    (bd : BdAll (2 ^ 24) ds) (be : BdAll (2 ^ 24) es) (bl : left.natAbs ≤ 2 ^ 48) (bh : high.natAbs ≤ 2 ^ 48) :
    FullOk zx zy (ds.map fun d => (left + d) * P) (es.map fun e => (high + e) * Q) N (left * P) (high * Q) (fun i => ds.getD i 0 * es.getD i 0 * R) (fun i => ds.getD i 0 * ds.getD i 0 * S) := by
  have gx : ∀ i, i < N → (ds.map fun d => (left + d) * P).getD i 0 = (left + ds.getD i 0) * P := fun i hi => getD_mp (by omega)
  have gy : ∀ i, i < N → (es.map fun e => (high + e) * Q).getD i 0 = (high + es.getD i 0) * Q := fun i hi => getD_mp (by omega)
  have b1 : ∀ i, (ds.getD i 0).natAbs ≤ 2 ^ 24 := fun i => bd_at bd i
  have b2 : ∀ i, (es.getD i 0).natAbs ≤ 2 ^ 24 := fun i => bd_at be i
  have mulc : ∀ {j B : Nat}, j ≤ N → j * B ≤ 16 * B := fun h => Nat.mul_le_mul_right _ (by omega)
  have pX : ∀ j, j ≤ N → ((ds.map fun d => (left + d) * P).take j).sum = preSum (fun i => left + ds.getD i 0) j * P := fun j hj => by
    rw [← preSum_list, ← ps_scale]
    exact preSum_congr fun i hi => gx i (by omega)
  have pY : ∀ j, j ≤ N → ((es.map fun e => (high + e) * Q).take j).sum = preSum (fun i => high + es.getD i 0) j * Q := fun j hj => by
    rw [← preSum_list, ← ps_scale]
    exact preSum_congr fun i hi => gy i (by omega)
  refine ⟨hx, hy, by rw [hx.1, List.length_map, ld], by rw [hy.1, List.length_map, le], fun j hj => ?_, fun j hj => ?_, ?_, ?_, c.fP _ (Nat.le_trans bl (by decide)), c.fQ _ (Nat.le_trans bh (by decide)), ?_, fun i hi => ?_, fun i hi => ?_, fun i hi => ?_, fun i hi => ?_, fun j hj => ?_, fun j hj => ?_⟩
  · rw [List.length_map, ld] at hj
    rw [pX j hj]
    exact c.fP _ (Nat.le_trans (ps_bound (B := 2 ^ 48 + 2 ^ 24) (fun i hi => by have := b1 i; omega) j hj) (Nat.le_trans (mulc hj) (by decide)))
  · rw [List.length_map, le] at hj
    rw [pY j hj]
    exact c.fQ _ (Nat.le_trans (ps_bound (B := 2 ^ 48 + 2 ^ 24) (fun i hi => by have := b2 i; omega) j hj) (Nat.le_trans (mulc hj) (by decide)))
  · rw [sum_mapL (a := P) (b := left * P) (fun x _ => by grind), hsd, ld]
    grind
  · rw [sum_mapL (a := Q) (b := high * Q) (fun x _ => by grind), hse, le]
    grind
  · rw [← c.t]; exact c.fT _ (by omega)
  · rw [gx i hi, show (left + ds.getD i 0) * P - left * P = ds.getD i 0 * P by grind]
    exact c.fP _ (Nat.le_trans (b1 i) (by decide))
  · rw [gy i hi, show (high + es.getD i 0) * Q - high * Q = es.getD i 0 * Q by grind]
    exact c.fQ _ (Nat.le_trans (b2 i) (by decide))
  · rw [gx i hi, gy i hi, show (left + ds.getD i 0) * P - left * P = ds.getD i 0 * P by grind, show (high + es.getD i 0) * Q - high * Q = es.getD i 0 * Q by grind, ← c.t]
    refine ⟨?_, c.fR _ (Nat.le_trans (mul_le (b1 i) (b2 i)) (by decide))⟩
    show ds.getD i 0 * P * (es.getD i 0 * Q) = ds.getD i 0 * es.getD i 0 * R * T
    rw [show ds.getD i 0 * P * (es.getD i 0 * Q) = ds.getD i 0 * es.getD i 0 * (P * Q) by grind, c.pq]; grind
  · rw [gx i hi, show (left + ds.getD i 0) * P - left * P = ds.getD i 0 * P by grind, ← c.t]
    refine ⟨?_, c.fS _ (Nat.le_trans (mul_le (b1 i) (b1 i)) (by decide))⟩
    show ds.getD i 0 * P * (ds.getD i 0 * P) = ds.getD i 0 * ds.getD i 0 * S * T
    rw [show ds.getD i 0 * P * (ds.getD i 0 * P) = ds.getD i 0 * ds.getD i 0 * (P * P) by grind, c.pp]; grind
  · rw [show (fun i => ds.getD i 0 * es.getD i 0 * R) = fun i => (ds.getD i 0 * es.getD i 0) * R from rfl, ps_scale]
    exact c.fR _ (Nat.le_trans (ps_bound (B := 2 ^ 24 * 2 ^ 24) (fun i hi => mul_le (b1 i) (b2 i)) j hj) (Nat.le_trans (mulc hj) (by decide)))
  · rw [show (fun i => ds.getD i 0 * ds.getD i 0 * S) = fun i => (ds.getD i 0 * ds.getD i 0) * S from rfl, ps_scale]
    exact c.fS _ (Nat.le_trans (ps_bound (B := 2 ^ 24 * 2 ^ 24) (fun i hi => mul_le (b1 i) (b1 i)) j hj) (Nat.le_trans (mulc hj) (by decide)))
theorem dot_ps : ∀ {xs ys : List Int} {n : Nat}, xs.length = n → ys.length = n → dotI xs ys = preSum (fun i => xs.getD i 0 * ys.getD i 0) n := by
  intro xs ys n hx hy
  have hl : (List.zipWith (· * ·) xs ys).length = n := by rw [List.length_zipWith, hx, hy, Nat.min_self]
  unfold dotI
  rw [sum_ps hl]
  refine preSum_congr fun i hi => ?_
  rw [List.getD_eq_getElem?_getD, List.getD_eq_getElem?_getD, List.getD_eq_getElem?_getD, List.getElem?_eq_getElem (by omega), List.getElem?_eq_getElem (by omega), List.getElem?_eq_getElem (by omega)]
  simp
/-- n times the sum of the products of what is left is 256 times the number -/
theorem dev_dot {xs ys : List Int} {n : Nat} {p q : Int} (hx : xs.length = n) (hy : ys.length = n) (hp : 16 * xs.sum = n * p) (hq : 16 * ys.sum = n * q) :
    (n : Int) * preSum (fun i => (xs.map fun k => 16 * k - p).getD i 0 * (ys.map fun k => 16 * k - q).getD i 0) n = 256 * XY xs ys := by
  have e : preSum (fun i => (xs.map fun k => 16 * k - p).getD i 0 * (ys.map fun k => 16 * k - q).getD i 0) n = 256 * preSum (fun i => xs.getD i 0 * ys.getD i 0) n - 16 * q * preSum (fun i => xs.getD i 0) n - 16 * p * preSum (fun i => ys.getD i 0) n + n * (p * q) := by
    have : ∀ j, j ≤ n → preSum (fun i => (xs.map fun k => 16 * k - p).getD i 0 * (ys.map fun k => 16 * k - q).getD i 0) j = 256 * preSum (fun i => xs.getD i 0 * ys.getD i 0) j - 16 * q * preSum (fun i => xs.getD i 0) j - 16 * p * preSum (fun i => ys.getD i 0) j + j * (p * q) := by
      intro j
      induction j with
      | zero => simp [preSum]
      | succ j ih =>
        intro hj
        show preSum _ j + _ = 256 * (preSum _ j + _) - 16 * q * (preSum _ j + _) - 16 * p * (preSum _ j + _) + ((j + 1 : Nat) : Int) * (p * q)
        rw [ih (by omega)]
        have g1 := getD_mp (f := fun k => 16 * k - p) (us := xs) (i := j) (by omega)
        have g2 := getD_mp (f := fun k => 16 * k - q) (us := ys) (i := j) (by omega)
        dsimp only at g1 g2 ⊢
        rw [g1, g2]
        push_cast
        grind
    exact this n (Nat.le_refl _)
  rw [e, ← dot_ps hx hy, ← sum_ps hx, ← sum_ps hy]
  unfold XY
  rw [hx]
  grind
theorem dev_sum {xs : List Int} {n : Nat} {p : Int} (hx : xs.length = n) (hp : 16 * xs.sum = n * p) : (xs.map fun k => 16 * k - p).sum = 0 := by
  rw [sum_mapL (a := 16) (b := -p) (fun x _ => by grind), hx]
  grind
theorem tny_le {k : Int} (h : k.natAbs ≤ 2 ^ 53) : Tny k := ⟨Nat.lt_of_le_of_lt h (Nat.pow_lt_pow_right (by decide) (by decide))⟩
theorem mean_le {n : Nat} {S p : Int} (hn : 0 < n) (hS : S.natAbs ≤ n * (2 ^ 18 + 20)) (hp : 16 * S = n * p) : p.natAbs ≤ 16 * (2 ^ 18 + 20) := by
  have h1 : (16 * S).natAbs = n * p.natAbs := by rw [hp, Int.natAbs_mul]; rfl
  have h2 : (16 * S).natAbs = 16 * S.natAbs := by rw [Int.natAbs_mul]; rfl
  have h3 : n * p.natAbs ≤ n * (16 * (2 ^ 18 + 20)) := by rw [← h1, h2, show n * (16 * (2 ^ 18 + 20)) = 16 * (n * (2 ^ 18 + 20)) by grind]; omega
  exact Nat.le_of_mul_le_mul_left h3 hn
theorem u8_eq (far k : Int) : u8 far k = (16 * k + 128 * far) * 2 ^ 1067 := by
  unfold u8 d8
  rw [show (1071 : Nat) = 1067 + 4 from rfl, show (1074 : Nat) = 1067 + 7 from rfl, Int.pow_add, Int.pow_add]
  generalize (2 : Int) ^ 1067 = P
  grind
theorem v1_eq (far k : Int) : v1 far k = (16 * k + 16 * far) * 2 ^ 1070 := by
  unfold v1
  rw [show (1074 : Nat) = 1070 + 4 from rfl, Int.pow_add]
  generalize (2 : Int) ^ 1070 = P
  grind
structure Pw (R S T : Int) : Prop where
  r : R * 2048 = T
  s : S * 16384 = T
  s0 : S ≠ 0
theorem pw5 : Pw (2 ^ 1063) (2 ^ 1060) (2 ^ 1074) := ⟨by rw [show (1074 : Nat) = 1063 + 11 from rfl, Int.pow_add (n := 11)]; rfl, by rw [show (1074 : Nat) = 1060 + 14 from rfl, Int.pow_add (n := 14)]; rfl, Int.ne_of_gt (Int.pow_pos (by decide))⟩
theorem cov_xy {R S T D X : Int} {n : Nat} (w : Pw R S T) (h : (n : Int) * D = 256 * X) : D * R * (64 * (n : Int) * ((n : Int) - 1)) = 8 * X * (((n : Int) - 1) * T) := by
  have e := w.r
  calc D * R * (64 * (n : Int) * ((n : Int) - 1)) = (n * D) * (64 * R) * ((n : Int) - 1) := by grind
    _ = 256 * X * (64 * R) * ((n : Int) - 1) := by rw [h]
    _ = 8 * X * (((n : Int) - 1) * (R * 2048)) := by grind
    _ = _ := by rw [e]
theorem cov_xx {R S T D X : Int} {n : Nat} (w : Pw R S T) (h : (n : Int) * D = 256 * X) : D * S * (64 * (n : Int) * ((n : Int) - 1)) = X * (((n : Int) - 1) * T) := by
  have e := w.s
  calc D * S * (64 * (n : Int) * ((n : Int) - 1)) = (n * D) * (64 * S) * ((n : Int) - 1) := by grind
    _ = 256 * X * (64 * S) * ((n : Int) - 1) := by rw [h]
    _ = X * (((n : Int) - 1) * (S * 16384)) := by grind
    _ = _ := by rw [e]
theorem slope_xy {R S T D X E Y : Int} {n : Nat} (hn : 0 < n) (w : Pw R S T) (h : (n : Int) * D = 256 * X) (h' : (n : Int) * E = 256 * Y) : D * R * Y = 8 * X * (E * S) := by
  have er : R = 8 * S := by have := w.r; have := w.s; omega
  have k1 : (n : Int) * (D * Y) = n * (X * E) := by
    calc (n : Int) * (D * Y) = (n * D) * Y := by grind
      _ = 256 * X * Y := by rw [h]
      _ = X * (256 * Y) := by grind
      _ = X * (n * E) := by rw [h']
      _ = _ := by grind
  have k2 : D * Y = X * E := Int.eq_of_mul_eq_mul_left (by omega) k1
  rw [er]
  calc D * (8 * S) * Y = 8 * S * (D * Y) := by grind
    _ = 8 * S * (X * E) := by rw [k2]
    _ = _ := by grind
theorem fits_at {e : Nat} (k : Int) (h : k.natAbs ≤ 2 ^ 53) (he : e ≤ 1990) : Fits (k * 2 ^ e) := Fits.of k e h he
theorem pts_ok {xs ys : List Int} {far : Int} {n : Nat} (hst : StOk xs ys) (hn : xs.length = n) (h2 : 2 ≤ n) (h16 : n ≤ 16) (dp : (n : Int) ∣ 16 * xs.sum) (dq : (n : Int) ∣ 16 * ys.sum) (hfar : far.natAbs ≤ 2 ^ 40) : Pts5 xs ys far n (XY xs ys) (XY xs xs) := by
  obtain ⟨p, hp⟩ := dp
  obtain ⟨q, hq⟩ := dq
  have ly : ys.length = n := by rw [← hst.len]; exact hn
  have sx : xs.sum.natAbs ≤ n * (2 ^ 18 + 20) := by have := bd_sum (B := 2 ^ 18 + 20) (us := xs) ⟨hst.bx⟩; rw [hn, Nat.mul_comm] at this; exact this
  have sy : ys.sum.natAbs ≤ n * (2 ^ 18 + 20) := by have := bd_sum (B := 2 ^ 18 + 20) (us := ys) ⟨hst.b_y⟩; rw [ly, Nat.mul_comm] at this; exact this
  have bp := mean_le (by omega) sx hp
  have bq := mean_le (by omega) sy hq
  have ldx : (xs.map fun k => 16 * k - p).length = n := by rw [List.length_map]; exact hn
  have ldy : (ys.map fun k => 16 * k - q).length = n := by rw [List.length_map]; exact ly
  have bdx : BdAll (2 ^ 24) (xs.map fun k => 16 * k - p) := bd_map fun k hk => by have := hst.bx k hk; omega
  have bdy : BdAll (2 ^ 24) (ys.map fun k => 16 * k - q) := bd_map fun k hk => by have := hst.b_y k hk; omega
  have hU : xs.map (u8 far) = (xs.map fun k => 16 * k - p).map fun d => ((p + 128 * far) + d) * 2 ^ 1067 := by
    rw [List.map_map]
    refine List.map_congr_left fun k _ => ?_
    rw [u8_eq]
    show _ = (p + 128 * far + (16 * k - p)) * 2 ^ 1067
    rw [show p + 128 * far + (16 * k - p) = 16 * k + 128 * far by omega]
  have hV : ys.map (v1 far) = (ys.map fun k => 16 * k - q).map fun d => ((q + 16 * far) + d) * 2 ^ 1070 := by
    rw [List.map_map]
    refine List.map_congr_left fun k _ => ?_
    rw [v1_eq]
    show _ = (q + 16 * far + (16 * k - q)) * 2 ^ 1070
    rw [show q + 16 * far + (16 * k - q) = 16 * k + 16 * far by omega]
  have D1 := dev_dot hn ly hp hq
  have D2 := dev_dot hn hn hp hp
  have bD1 : (preSum (fun i => (xs.map fun k => 16 * k - p).getD i 0 * (ys.map fun k => 16 * k - q).getD i 0) n).natAbs ≤ n * (2 ^ 24 * 2 ^ 24) := ps_bound (fun i _ => mul_le (bd_at bdx i) (bd_at bdy i)) n (Nat.le_refl _)
  have bD2 : (preSum (fun i => (xs.map fun k => 16 * k - p).getD i 0 * (xs.map fun k => 16 * k - p).getD i 0) n).natAbs ≤ n * (2 ^ 24 * 2 ^ 24) := ps_bound (fun i _ => mul_le (bd_at bdx i) (bd_at bdx i)) n (Nat.le_refl _)
  have bX : ∀ {D X : Int}, D.natAbs ≤ n * (2 ^ 24 * 2 ^ 24) → (n : Int) * D = 256 * X → X.natAbs ≤ 2 ^ 49 := fun {D X} h e => by
    have h1 : n * D.natAbs = 256 * X.natAbs := by
      have := congrArg Int.natAbs e
      rw [Int.natAbs_mul, Int.natAbs_mul] at this
      exact this
    have h3 : n * D.natAbs ≤ 16 * (16 * (2 ^ 24 * 2 ^ 24)) := Nat.mul_le_mul h16 (Nat.le_trans h (Nat.mul_le_mul_right _ h16))
    omega
  refine ⟨hn, ly, h2, h16, ⟨fun k hk => ?_⟩, fun k hk => ?_, tny_le ?_, tny_le ?_, (p + 128 * far) * 2 ^ 1067, (q + 16 * far) * 2 ^ 1070, fun i => (xs.map fun k => 16 * k - p).getD i 0 * (ys.map fun k => 16 * k - q).getD i 0 * 2 ^ 1063, fun i => (xs.map fun k => 16 * k - p).getD i 0 * (xs.map fun k => 16 * k - p).getD i 0 * 2 ^ 1060, fun i => (ys.map fun k => 16 * k - q).getD i 0 * (ys.map fun k => 16 * k - q).getD i 0 * 2 ^ 1066, ?_, ⟨?_⟩, ⟨?_⟩, ⟨?_⟩, ?_⟩
  · have := hst.bx k hk
    refine ⟨tny_le (by omega), fits_at k (by omega) (by decide), fits_at far (by omega) (by decide), ?_⟩
    rw [u8_eq]
    exact fits_at _ (by omega) (by decide)
  · have := hst.b_y k hk
    exact fits_at _ (by omega) (by decide)
  · have := bX bD1 D1
    omega
  · have := bX bD2 D2
    omega
  · intro zu zv hzu hzv
    rw [hU] at hzu ⊢
    rw [hV] at hzv ⊢
    refine ⟨full5 (c5_of 1067 1070 1063 1060 rfl rfl (by decide) (by decide) (by decide) (by decide)) hzu hzv ldx ldy h16 (dev_sum hn hp) (dev_sum ly hq) bdx bdy (by omega) (by omega), ?_, full5 (c5_of 1067 1067 1060 1060 rfl rfl (by decide) (by decide) (by decide) (by decide)) hzu hzu ldx ldx h16 (dev_sum hn hp) (dev_sum hn hp) bdx bdx (by omega) (by omega)⟩
    have := full5 (c5_of 1070 1067 1063 1066 rfl rfl (by decide) (by decide) (by decide) (by decide)) hzv hzu ldy ldx h16 (dev_sum ly hq) (dev_sum hn hp) bdy bdx (by omega) (by omega)
    rw [show (fun i => (ys.map fun k => 16 * k - q).getD i 0 * (xs.map fun k => 16 * k - p).getD i 0 * (2 : Int) ^ 1063) = fun i => (xs.map fun k => 16 * k - p).getD i 0 * (ys.map fun k => 16 * k - q).getD i 0 * (2 : Int) ^ 1063 from funext fun i => by rw [Int.mul_comm ((ys.map fun k => 16 * k - q).getD i 0)]] at this
    exact this
  · rw [ps_scale]
    exact cov_xy pw5 D1
  · rw [ps_scale]
    exact cov_xx pw5 D2
  · rw [ps_scale, ps_scale]
    exact slope_xy (by omega) pw5 D1 D2
  · rw [ps_scale]
    constructor
    · intro h
      rcases Int.mul_eq_zero.mp h with h | h
      · rw [h, Int.mul_zero] at D2; omega
      · exact absurd h pw5.s0
    · intro h
      rw [h, Int.mul_zero] at D2
      rcases Int.mul_eq_zero.mp D2 with h | h
      · omega
      · rw [h, Int.zero_mul]
end Mine
end

section
open PySem PySem.W PySem.Calls PyProof.Rows PySem.Spec
set_option maxRecDepth 100000
set_option maxHeartbeats 1000000
namespace Mine
theorem odd_le {n d : Int} (h : OddOf n d) : d ≤ n := by
  obtain ⟨j, e⟩ := h.pow
  have hp : (1 : Int) ≤ 2 ^ j := by have : (0 : Int) < 2 ^ j := Int.pow_pos (by decide); omega
  have hd := h.pos
  rw [e]
  calc d = d * 1 := by omega
    _ ≤ d * 2 ^ j := Int.mul_le_mul_of_nonneg_left hp (by omega)
theorem odd_dvd {n d S : Int} (h : OddOf n d) (hn : n ≤ 16) (hs : d ∣ S) : n ∣ 16 * S := by
  obtain ⟨j, e⟩ := h.pow
  obtain ⟨k, rfl⟩ := hs
  have hd := h.pos
  have hp : (1 : Int) ≤ 2 ^ j := by have : (0 : Int) < 2 ^ j := Int.pow_pos (by decide); omega
  have hj : (2 : Int) ^ j ≤ 16 := by
    have h1 : 1 * (2 : Int) ^ j ≤ d * 2 ^ j := Int.mul_le_mul_of_nonneg_right hd (by omega)
    omega
  have hj4 : j ≤ 4 := by
    rcases Nat.lt_or_ge 4 j with c | c
    · have h5 : (2 : Int) ^ 5 ≤ 2 ^ j := by
        have : (2 : Nat) ^ 5 ≤ 2 ^ j := Nat.pow_le_pow_right (by decide) c
        exact_mod_cast this
      have : (2 : Int) ^ 5 = 32 := by decide
      omega
    · exact c
  refine ⟨2 ^ (4 - j) * k, ?_⟩
  have e16 : (16 : Int) = 2 ^ j * 2 ^ (4 - j) := by
    rw [← Int.pow_add, show j + (4 - j) = 4 by omega]; decide
  rw [e]
  calc 16 * (d * k) = 2 ^ j * 2 ^ (4 - j) * (d * k) := by rw [← e16]
    _ = _ := by grind
theorem rest_bd {n d s x : Int} (h : OddOf n d) : 0 ≤ (s + x).fmod d ∧ (s + x).fmod d < d := ⟨Int.fmod_nonneg_of_pos _ (by have := h.pos; omega), Int.fmod_lt_of_pos _ (by have := h.pos; omega)⟩
theorem new_dvd {xs : List Int} {x d : Int} (h : OddOf ((xs.length : Int) + 1) d) (hn : xs.length ≤ 15) : ((xs ++ [x - (xs.sum + x).fmod d]).length : Int) ∣ 16 * (xs ++ [x - (xs.sum + x).fmod d]).sum := by
  rw [← len_snoc, ← sum_snoc]
  refine odd_dvd h (by omega) ⟨(xs.sum + x).fdiv d, ?_⟩
  have := Int.mul_fdiv_add_fmod (xs.sum + x) d
  omega
theorem st_snoc {xs ys : List Int} {x y d d' n : Int} (hs : StOk xs ys) (hx : x.natAbs ≤ 2 ^ 18) (hy : y.natAbs ≤ 2 ^ 18) (h : OddOf n d) (h' : OddOf n d') (hn : n ≤ 16) : StOk (xs ++ [x - (xs.sum + x).fmod d]) (ys ++ [y - (ys.sum + y).fmod d']) := by
  have r := rest_bd (s := xs.sum) (x := x) h
  have r' := rest_bd (s := ys.sum) (x := y) h'
  have l := odd_le h
  have l' := odd_le h'
  refine ⟨by simp [hs.len], fun z hz => ?_, fun z hz => ?_⟩
  · rcases List.mem_append.mp hz with hz | hz
    · exact hs.bx z hz
    · rw [List.mem_singleton.mp hz]; omega
  · rcases List.mem_append.mp hz with hz | hz
    · exact hs.b_y z hz
    · rw [List.mem_singleton.mp hz]; omega
theorem st_tail {xs ys : List Int} {a b : Int} (h : StOk (a :: xs) (b :: ys)) : StOk xs ys := ⟨by have := h.len; simpa using this, fun x hx => h.bx x (.tail _ hx), fun x hx => h.b_y x (.tail _ hx)⟩
theorem sm_le {n : Int} (h : n.natAbs ≤ 2 ^ 60) : Sm n := ⟨PySem.intBits_le_64 (by omega) (by omega)⟩
theorem sum16 {xs : List Int} (h : ∀ x ∈ xs, x.natAbs ≤ 2 ^ 18 + 20) (hn : xs.length ≤ 16) : xs.sum.natAbs ≤ 16 * (2 ^ 18 + 20) := by
  have := bd_sum (B := 2 ^ 18 + 20) (us := xs) ⟨h⟩
  exact Nat.le_trans this (by rw [Nat.mul_comm]; exact Nat.mul_le_mul_right _ hn)
theorem sm_pop {xs ys : List Int} {a b most : Int} (h : StOk (a :: xs) (b :: ys)) (hm : most = (xs.length : Int) + 1) (h16 : most ≤ 16) : Sm ((most - 1) * a - ((a :: xs).sum - a)) := by
  rw [sum_tl]
  have h1 := sum16 (st_tail h).bx (by omega)
  have h2 : ((most - 1) * a).natAbs ≤ 16 * (2 ^ 18 + 20) := mul_le (by omega) (h.bx a (.head _))
  exact sm_le (by omega)
theorem sm_new {xs ys : List Int} {x : Int} (h : StOk xs ys) (hx : x.natAbs ≤ 2 ^ 18) (hn : xs.length ≤ 15) : ∀ d, OddOf ((xs.length : Int) + 1) d → Sm ((xs.length : Int) * (x - (xs.sum + x).fmod d) - xs.sum) := fun d hd => by
  have r := rest_bd (s := xs.sum) (x := x) hd
  have l := odd_le hd
  have h1 := sum16 h.bx (by omega)
  have h2 : ((xs.length : Int) * (x - (xs.sum + x).fmod d)).natAbs ≤ 16 * (2 ^ 18 + 20) := mul_le (by omega) (by omega)
  exact sm_le (by omega)
theorem smallF_bd (k : Int) : (smallF k).natAbs ≤ 2 ^ 18 := by
  have e : (2 : Int) ^ Int.toNat 18 = 262144 := by decide
  unfold smallF
  rw [e]
  by_cases c : (if k < 0 then -k else k) < 262144
  · rw [if_pos c]
    by_cases c2 : k < 0
    · rw [if_pos c2] at c; omega
    · rw [if_neg c2] at c; omega
  · rw [if_neg c]
    have a := Int.fmod_nonneg_of_pos k (b := 262144) (by decide)
    have b := Int.fmod_lt_of_pos k (b := 262144) (by decide)
    omega
theorem pts_bd (scr : List Int) (h i : Nat) : ∀ p ∈ ptsAt scr h i, p.1.natAbs ≤ 2 ^ 18 ∧ p.2.natAbs ≤ 2 ^ 18 := fun p hp => by
  unfold ptsAt at hp
  rcases List.mem_append.mp hp with hp | hp
  · simp only [List.mem_cons, List.not_mem_nil, or_false] at hp
    rcases hp with rfl | rfl | rfl <;> decide
  · obtain ⟨k, _, rfl⟩ := List.mem_map.mp hp
    exact ⟨smallF_bd _, smallF_bd _⟩
end Mine
end

section
open PySem PySem.W PySem.Calls PyProof.Rows
set_option maxRecDepth 100000
set_option maxHeartbeats 2000000
namespace Mine
theorem fr_10 {g h : Heap} {L : Addr} {m : Str → Option Value} {k1 k2 k3 k4 k5 k6 k7 k8 k9 k10 : Str} {v1 v2 v3 v4 v5 v6 v7 v8 v9 v10 : Value} (F : Fr g L h m) (h1 : m k1 = some v1) (h2 : m k2 = some v2) (h3 : m k3 = some v3) (h4 : m k4 = some v4) (h5 : m k5 = some v5) (h6 : m k6 = some v6) (h7 : m k7 = some v7) (h8 : m k8 = some v8) (h9 : m k9 = some v9) (h10 : m k10 = some v10) : Fr g L h (fun z => if z = k1 then some v1 else if z = k2 then some v2 else if z = k3 then some v3 else if z = k4 then some v4 else if z = k5 then some v5 else if z = k6 then some v6 else if z = k7 then some v7 else if z = k8 then some v8 else if z = k9 then some v9 else if z = k10 then some v10 else m z) := by
  have e : m = fun z => if z = k1 then some v1 else if z = k2 then some v2 else if z = k3 then some v3 else if z = k4 then some v4 else if z = k5 then some v5 else if z = k6 then some v6 else if z = k7 then some v7 else if z = k8 then some v8 else if z = k9 then some v9 else if z = k10 then some v10 else m z := by
    funext z
    split
    · rename_i e; rw [e, h1]
    · skip
      split
      · rename_i e; rw [e, h2]
      · skip
        split
        · rename_i e; rw [e, h3]
        · skip
          split
          · rename_i e; rw [e, h4]
          · skip
            split
            · rename_i e; rw [e, h5]
            · skip
              split
              · rename_i e; rw [e, h6]
              · skip
                split
                · rename_i e; rw [e, h7]
                · skip
                  split
                  · rename_i e; rw [e, h8]
                  · skip
                    split
                    · rename_i e; rw [e, h9]
                    · skip
                      split
                      · rename_i e; rw [e, h10]
                      · rfl
  rw [← e]; exact F
theorem ints_snoc {zs : List Value} {xs : List Int} (h : IntsAre zs xs) (k : Int) (t : Tok) : IntsAre (zs ++ [.int k t]) (xs ++ [k]) := by
  induction h with
  | nil => exact .cons k t .nil
  | cons a u _ ih => exact .cons a u ih
theorem tb23 {w : World} {fa : Addr} {cd : Value} {h₀ : Heap} {mean : ExcName → Option Value} {mg mb : Str → Option Value} {s : Shared} {Q : Flow → Shared → Prop} {R1 R2 : Value → Shared → Prop} {L aX aY aP I : Addr} {m : Str → Option Value} {zx zy zs : List Value} {xs ys : List Int} {cx cy c : Nat} {x y most : Int} {tx ty tm tn t1 t2 t3 t4 : Tok} {pc ps : Array Value} {tups : List (Addr × Obj)} {oI : Obj} {pts : List (Int × Int)}
    (B : Below callerA h₀ [] h₀) (F : Fr h₀ L s.heap (fun z => if z = Str.ofString "x" then some (.int x tx) else if z = Str.ofString "y" then some (.int y ty) else if z = Str.ofString "most" then some (.int most tm) else if z = Str.ofString "xs" then some (.ref aX) else if z = Str.ofString "ys" then some (.ref aY) else if z = Str.ofString "n" then some (.int (xs.length : Int) tn) else if z = Str.ofString "sx" then some (.int xs.sum t1) else if z = Str.ofString "sy" then some (.int ys.sum t2) else if z = Str.ofString "xy" then some (.int (XY xs ys) t3) else if z = Str.ofString "xx" then some (.int (XY xs xs) t4) else m z)) (N : News h₀ L s.heap ((I, oI) :: (aX, listOf (List.toArray zx) cx) :: (aY, listOf (List.toArray zy) cy) :: (aP, listOf (List.toArray zs) c) :: (107, tabObj pc) :: (186, tabObj ps) :: tups))
    (T : Top Mine.vw (looseW Mine.vw [Str.ofString "_tuplegetter", Str.ofString "LinearRegression", Str.ofString "linear_regression", Str.ofString "covariance"]) mean mg mb h₀) (hP : TupsAre tups zs pts) (hTc : TabOk pc) (hT : TabOk ps) (hgs : AllBare s.gens) (nb : NoneBooked h₀) (hcI : oI.cls = .type "list_iterator") (hne : (@Ne Nat aY aX) ∧ (@Ne Nat aP aX) ∧ (@Ne Nat 107 aX) ∧ (@Ne Nat 186 aX) ∧ (@Ne Nat aP aY) ∧ (@Ne Nat 107 aY) ∧ (@Ne Nat 186 aY)) (hnI : (@Ne Nat aX I) ∧ (@Ne Nat aY I)) (ix : IntsAre zx xs) (iy : IntsAre zy ys) (hst : StOk xs ys) (hm : (xs.length : Int) + 1 ≤ most) (h16 : most ≤ 16) (bx : x.natAbs ≤ 2 ^ 18) (b_y : y.natAbs ≤ 2 ^ 18)
    (hQ : ∀ h' tk m' gs' pc' ps', (∃ (xs' ys' : List Int) (zx' zy' : List Value) (cx' cy' : Nat) (tn' t1' t2' t3' t4' : Tok), IntsAre zx' xs' ∧ IntsAre zy' ys' ∧ StOk xs' ys' ∧ (xs'.length : Int) ≤ most ∧  Fr h₀ L h' m' ∧ News h₀ L h' ((I, oI) :: (aX, listOf (List.toArray zx') cx') :: (aY, listOf (List.toArray zy') cy') :: (aP, listOf (List.toArray zs) c) :: (107, tabObj pc') :: (186, tabObj ps') :: tups) ∧ m' (Str.ofString "most") = some (.int most tm) ∧ m' (Str.ofString "xs") = some (.ref aX) ∧ m' (Str.ofString "ys") = some (.ref aY) ∧ m' (Str.ofString "n") = some (.int (xs'.length : Int) tn') ∧ m' (Str.ofString "sx") = some (.int xs'.sum t1') ∧ m' (Str.ofString "sy") = some (.int ys'.sum t2') ∧ m' (Str.ofString "xy") = some (.int (XY xs' ys') t3') ∧ m' (Str.ofString "xx") = some (.int (XY xs' xs') t4')) → AllBare gs' → TabOk pc' → TabOk ps' → Q .next ⟨h', gs', s.drawn, tk, s.os⟩) :
    (Mine.hd.heap_39 w.params).In h₀ → wpAny (model PySem.Challenge.rw_kq0023_05.row.prog w) (callerA.deeper (envOf (Str.ofString "law") lawScope L fa cd)) (execs (tbRest 1) (envOf (Str.ofString "law") lawScope L fa cd)) Q (fun e s' => wpAny (model PySem.Challenge.rw_kq0023_05.row.prog w) (callerA.deeper (envOf (Str.ofString "law") lawScope L fa cd)) (leaving (envOf (Str.ofString "law") lawScope L fa cd) e) (fun _ s'' => R1 e s'') (fun e' s'' => R2 e' s'') s') s := by
  intro X
  have lx := ix.length
  have ly := iy.length
  have hl := hst.len
  refine tb2 B F N T hP hne hnI lx hl (by omega) (by omega) (sm_le (by omega)) (sm_le (by omega)) (sm_new hst bx (by omega)) (fun h' tk m' d d' tx ty tn t1 t2 t3 t4 od od' F' N' f1 f2 f3 f4 f5 f6 f7 f8 => ?_) X
  have hst2 := st_snoc hst bx b_y od od' (by omega)
  have od2 : OddOf ((ys.length : Int) + 1) d' := by rw [← hl]; exact od'
  have dv1 := new_dvd (x := x) od (by omega)
  have dv2 := new_dvd (x := y) od2 (by omega)
  have ix2 := ints_snoc ix (x - (xs.sum + x).fmod d) tx
  have iy2 := ints_snoc iy (y - (ys.sum + y).fmod d') ty
  have F2 := fr_8 F' f1 f2 f3 f4 f5 f6 f7 f8
  have ln : (xs ++ [x - (xs.sum + x).fmod d]).length = xs.length + 1 := by simp
  have ln2 : (ys ++ [y - (ys.sum + y).fmod d']).length = ys.length + 1 := by simp
  rcases Nat.lt_or_ge (xs ++ [x - (xs.sum + x).fmod d]).length 2 with c | c
  · exact tb3b B F2 N' T hP hTc hT hgs nb hcI ix2 iy2 c (fun h6 tk6 m6 gs6 pc6 ps6 F6 N6 hb6 hTc6 hT6 g1 g2 g3 g4 g5 g6 g7 g8 => hQ h6 tk6 m6 gs6 pc6 ps6 ⟨_, _, _, _, _, _, _, _, _, _, _, ix2, iy2, hst2, by rw [ln]; push_cast; omega, F6, N6, g1, g2, g3, g4, g5, g6, g7, g8⟩ hb6 hTc6 hT6) X
  · have dv2' : ((xs ++ [x - (xs.sum + x).fmod d]).length : Int) ∣ 16 * (ys ++ [y - (ys.sum + y).fmod d']).sum := by rw [hst2.len]; exact dv2
    have P1 := pts_ok (far := 0) hst2 rfl c (by omega) dv1 dv2' (by decide)
    have P2 := pts_ok (far := 2 ^ Int.toNat 40) hst2 rfl c (by omega) dv1 dv2' (by decide)
    exact tb3a B F2 N' T hP hTc hT hgs nb hcI ix2 iy2 c P1 P2 (fun h6 tk6 m6 gs6 pc6 ps6 F6 N6 hb6 hTc6 hT6 g1 g2 g3 g4 g5 g6 g7 g8 => hQ h6 tk6 m6 gs6 pc6 ps6 ⟨_, _, _, _, _, _, _, _, _, _, _, ix2, iy2, hst2, by rw [ln]; push_cast; omega, F6, N6, g1, g2, g3, g4, g5, g6, g7, g8⟩ hb6 hTc6 hT6) X
end Mine
end

section
open PySem PySem.W PySem.Calls PyProof.Rows
set_option maxRecDepth 100000
set_option maxHeartbeats 2000000
namespace Mine
theorem zz_LM3 : True := by
  w_top off
  k_with_none
  trivial
def StopE (P : Prop) : Prop := P
theorem stopE_ {P : Prop} (h : StopE P) : P := h
theorem zz_LM3_21 : True := by
  k_with "my exec For Tuple Name cons nil" =>
    (k_here; (rename Fr _ _ _ _ => lFzz117'); (with_unfolding_all refine' For_L lFzz117' ?_; k_whole))
  k_with "my pyIter ref" =>
    ((with_reducible show wpAny _ _ (pyIter (Value.ref _)) (fun itzz118 s₂ => LoopAtL _ _ _ _ _ _ _ _ _ _ _ itzz118 s₂) _ _); refine stopE_ ?_)
  k_with "my execs cons" =>
    ((with_reducible show wpAny _ _ (execs (Stmt.If _ _ _ _ :: _) _) _ _ _); refine stopE_ ?_)
  trivial
theorem tups_at {zs : List Value} {pts : List (Int × Int)} {tups : List (Addr × Obj)} (h : TupsAre tups zs pts) (i : Nat) (v : Value) (e : zs.toArray[i]? = some v) : ∃ x y, (x, y) ∈ pts ∧ ∃ (T : Addr) (t1 t2 : Tok) (n : Nat), v = .ref T ∧ (T, tupO x t1 y t2 n) ∈ tups := by
  obtain ⟨x, y, e1, r⟩ := h.get i v (by simpa using e)
  exact ⟨x, y, List.mem_of_getElem? e1, r⟩
theorem news_dup {h₀ h : Heap} {L : Addr} {p : Addr × Obj} {all : List (Addr × Obj)} (N : News h₀ L h all) (hm : p ∈ all) : News h₀ L h (p :: all) := fun q hq => by
  rcases List.mem_cons.mp hq with rfl | hq
  · exact N _ hm
  · exact N q hq
theorem off_x {I aX aY : Addr} {p : Addr × Obj} {o1 o2 o3 o4 o1' o2' o3' o4' : Obj} {P R : Addr} {r : List (Addr × Obj)} (h : ∀ q ∈ (aX, o1) :: (aY, o2) :: p :: (P, o3) :: (R, o4) :: r, @Ne Nat q.1 I) : ∀ q ∈ (aX, o1') :: (aY, o2') :: p :: (P, o3') :: (R, o4') :: r, @Ne Nat q.1 I := fun q hq => by
  simp only [List.mem_cons] at hq h
  rcases hq with e | e | e | e | e | e
  · rw [e]; exact h (aX, o1) (.inl rfl)
  · rw [e]; exact h (aY, o2) (.inr (.inl rfl))
  · exact h q (.inr (.inr (.inl e)))
  · rw [e]; exact h (P, o3) (.inr (.inr (.inr (.inl rfl))))
  · rw [e]; exact h (R, o4) (.inr (.inr (.inr (.inr (.inl rfl)))))
  · exact h q (.inr (.inr (.inr (.inr (.inr e)))))
theorem lm3 {w : World} {fa : Addr} {cd : Value} {h₀ : Heap} {mean : ExcName → Option Value} {mg mb : Str → Option Value} {s : Shared} {Q : Flow → Shared → Prop} {R1 R2 : Value → Shared → Prop} {L aX aY aP : Addr} {m : Str → Option Value} {zs : List Value} {c : Nat} {most : Int} {tm tn t1 t2 t3 t4 : Tok} {pc ps : Array Value} {tups : List (Addr × Obj)} {pts : List (Int × Int)}
    (B : Below callerA h₀ [] h₀) (F : Fr h₀ L s.heap (fun z => if z = Str.ofString "points" then some (.ref aP) else if z = Str.ofString "most" then some (.int most tm) else if z = Str.ofString "xs" then some (.ref aX) else if z = Str.ofString "ys" then some (.ref aY) else if z = Str.ofString "n" then some (.int 0 tn) else if z = Str.ofString "sx" then some (.int 0 t1) else if z = Str.ofString "sy" then some (.int 0 t2) else if z = Str.ofString "xy" then some (.int 0 t3) else if z = Str.ofString "xx" then some (.int 0 t4) else m z)) (N : News h₀ L s.heap ((aX, listOf (List.toArray []) 0) :: (aY, listOf (List.toArray []) 0) :: (aP, listOf (List.toArray zs) c) :: (107, tabObj pc) :: (186, tabObj ps) :: tups))
    (T : Top Mine.vw (looseW Mine.vw [Str.ofString "_tuplegetter", Str.ofString "LinearRegression", Str.ofString "linear_regression", Str.ofString "covariance"]) mean mg mb h₀) (hP : TupsAre tups zs pts) (hTc : TabOk pc) (hT : TabOk ps) (hgs : AllBare s.gens) (nb : NoneBooked h₀) (hne : (@Ne Nat aY aX) ∧ (@Ne Nat aP aX) ∧ (@Ne Nat 107 aX) ∧ (@Ne Nat 186 aX) ∧ (@Ne Nat aP aY) ∧ (@Ne Nat 107 aY) ∧ (@Ne Nat 186 aY)) (h2 : 2 ≤ most) (h16 : most ≤ 16) (hb : ∀ p ∈ pts, p.1.natAbs ≤ 2 ^ 18 ∧ p.2.natAbs ≤ 2 ^ 18)
    (hQ : ∀ h' tk m' gs' pc' ps' news', Fr h₀ L h' m' → News h₀ L h' ((107, tabObj pc') :: (186, tabObj ps') :: news') → AllBare gs' → Q (.ret (.bool true)) ⟨h', gs', s.drawn, tk, s.os⟩) :
    (Mine.hd.heap_39 w.params).In h₀ → wpAny (model PySem.Challenge.rw_kq0023_05.row.prog w) (callerA.deeper (envOf (Str.ofString "law") lawScope L fa cd)) (execs (lawRest 6) (envOf (Str.ofString "law") lawScope L fa cd)) Q (fun e s' => wpAny (model PySem.Challenge.rw_kq0023_05.row.prog w) (callerA.deeper (envOf (Str.ofString "law") lawScope L fa cd)) (leaving (envOf (Str.ofString "law") lawScope L fa cd) e) (fun _ s'' => R1 e s'') (fun e' s'' => R2 e' s'') s') s := by
  k_fill
  intro X
  dsimp only [lawRest, lawScope, lawFn, fnScope, fnBody, PySem.Challenge.pw_kq0023_05, List.getLastD, List.getLast, List.drop, List.headD]
  k_steps
  all_goals (try k_data)
  unfold StopE
  rename News _ _ _ _ => NN
  rename Fr _ _ _ _ => FF
  refine list_inv (items := zs.toArray) (fun i gs m₁ n₁ => AllBare gs ∧ ∃ (xs ys : List Int) (zx zy : List Value) (cx cy : Nat) (tn t1 t2 t3 t4 : Tok) (pc ps : Array Value), IntsAre zx xs ∧ IntsAre zy ys ∧ StOk xs ys ∧ (xs.length : Int) ≤ most ∧ TabOk pc ∧ TabOk ps ∧ n₁ = (aX, listOf (List.toArray zx) cx) :: (aY, listOf (List.toArray zy) cy) :: (aP, listOf (List.toArray zs) c) :: (107, tabObj pc) :: (186, tabObj ps) :: tups ∧ m₁ (Str.ofString "most") = some (.int most tm) ∧ m₁ (Str.ofString "xs") = some (.ref aX) ∧ m₁ (Str.ofString "ys") = some (.ref aY) ∧ m₁ (Str.ofString "n") = some (.int (xs.length : Int) tn) ∧ m₁ (Str.ofString "sx") = some (.int xs.sum t1) ∧ m₁ (Str.ofString "sy") = some (.int ys.sum t2) ∧ m₁ (Str.ofString "xy") = some (.int (XY xs ys) t3) ∧ m₁ (Str.ofString "xx") = some (.int (XY xs xs) t4)) rfl FF NN (.tail _ (.tail _ (.head _))) ⟨hgs, [], [], [], [], 0, 0, tn, t1, t2, t3, t4, pc, ps, .nil, .nil, ⟨rfl, fun _ h => (by cases h), fun _ h => (by cases h)⟩, (by show (0 : Int) ≤ most; omega), hTc, hT, rfl, rfl, rfl, rfl, rfl, rfl, rfl, rfl, rfl⟩ (fun i gs m₁ n₁ hJ => ?_) (fun i v hv => ?_) (fun i v hv gs m₁ news₁ I oI h tk hJ off hcI F₁ N₁ => ?_) (fun gs h' tk m' news' F' N' hJ => ?_)
  · obtain ⟨_, _, _, _, _, _, _, _, _, _, _, _, _, _, _, _, _, _, _, _, rfl, _⟩ := hJ
    exact ⟨_, .tail _ (.tail _ (.head _))⟩
  · obtain ⟨x, y, _, Tt, _, _, _, e, _⟩ := tups_at hP i v hv
    exact ⟨Tt, e⟩
  · obtain ⟨x, y, hxy, Tt, u1, u2, k, rfl, hTm⟩ := tups_at hP i v hv
    obtain ⟨hgs', xs, ys, zx, zy, cx, cy, tn', t1', t2', t3', t4', pc', ps', ix, iy, hst, hle, hTc', hT', rfl, f1, f2, f3, f4, f5, f6, f7, f8⟩ := hJ
    have F₂ := fr_8 F₁ f1 f2 f3 f4 f5 f6 f7 f8
    have N₂ := news_dup (p := (Tt, tupO x u1 y u2 k)) N₁ (.tail _ (.tail _ (.tail _ (.tail _ (.tail _ (.tail _ hTm))))))
    have hX : @Ne Nat aX I := off _ (.head _)
    have hY : @Ne Nat aY I := off _ (.tail _ (.head _))
    obtain ⟨bx, b_y⟩ := hb _ hxy
    dsimp only at bx b_y
    unfold tupO at N₂
    (try clear FF); (try clear NN); clear F₁ N₁ hgs hTc hT
    k_steps
    all_goals (try k_data)
    unfold StopE
    rename News _ _ _ _ => NN2
    rename Fr _ _ _ _ => FF2
    have N3 := news_tl NN2
    by_cases hq : (xs.length : Int) = most
    · have F3 := fr_10 (k1 := Str.ofString "x") (k2 := Str.ofString "y") (k3 := Str.ofString "most") (k4 := Str.ofString "xs") (k5 := Str.ofString "ys") (k6 := Str.ofString "n") (k7 := Str.ofString "sx") (k8 := Str.ofString "sy") (k9 := Str.ofString "xy") (k10 := Str.ofString "xx") FF2 rfl rfl rfl rfl rfl (mI rfl hq) rfl rfl rfl rfl
      cases ix with
      | nil => exact absurd hq (by show ¬ (0 : Int) = most; omega)
      | cons a0 ta ixr =>
      cases iy with
      | nil => exact absurd hst.len (by simp)
      | cons b0 tb iyr =>
      have hl := hst.len
      rw [List.length_cons, List.length_cons] at hl
      rw [List.length_cons] at hq
      have lx := ixr.length
      have ly := iyr.length
      refine tb1a B F3 N3 T hP hne ⟨hX, hY⟩ lx (by omega) (by omega) (by omega) h2 h16 (sm_le (by omega)) (sm_pop hst (by omega) h16) (fun h' tk m' tn t1 t2 t3 t4 F' N' g1 g2 g3 g4 g5 g6 g7 g8 g9 g10 => ?_) X
      refine tb23 B (fr_10 F' g1 g2 g3 g4 g5 g6 g7 g8 g9 g10) N' T hP hTc' hT' hgs' nb hcI hne ⟨hX, hY⟩ ixr iyr (st_tail hst) (by omega) h16 bx b_y (fun h6 tk6 m6 gs6 pc6 ps6 hh hb6 hTc6 hT6 => ?_) X
      obtain ⟨xs6, ys6, zx6, zy6, cx6, cy6, tn6, t16, t26, t36, t46, ix6, iy6, hst6, hle6, F6, N6, q1, q2, q3, q4, q5, q6, q7, q8⟩ := hh
      exact ⟨rfl, _, _, _, _, _, rfl, F6, N6, off_x off, hb6, xs6, ys6, zx6, zy6, cx6, cy6, tn6, t16, t26, t36, t46, pc6, ps6, ix6, iy6, hst6, hle6, hTc6, hT6, rfl, q1, q2, q3, q4, q5, q6, q7, q8⟩
    · have F3 := fr_10 (k1 := Str.ofString "x") (k2 := Str.ofString "y") (k3 := Str.ofString "most") (k4 := Str.ofString "xs") (k5 := Str.ofString "ys") (k6 := Str.ofString "n") (k7 := Str.ofString "sx") (k8 := Str.ofString "sy") (k9 := Str.ofString "xy") (k10 := Str.ofString "xx") FF2 rfl rfl rfl rfl rfl rfl rfl rfl rfl rfl
      refine tb1b B F3 N3 T hP hq (fun h' tk m' tn t1 t2 t3 t4 F' N' g1 g2 g3 g4 g5 g6 g7 g8 g9 g10 => ?_) X
      refine tb23 B (fr_10 F' g1 g2 g3 g4 g5 g6 g7 g8 g9 g10) N' T hP hTc' hT' hgs' nb hcI hne ⟨hX, hY⟩ ix iy hst (by omega) h16 bx b_y (fun h6 tk6 m6 gs6 pc6 ps6 hh hb6 hTc6 hT6 => ?_) X
      obtain ⟨xs6, ys6, zx6, zy6, cx6, cy6, tn6, t16, t26, t36, t46, ix6, iy6, hst6, hle6, F6, N6, q1, q2, q3, q4, q5, q6, q7, q8⟩ := hh
      exact ⟨rfl, _, _, _, _, _, rfl, F6, N6, off_x off, hb6, xs6, ys6, zx6, zy6, cx6, cy6, tn6, t16, t26, t36, t46, pc6, ps6, ix6, iy6, hst6, hle6, hTc6, hT6, rfl, q1, q2, q3, q4, q5, q6, q7, q8⟩
  · obtain ⟨hgs', xs, ys, zx, zy, cx, cy, tn', t1', t2', t3', t4', pc', ps', ix, iy, hst, hle, hTc', hT', rfl, f1, f2, f3, f4, f5, f6, f7, f8⟩ := hJ
    (try clear FF); (try clear NN)
    dsimp only
    k_steps
    all_goals (try k_data)
    exact hQ _ _ _ _ _ _ _ F' (fun q hq => N' q (.tail _ (.tail _ (.tail _ hq)))) hgs'
end Mine
end

section
open PySem PySem.W PySem.Calls PyProof.Rows
set_option maxRecDepth 100000
set_option maxHeartbeats 2000000
namespace Mine
theorem zz_LM4 : True := by
  w_top off
  k_with_none
  trivial
theorem fr_9 {g h : Heap} {L : Addr} {m : Str → Option Value} {k1 k2 k3 k4 k5 k6 k7 k8 k9 : Str} {v1 v2 v3 v4 v5 v6 v7 v8 v9 : Value} (F : Fr g L h m) (h1 : m k1 = some v1) (h2 : m k2 = some v2) (h3 : m k3 = some v3) (h4 : m k4 = some v4) (h5 : m k5 = some v5) (h6 : m k6 = some v6) (h7 : m k7 = some v7) (h8 : m k8 = some v8) (h9 : m k9 = some v9) : Fr g L h (fun z => if z = k1 then some v1 else if z = k2 then some v2 else if z = k3 then some v3 else if z = k4 then some v4 else if z = k5 then some v5 else if z = k6 then some v6 else if z = k7 then some v7 else if z = k8 then some v8 else if z = k9 then some v9 else m z) := by
  have e : m = fun z => if z = k1 then some v1 else if z = k2 then some v2 else if z = k3 then some v3 else if z = k4 then some v4 else if z = k5 then some v5 else if z = k6 then some v6 else if z = k7 then some v7 else if z = k8 then some v8 else if z = k9 then some v9 else m z := by
    funext z
    split
    · rename_i e; rw [e, h1]
    · skip
      split
      · rename_i e; rw [e, h2]
      · skip
        split
        · rename_i e; rw [e, h3]
        · skip
          split
          · rename_i e; rw [e, h4]
          · skip
            split
            · rename_i e; rw [e, h5]
            · skip
              split
              · rename_i e; rw [e, h6]
              · skip
                split
                · rename_i e; rw [e, h7]
                · skip
                  split
                  · rename_i e; rw [e, h8]
                  · skip
                    split
                    · rename_i e; rw [e, h9]
                    · rfl
  rw [← e]; exact F
def StopG (P : Prop) : Prop := P
theorem stopG_ {P : Prop} (h : StopG P) : P := h
theorem zz_LM4_22 : True := by
  k_with "my execs cons" =>
    ((with_reducible show wpAny _ _ (execs (Stmt.For _ _ _ _ _ :: _) _) _ _ _); refine stopG_ ?_)
  trivial
theorem news_sw {h₀ h : Heap} {L : Addr} {d e y x : Addr × Obj} {r : List (Addr × Obj)} (N : News h₀ L h (d :: e :: y :: x :: r)) : News h₀ L h (x :: y :: r) := fun q hq => by
  rcases List.mem_cons.mp hq with rfl | hq
  · exact N _ (.tail _ (.tail _ (.tail _ (.head _))))
  · rcases List.mem_cons.mp hq with rfl | hq
    · exact N _ (.tail _ (.tail _ (.head _)))
    · exact N _ (.tail _ (.tail _ (.tail _ (.tail _ hq))))
theorem lm2 {w : World} {fa : Addr} {cd : Value} {h₀ : Heap} {mean : ExcName → Option Value} {mg mb : Str → Option Value} {s : Shared} {Q : Flow → Shared → Prop} {R1 R2 : Value → Shared → Prop} {L aP aS : Addr} {m : Str → Option Value} {zs ws : List Value} {scr : List Int} {c : Nat} {pc ps : Array Value} {tups : List (Addr × Obj)} {pts : List (Int × Int)}
    (B : Below callerA h₀ [] h₀) (F : Fr h₀ L s.heap (fun z => if z = Str.ofString "points" then some (.ref aP) else if z = Str.ofString "script" then some (.ref aS) else m z)) (N : News h₀ L s.heap ((aP, listOf (List.toArray zs) c) :: (107, tabObj pc) :: (186, tabObj ps) :: tups))
    (T : Top Mine.vw (looseW Mine.vw [Str.ofString "_tuplegetter", Str.ofString "LinearRegression", Str.ofString "linear_regression", Str.ofString "covariance"]) mean mg mb h₀) (hP : TupsAre tups zs pts) (hTc : TabOk pc) (hT : TabOk ps) (hgs : AllBare s.gens) (nb : NoneBooked h₀) (hl : h₀.IsList aS ws.toArray) (hi : IntsAre ws scr) (h63 : scr.length ≤ 63) (hb : ∀ p ∈ pts, p.1.natAbs ≤ 2 ^ 18 ∧ p.2.natAbs ≤ 2 ^ 18)
    (hQ : ∀ h' tk m' gs' pc' ps' news', Fr h₀ L h' m' → News h₀ L h' ((107, tabObj pc') :: (186, tabObj ps') :: news') → AllBare gs' → Q (.ret (.bool true)) ⟨h', gs', s.drawn, tk, s.os⟩) :
    (Mine.hd.heap_39 w.params).In h₀ → wpAny (model PySem.Challenge.rw_kq0023_05.row.prog w) (callerA.deeper (envOf (Str.ofString "law") lawScope L fa cd)) (execs (lawRest 3) (envOf (Str.ofString "law") lawScope L fa cd)) Q (fun e s' => wpAny (model PySem.Challenge.rw_kq0023_05.row.prog w) (callerA.deeper (envOf (Str.ofString "law") lawScope L fa cd)) (leaving (envOf (Str.ofString "law") lawScope L fa cd) e) (fun _ s'' => R1 e s'') (fun e' s'' => R2 e' s'') s') s := by
  k_fill
  intro X
  dsimp only [lawRest, lawScope, lawFn, fnScope, fnBody, PySem.Challenge.pw_kq0023_05, List.getLastD, List.getLast, List.drop, List.headD]
  have lws := hi.length
  k_steps
  all_goals (try k_data)
  unfold StopG
  rename News _ _ _ _ => NN
  rename Fr _ _ _ _ => FF
  have F9 := fr_9 (k1 := Str.ofString "points") (k2 := Str.ofString "most") (k3 := Str.ofString "xs") (k4 := Str.ofString "ys") (k5 := Str.ofString "n") (k6 := Str.ofString "sx") (k7 := Str.ofString "sy") (k8 := Str.ofString "xy") (k9 := Str.ofString "xx") FF rfl rfl rfl rfl rfl rfl rfl rfl rfl
  have f1 := Int.fmod_nonneg_of_pos scr.sum (b := 15) (by decide)
  have f2 := Int.fmod_lt_of_pos scr.sum (b := 15) (by decide)
  refine lm3 B F9 (news_sw NN) T hP hTc hT hgs nb ⟨?_, ?_, ?_, ?_, ?_, ?_, ?_⟩ ?_ ?_ hb hQ X
  all_goals omega
end Mine
end

section
open PySem PySem.W PySem.Calls PyProof.Rows
set_option maxRecDepth 100000
set_option maxHeartbeats 800000
namespace Mine
theorem zz_FR5 : True := by
  w_top off
  k_with_none
  trivial
theorem list_hid {h : Heap} {P a : Addr} {vs : Array Value} {ps : Array Value} (hP : h.get? P = some (tabObj ps)) (hl : h.IsList a vs) : (hidP h P).IsList a vs := by
  obtain ⟨o, e, hc, n, hd⟩ := hl
  exact ⟨o, hid_but hP e (fun z => by rw [z] at hd; cases hd), hc, n, hd⟩
theorem k_none1 (Q : Params) : (Mine.hd.heap_39 Q).lookup 107 = none := by kernel_rfl
theorem k_none2 (Q : Params) : (Mine.hd.heap_39 Q).lookup 186 = none := by kernel_rfl
theorem bare_nil {g : Array GenState} (h : g = #[]) : AllBare g := by
  intro x hx
  rw [h] at hx
  cases hx with
  | mk h => cases h
theorem k_nb (Q : Params) : nbIn (Mine.hd.heap_39 Q) = true := by kernel_rfl
theorem half_eq (n : Nat) : ((n : Int)).fdiv 2 = ((n / 2 : Nat) : Int) := by
  rw [Int.fdiv_eq_ediv_of_nonneg _ (by decide)]; omega
theorem fr_2 {g h : Heap} {L : Addr} {m : Str → Option Value} {k1 k2 : Str} {v1 v2 : Value} (F : Fr g L h m) (h1 : m k1 = some v1) (h2 : m k2 = some v2) : Fr g L h (fun z => if z = k1 then some v1 else if z = k2 then some v2 else m z) := by
  have e : m = fun z => if z = k1 then some v1 else if z = k2 then some v2 else m z := by
    funext z
    split
    · rename_i e; rw [e, h1]
    · split
      · rename_i e; rw [e, h2]
      · rfl
  rw [← e]; exact F
theorem news_p {h₀ h : Heap} {L : Addr} {a d3 d2 d1 p q : Addr × Obj} (N : News h₀ L h [a, d3, d2, d1, p, q]) : News h₀ L h (a :: q :: p :: [d3, d2, d1]) := fun x hx => N x (by
  simp only [List.mem_cons, List.not_mem_nil, or_false] at hx ⊢
  rcases hx with e | e | e | e | e | e
  · exact .inl e
  · exact .inr (.inr (.inr (.inr (.inr e))))
  · exact .inr (.inr (.inr (.inr (.inl e))))
  · exact .inr (.inl e)
  · exact .inr (.inr (.inl e))
  · exact .inr (.inr (.inr (.inl e))))
theorem tups_3 {scr : List Int} {hN : Nat} {T1 T2 T3 : Addr} {u1 u2 u3 u4 u5 u6 : Tok} {k1 k2 k3 : Nat} : TupsAre [(T3, tupO (-1) u5 6 u6 k3), (T2, tupO 2 u3 4 u4 k2), (T1, tupO 2 u1 1 u2 k1)] [.ref T1, .ref T2, .ref T3] (ptsAt scr hN 0) := by
  have h0 : ∀ p ∈ [(T3, tupO (-1) u5 6 u6 k3), (T2, tupO 2 u3 4 u4 k2), (T1, tupO 2 u1 1 u2 k1)], p.2.cls = .type "tuple" := fun p hp => by
    simp only [List.mem_cons, List.not_mem_nil, or_false] at hp
    rcases hp with rfl | rfl | rfl <;> rfl
  have a := TupsAre.mem (T := T1) (x := 2) (y := 1) (.tail _ (.tail _ (.head _))) (TupsAre.nil h0) rfl
  have b := TupsAre.mem (T := T2) (x := 2) (y := 4) (.tail _ (.head _)) a rfl
  exact TupsAre.mem (T := T3) (x := -1) (y := 6) (.head _) b rfl
def StopF (P : Prop) : Prop := P
theorem stopF_ {P : Prop} (h : StopF P) : P := h
theorem zz_FR5_23 : True := by
  k_with "my execs cons" =>
    ((with_reducible show wpAny _ _ (execs (Stmt.For _ _ _ _ _ :: _) _) _ _ _); refine stopF_ ?_)
  trivial
theorem fr5 : PySem.Challenge.rw_kq0023_05.Holds := Mine.hd (by
  w_strict (
    k_fill
    intro w s₀ s₁ mg mb G Y fa o pm cd doc dV kV ho hd hcd hD hmg hg args vals as hpre hlay hrd hwl hlo
    have KX := kIn_of Y
    lgec_behind G ho hd hcd hD hmg hpre hlay hrd hwl hlo cd
    rename Top _ _ _ _ _ _ => T0
    rename Fr _ _ _ _ => F0
    rename News _ _ _ _ => N0
    rename Below _ _ _ _ => B0
    rename Heap.IsList _ _ _ => l0
    have hP0 : s₁.heap.get? 107 = some (tabObj #[]) := KX 107 _ rfl
    have hR0 : s₁.heap.get? 186 = some (tabObj #[]) := KX 186 _ rfl
    have K1 : (Mine.hd.heap_39 w.params).In s₁.heap := fun a o' e => KX a o' (by
      have n1 : a ≠ 107 := fun eb => by rw [eb, k_none1] at e; cases e
      have n2 : a ≠ 186 := fun eb => by rw [eb, k_none2] at e; cases e
      show List.lookup a ((107, _) :: (186, _) :: _) = some o'
      rw [List.lookup_cons, beq_eq_false_iff_ne.mpr n1, List.lookup_cons, beq_eq_false_iff_ne.mpr n2]
      exact e)
    have l7 : @LT.lt Nat _ 107 s₁.heap.objs.size := Heap.lt_size hP0
    have l9 : @LT.lt Nat _ 186 s₁.heap.objs.size := Heap.lt_size hR0
    have hTA := (lr_code tab_nil hR0 K1).2.2
    have hTC := (cov_code tab_nil hP0 K1).2.2
    have T1 := top_hid2 (R := 186) (P := 107) hP0 hR0 (by decide) T0 (fun d hd a o fd c P' a1 a2 a3 a4 a5 => ((law_tabs T0.g K1).2 d hd a o fd c P' a1 a2 a3 a4 a5).symm)
    have F1 := fr_hid (P := 186) (fr_hid (P := 107) F0)
    have N1 := news_hid (P := 186) (hid_get hR0 (by decide)) (fr_hid (P := 107) F0) (news_hid (P := 107) hP0 F0 N0)
    have B1 : Below callerA (hidP (hidP s₁.heap 107) 186) [] (hidP (hidP s₁.heap 107) 186) := below_caller _
    have X1 := in_hid (P := 186) (in_hid (P := 107) K1 (k_none1 _)) (k_none2 _)
    have l1 := list_hid (P := 186) (hid_get hR0 (by decide)) (list_hid (P := 107) hP0 l0)
    (try (rename LGe.Mark => lm; clear lm))
    clear B0 l0 N0 F0 K1 KX Y T0
    (all_goals try k_fold)
    k_steps
    (all_goals (try k_data))
    unfold StopF
    rename News _ _ _ _ => NN
    rename Fr _ _ _ _ => FF
    rename IntsAre _ _ => hI
    rename ¬ (_ : Int) < _ => h63
    rename (@LT.lt Nat _ _ _) ∧ _ ∧ _ ∧ _ => lz
    have F3 := fr_3 (k1 := Str.ofString "points") (k2 := Str.ofString "half") (k3 := Str.ofString "script") FF rfl (mI rfl (half_eq _)) rfl
    refine lm1 B1 F3 (news_p NN) T1 ⟨by omega, by omega⟩ l1 hI (by omega) (by omega) tups_3 (fun h' tk m' zs' c' tups' F' N' hP m1 m2 => ?_) X1
    refine lm2 B1 (fr_2 F' m1 m2) N' T1 hP tab_nil tab_nil (bare_nil hg) (nb_of X1 (k_nb _)) l1 hI (by omega) (pts_bd _ _ _) (fun h' tk m' gs' pc' ps' news' F' N' hb' => ?_) X1
    (try dsimp only)
    refine goodWG_true (oldK_end2 hP0 hR0 hTC hTA F' (N' _ (.head _)).1 (N' _ (.tail _ (.head _))).1) rfl hb' (raisesW_false ?_) ?_
    · wrow_none_raised
    · wrow_post))
end Mine
end

set_option maxRecDepth 100000 in
theorem PySem.Challenge.cw_kq0023_05_holds : PySem.Challenge.rw_kq0023_05.Holds :=
  Mine.fr5
