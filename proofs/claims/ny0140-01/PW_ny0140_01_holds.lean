import PyProof.Rows.All
import Wide.All
import OpenK.AllK
import Wide.FinOn
import KE.KSuper
import KE.KSortAsk
import KE.KSortKey
import PySem.Challenge.RW_ny0140_01
set_option Elab.async false
set_option linter.all false
set_option compiler.extract_closed false
set_option compiler.reuse false
set_option compiler.small 0
set_option genSizeOf false
set_option genInjectivity false
set_option genCtorIdx false
open PySem PySem.W PyProof.Rows
set_option maxRecDepth 100000
set_option maxHeartbeats 8000000
section
namespace Mine
open PySem PySem.W PyProof.Rows
set_option maxHeartbeats 8000000
def row0 : OpenRow where
  prog := PySem.Challenge.pw_ny0140_01
  name := Str.ofString "_strcoll"
  records := []
  args := [.int, .int]
  returns := .int
  pre := .lit (.bool true)
  post := .lit (.bool true)
  raises := []
  mutates := []
  within := []
  unshared := true
  same := none
  under := ⟨true, true, true⟩
  after := ⟨true, true, true⟩
  apart := false
  loose := []
  makers := []
  pinned := true
  writes := false
  keeps := []
/-! names kept, so that the head makes no twins -/
def hd.tw14015909994521340511 : Nat := 0
def hd.tw970478554675415233 : Nat := 0
def hd.tw11387694631328260470 : Nat := 0
def hd.tw16175842269887989526 : Nat := 0
def hd.tw13956165655338008812 : Nat := 0
def hd.tw8800731360411900170 : Nat := 0
def hd.tw10779200252408728858 : Nat := 0
def hd.tw2867327485932766208 : Nat := 0
def hd.tw8105295227477018077 : Nat := 0
def hd.tw9673543361469618366 : Nat := 0
def hd.tw16222499966895952523 : Nat := 0
def hd.tw2930668341846507884 : Nat := 0
def hd.tw3530705653197291679 : Nat := 0
def hd.tw14168552714766633299 : Nat := 0
def hd.tw5567388512258382067 : Nat := 0
def hd.tw6293948785866598258 : Nat := 0
def hd.tw8832402302947667407 : Nat := 0
def hd.tw12023040214023829324 : Nat := 0
def hd.tw8735263284916673568 : Nat := 0
def hd.tw8841187974860818712 : Nat := 0
def hd.tw12173100003817136821 : Nat := 0
def hd.tw6082411064634330575 : Nat := 0
def hd.tw3493717111155160527 : Nat := 0
def hd.tw5511420028821071320 : Nat := 0
def hd.tw5978321128707920903 : Nat := 0
def hd.tw5148922909946612681 : Nat := 0
def hd.tw7752767780024739350 : Nat := 0
def hd.tw11953376511379268794 : Nat := 0
def hd.tw17673860158736603733 : Nat := 0
def hd.tw15527848837575444561 : Nat := 0
def hd.tw11959044307898795358 : Nat := 0
def hd.tw15114108414909977919 : Nat := 0
def hd.tw4402725079659364252 : Nat := 0
def hd.tw13267510147771200024 : Nat := 0
def hd.tw11319097763535126812 : Nat := 0
def hd.tw7028611270464810887 : Nat := 0
def hd.tw17808607793243039243 : Nat := 0
def hd.tw10458740792067480800 : Nat := 0
def hd.tw13225837485096350037 : Nat := 0
def hd.tw13753220567063992666 : Nat := 0
def hd.tw4272726840584523970 : Nat := 0
def hd.tw14246236162039180721 : Nat := 0
def hd.tw54727356038600574 : Nat := 0
def hd.tw6305734824756694309 : Nat := 0
def hd.tw978945382295711627 : Nat := 0
def hd.tw3259873300814134281 : Nat := 0
def hd.tw10792051664901133789 : Nat := 0
def hd.tw11611254532205267744 : Nat := 0
def hd.tw18300207936620678264 : Nat := 0
def hd.tw18322514126500204803 : Nat := 0
def hd.tw8414420238210853183 : Nat := 0
def hd.tw9421340871869096474 : Nat := 0
def hd.tw4115565904173853331 : Nat := 0
set_option Elab.async true in
theorem hd : row0.Holds := by
  w_on; o_law; k_head
  (case hw => w_witness2)
  w_strict k_go
end Mine
end
namespace Mine
theorem fl1 : True := by w_top off; first | walk1 | trivial
section
open PySem PySem.W PyProof.Rows PySem.Calls PySem.Spec
set_option maxHeartbeats 4000000
@[reducible] noncomputable def LL : List Str :=
  looseW Mine.hd.view_1_2 [Str.ofString "_initial_missing", Str.ofString "reduce"] ++ List.map (fun x => x.name) (recsOf Mine.hd.view_1_2) ++ List.map (fun x => x.fst) (litsOf Mine.hd.view_1_2) ++
    List.map (fun x => x.name) (clssOf Mine.hd.view_1_2 (looseW Mine.hd.view_1_2 [Str.ofString "_initial_missing", Str.ofString "reduce"]))
noncomputable abbrev Am (dp un : Nat) (gd : Option (List Code)) (outer : List Env) : Around := { handled := none, depth := dp, frames := some outer, guards := gd, units := un }
structure Rdy (w : World) (mean : ExcName → Option Value) (mg mb : Str → Option Value) (dp un : Nat) (gd : Option (List Code)) (outer : List Env) (h : Heap) : Prop where
  below : ∃ base, Below (Am dp un gd outer) base outer h
  K : (_root_.Mine.hd.heap_1_1 w.params).In h
  top : Top topProg LL mean mg mb h
noncomputable def Halt (P : Prop) : Prop := P
theorem Halt.go {P : Prop} (h : Halt P) : P := h
theorem Halt.mk {P : Prop} (h : P) : Halt P := h
noncomputable abbrev Ret (s : Shared) (Q : Value → Shared → Prop) (P : Value → Heap → Prop) : Prop := ∀ v h' tk, s.heap.StaysIn h' → P v h' → Q v { s with heap := h', toks := tk }
section
variable {w : World} {mean : ExcName → Option Value} {mg mb : Str → Option Value} {dp un : Nat} {gd : Option (List Code)} {outer : List Env}
theorem Rdy.ext {h h' : Heap} (Y : Rdy w mean mg mb dp un gd outer h) (x : h.StaysIn h') : Rdy w mean mg mb dp un gd outer h' := by
  obtain ⟨⟨base, B⟩, K, T⟩ := Y
  exact ⟨⟨base, ⟨B.stack, fun b o e => x b o (B.stays b o e), B.frames.of_keeps fun b o e _ => ⟨o, x b o e, rfl⟩⟩⟩, K.keeps x, T.keeps x⟩
theorem Rdy.inner {g h base : Heap} {L a : Addr} {m : Str → Option Value} {name : Str} {scope : Scope} {cd : Value} {cl : List (Str × Addr)} (B : Below (Am dp un gd outer) base outer g) (X : (_root_.Mine.hd.heap_1_1 w.params).In g) (T : Top topProg LL mean mg mb g)
    (F : Fr g L h m) (hk : scope.kind = .function) : Rdy w mean mg mb (dp + 1) (un + 3) gd (envX name scope L a cd cl :: outer) h := by
  have B' := pushX (env := envX name scope L a cd cl) B F rfl hk
  exact ⟨⟨base, ⟨rfl, B'.stays, B'.frames⟩⟩, X.keeps F.keep, T.keeps F.keep⟩
theorem fr_on {h h' h₀ : Heap} {L : Addr} {m : Str → Option Value} (x : h.StaysIn h') (F : Fr h₀ L h m) : Fr h₀ L h' m := by
  obtain ⟨oL, es, ep, e, r⟩ := F.ns
  exact ⟨⟨oL, es, ep, x _ _ e, r⟩, fun b o e => x b o (F.keep b o e), F.above⟩
theorem news_on {h h' h₀ : Heap} {L : Addr} {news : List (Addr × Obj)} (x : h.StaysIn h') (N : News h₀ L h news) : News h₀ L h' news :=
  fun p hp => ⟨x _ _ (N p hp).1, (N p hp).2⟩
theorem str_is {x y : Str} {t : Tok} (h : x = y) : ∃ t', Value.str x t = Value.str y t' := ⟨t, h ▸ rfl⟩
theorem int_is {x y : Int} {t : Tok} (h : x = y) : ∃ t', Value.int x t = Value.int y t' := ⟨t, h ▸ rfl⟩
theorem enter {s : Shared} {R : Result → Shared → Prop} {name qual : Str} {params : Arguments} {body : List Stmt} {scope : Scope} {dV kV doc pm cdv ct oc : Value} {an od : Option Addr} {osl : Array (Option Value)} {f : Addr} {args : Args} {binds : List (Str × Value)}
    (Y : Rdy w mean mg mb dp un gd outer s.heap)
    (ho : (_root_.Mine.hd.heap_1_1 w.params).lookup f = some ⟨oc, od, .func (fnOf name qual params body scope dV kV doc pm an cdv ct), osl⟩) (hcd : codeIn (_root_.Mine.hd.heap_1_1 w.params) cdv qual = true) (hroom : dp < recursionLimit)
    (hbind : BindsTo s (fnOf name qual params body scope dV kV doc pm an cdv ct) args binds) (hloc : ∀ y ∈ binds, scope.names.lookup y.1 = some .local)
    (h : ∀ base g L' h₁, s.heap.StaysIn g → (∀ h', g.StaysIn h' → s.heap.StaysIn h') → Fr g L' h₁ (fun y => binds.reverse.lookup y) → News g L' h₁ [] → Below (Am dp un gd outer) base outer g →
      (_root_.Mine.hd.heap_1_1 w.params).In g → Top topProg LL mean mg mb g →
      wpAny (model PySem.Challenge.rw_ny0140_01.row.prog w) ((Am dp un gd outer).deeper (envOf qual scope L' f cdv)) (execs body (envOf qual scope L' f cdv))
        (fun fl s' => R (.ok (.ret (match fl with | .ret v => v | _ => .none))) s')
        (fun e s' => wpAny (model PySem.Challenge.rw_ny0140_01.row.prog w) ((Am dp un gd outer).deeper (envOf qual scope L' f cdv)) (leaving (envOf qual scope L' f cdv) e) (fun _ s'' => R (.error e) s'') (fun e' s'' => R (.error e') s'') s')
        { s with heap := h₁, toks := s.toks + binds.length })
    (hcell : ∀ x ∈ scope.names, x.2 ≠ .cell) (hco : scope.isCoroutine = false := by rfl) (hgen : scope.isGenerator = false := by rfl) (hk : scope.kind = .function := by rfl) :
    codeAny (model PySem.Challenge.rw_ny0140_01.row.prog w) (Am dp un gd outer) (.call (.ref f) args) R s := by
  obtain ⟨base, B⟩ := Y.below
  refine codeAny_call_def (fd := fnOf name qual params body scope dV kV doc pm an cdv ct) (body := body) (binds := binds) hroom (Y.K _ _ ho) rfl Y.top.nolimit (codeRec_of Y.K hcd) rfl hbind hcell hloc (fun h₁ hns hk₁ => ?_) hco hgen hk
  exact h base s.heap s.heap.objs.size h₁ (fun _ _ e => e) (fun _ k => k) ⟨hns, hk₁, Nat.le_refl _⟩ News.nil B Y.K Y.top
end
end
local macro_rules | `(tactic| walk_at "HALT") => `(tactic| refine Halt.go ?_)
theorem fl2 : True := by w_top off; first | walk1 | trivial
section
open PySem PySem.W PyProof.Rows PySem.Calls PySem.Spec
set_option maxHeartbeats 4000000
variable {w : World} {mean : ExcName → Option Value} {mg mb : Str → Option Value} {dp un : Nat} {gd : Option (List Code)} {outer : List Env}
noncomputable def cutF (x : Int) : Int := if x > 0 then (x.natAbs : Int) % 10^15 else -((x.natAbs : Int) % 10^15)
theorem cut_call {s : Shared} {Q E : Value → Shared → Prop} {n : Int} {tk : Tok} (Y : Rdy w mean mg mb dp un gd outer s.heap) (hd : dp + 1 < recursionLimit)
    (hret : Ret s Q fun v _ => ∃ tk, v = .int (cutF n) tk) : wpAny (model PySem.Challenge.rw_ny0140_01.row.prog w) (Am dp un gd outer) (call (.ref 72) [.int n tk]) Q E s := by
  (have fill : (fun w : World => _root_.Mine.hd.heap_1_1 w.params) = (fun w : World => _root_.Mine.hd.heap_1_1 w.params) ∧ PySem.Challenge.rw_ny0140_01.row.prog = PySem.Challenge.rw_ny0140_01.row.prog := (by k_fill; exact ⟨rfl, rfl⟩); clear fill)
  k_dflt ((refine wpAny_call ?_; refine' enter ?kY ?k6 ?k7 ?k8 ?k9 ?kB ?_ ?c2 ?c3 ?c4 ?c5; (case kY => assumption); (case k6 => k_is); (case k7 => k_is); (case k8 => omega); (case k9 => exact BindsTo.of_eq rfl); (case c5 => exact rfl); (case kB => exact locs rfl); (case c2 => decide); (case c3 => exact rfl); (case c4 => exact rfl); k_whole; intro base g L' h' kG kH F' N' B' X' T'; (try dsimp only); (try k_fold)))
  k_steps
  · refine hret _ _ _ (kH _ (Fr.keep (by assumption))) (ktn_int ?_)
    have h15 : (10 : Int) ^ Int.toNat 15 = 10 ^ 15 := rfl
    have ha : (if n < 0 then -n else n) = (n.natAbs : Int) := by split <;> omega
    rw [ha, h15, Int.fmod_eq_emod_of_nonneg _ (by decide)]
    exact (if_pos (by assumption)).symm
  · refine hret _ _ _ (kH _ (Fr.keep (by assumption))) (ktn_int ?_)
    have h15 : (10 : Int) ^ Int.toNat 15 = 10 ^ 15 := rfl
    have ha : (if n < 0 then -n else n) = (n.natAbs : Int) := by split <;> omega
    rw [ha, h15, Int.fmod_eq_emod_of_nonneg _ (by decide)]
    exact (if_neg (by assumption)).symm
end
theorem fl3 : True := by w_top off; first | walk1 | trivial
section
open PySem PySem.W PyProof.Rows PySem.Calls PySem.Spec
set_option maxHeartbeats 4000000
variable {w : World} {mean : ExcName → Option Value} {mg mb : Str → Option Value} {dp un : Nat} {gd : Option (List Code)} {outer : List Env}
local macro_rules | `(tactic| size_fits) => `(tactic| (simp only [Str.length_append, sizeLine_eq, show (Str.ofString ".").length = 1 from rfl, show (Str.ofString "C").length = 1 from rfl]; omega))
noncomputable def cmpS (x y : Str) : Int := if y.cps.toList < x.cps.toList then 1 else if x.cps.toList < y.cps.toList then -1 else 0
theorem coll_call {s : Shared} {Q E : Value → Shared → Prop} {x y : Str} {t u : Tok} (Y : Rdy w mean mg mb dp un gd outer s.heap) (hd : dp + 1 < recursionLimit)
    (hret : Ret s Q fun v _ => ∃ tk, v = .int (cmpS x y) tk) : wpAny (model PySem.Challenge.rw_ny0140_01.row.prog w) (Am dp un gd outer) (call (.ref 21) [.str x t, .str y u]) Q E s := by
  (have fill : (fun w : World => _root_.Mine.hd.heap_1_1 w.params) = (fun w : World => _root_.Mine.hd.heap_1_1 w.params) ∧ PySem.Challenge.rw_ny0140_01.row.prog = PySem.Challenge.rw_ny0140_01.row.prog := (by k_fill; exact ⟨rfl, rfl⟩); clear fill)
  k_dflt ((refine wpAny_call ?_; refine' enter ?kY ?k6 ?k7 ?k8 ?k9 ?kB ?_ ?c2 ?c3 ?c4 ?c5; (case kY => assumption); (case k6 => k_is); (case k7 => k_is); (case k8 => omega); (case k9 => exact BindsTo.of_eq rfl); (case c5 => exact rfl); (case kB => exact locs rfl); (case c2 => decide); (case c3 => exact rfl); (case c4 => exact rfl); k_whole; intro base g L' h' kG kH F' N' B' X' T'; (try dsimp only); (try k_fold)))
  k_steps
  refine hret _ _ _ (kH _ (Fr.keep (by assumption))) (ktn_int ?_)
  unfold cmpS b2i
  have lt : x.cps.toList < y.cps.toList → ¬ y.cps.toList < x.cps.toList := fun h => List.lt_asymm h
  by_cases h1 : y.cps.toList < x.cps.toList <;> by_cases h2 : x.cps.toList < y.cps.toList <;> simp [h1, h2]
  exact absurd h1 (lt h2)
theorem build_call {s : Shared} {Q E : Value → Shared → Prop} {a : Addr} {n e : Value} {x y : Option Str} (ht : IsTup s.heap a #[n, e]) (hn : (n = .none ∧ x = none) ∨ ∃ z t, n = .str z t ∧ x = some z ∧ z.length ≤ 1000000) (he : (e = .none ∧ y = none) ∨ ∃ z t, e = .str z t ∧ y = some z ∧ z.length ≤ 1000000)  (Y : Rdy w mean mg mb dp un gd outer s.heap) (hd : dp + 1 < recursionLimit)
    (hret : Ret s Q fun v _ => ∃ tk, v = .str (match y with | none => x.getD (Str.ofString "C") | some z => x.getD (Str.ofString "C") ++ Str.ofString "." ++ z) tk) : wpAny (model PySem.Challenge.rw_ny0140_01.row.prog w) (Am dp un gd outer) (call (.ref 28) [.ref a]) Q E s := by
  (have fill : (fun w : World => _root_.Mine.hd.heap_1_1 w.params) = (fun w : World => _root_.Mine.hd.heap_1_1 w.params) ∧ PySem.Challenge.rw_ny0140_01.row.prog = PySem.Challenge.rw_ny0140_01.row.prog := (by k_fill; exact ⟨rfl, rfl⟩); clear fill)
  k_dflt ((refine wpAny_call ?_; refine' enter ?kY ?k6 ?k7 ?k8 ?k9 ?kB ?_ ?c2 ?c3 ?c4 ?c5; (case kY => assumption); (case k6 => k_is); (case k7 => k_is); (case k8 => omega); (case k9 => exact BindsTo.of_eq rfl); (case c5 => exact rfl); (case kB => exact locs rfl); (case c2 => decide); (case c3 => exact rfl); (case c4 => exact rfl); k_whole; intro base g L' h' kG kH F' N' B' X' T'; (try dsimp only); (try k_fold)))
  have ht' := ht.keeps kG
  rcases hn with ⟨rfl, rfl⟩ | ⟨z, t, rfl, rfl, hz⟩ <;> rcases he with ⟨rfl, rfl⟩ | ⟨z', t', rfl, rfl, hz'⟩
  all_goals k_steps
  all_goals (refine hret _ _ _ (kH _ (Fr.keep (by assumption))) (str_is ?_); rfl)
end
section
open PySem PySem.W PyProof.Rows PySem.Calls PySem.Spec PySem.SeqAt PySem.AutoSeq1 PySem.MeetsSeq PySem.MeetsSeq2 PySem.MeetsSeq3 PySem.SeqRoads2
set_option maxHeartbeats 4000000
noncomputable def CmpAt (op : CmpOp) (A : Around) (s : Shared) (y x : Value) (b : Bool) : Prop :=
  ∀ (prog : Program) (w : World) (E : Value → Shared → Prop) (Q : Value → Shared → Prop), Q (.bool b) s → wpAny (model prog w) A (richCompare op y x) Q E s
noncomputable def cmpFrom (e c : Nat → Bool) (fin : Bool) : Nat → Nat → Bool
  | 0, _ => fin
  | k + 1, i => if e i then cmpFrom e c fin k (i + 1) else c i
theorem lt_loopAt (l b : Addr) (items items2 : Array Value) (n n2 : Nat) (dd dd2 : Option Addr) (sl sl2 : Array (Option Value)) (e c : Nat → Bool) (k : Nat) :
    ∀ i : Nat, min items.size items2.size - i = k → Meets (Builtin.«list.__eq__.loop» ⟨[.ref l, .ref b, rawInt i, rawInt 0], []⟩)
      (fun A R s => s.heap.get? l = some { cls := .type "list", dict := dd, data := .seq items n, slots := sl } ∧ s.heap.get? b = some { cls := .type "list", dict := dd2, data := .seq items2 n2, slots := sl2 } ∧
        (∀ j (h1 : j < items.size) (h2 : j < items2.size), EqAt A.in1 s items[j] items2[j] (e j)) ∧ (∀ j (h1 : j < items.size) (h2 : j < items2.size), e j = false → CmpAt .Lt A.in1 s items[j] items2[j] (c j)) ∧
        R (.ok (.ret (.bool (cmpFrom e c (decide (items.size < items2.size)) k i)))) s) := by
  induction k with
  | zero =>
    intro i hk prog w A R s h
    obtain ⟨hp, g, d, tk, os⟩ := s; obtain ⟨hl, hb, he, hc, h⟩ := h
    wp_walk using wpAny_loadPart' hl, wpAny_loadPart' hb
    by_cases hi : items.size ≤ i
    · have hi1 : items[((i : Nat) : Int).toNat]? = none := by simp; omega
      rw [hi1]
      wp_walk using wpAny_loadPart' hl, wpAny_loadPart' hb
      exact h
    · have hi1 : items[((i : Nat) : Int).toNat]? = some items[i] := by simp
      have hi2 : items2[((i : Nat) : Int).toNat]? = none := by simp; omega
      rw [hi1, hi2]
      wp_walk using wpAny_loadPart' hl, wpAny_loadPart' hb
      exact h
  | succ k ih =>
    intro i hk prog w A R s h
    obtain ⟨hp, g, d, tk, os⟩ := s; obtain ⟨hl, hb, he, hc, h⟩ := h
    wp_walk using wpAny_loadPart' hl, wpAny_loadPart' hb
    have hlt : i < items.size := by omega
    have hlt2 : i < items2.size := by omega
    have hi1 : items[((i : Nat) : Int).toNat]? = some items[i] := by simp [hlt]
    have hi2 : items2[((i : Nat) : Int).toNat]? = some items2[i] := by simp [hlt2]
    have hcc : ((i : Int) + 1) = ((i + 1 : Nat) : Int) := by push_cast; rfl
    rw [hi1, hi2]
    refine wpAny_bind (he i hlt hlt2 prog w _ _ ?_)
    unfold cmpFrom at h
    cases hb' : e i with
    | true =>
      rw [hb'] at h
      wp_walk
      rw [hcc]
      exact ⟨plainId_quiet plain_eq_loop _, codeAny_builtin entry_eq_loop (by
        rw [Around.under_plainId plain_eq_loop _]
        exact ih (i + 1) (by omega) prog w A R _ ⟨hl, hb, he, hc, by simpa using h⟩)⟩
    | false =>
      rw [hb'] at h
      wp_walk using wpAny_loadPart' hl, wpAny_loadPart' hb
      rw [hi1, hi2]
      exact wpAny_bind (hc i hlt hlt2 hb' prog w _ _ (by wp_walk; simpa using h))
theorem gt_loopAt (l b : Addr) (items items2 : Array Value) (n n2 : Nat) (dd dd2 : Option Addr) (sl sl2 : Array (Option Value)) (e c : Nat → Bool) (k : Nat) :
    ∀ i : Nat, min items.size items2.size - i = k → Meets (Builtin.«list.__eq__.loop» ⟨[.ref l, .ref b, rawInt i, rawInt 4], []⟩)
      (fun A R s => s.heap.get? l = some { cls := .type "list", dict := dd, data := .seq items n, slots := sl } ∧ s.heap.get? b = some { cls := .type "list", dict := dd2, data := .seq items2 n2, slots := sl2 } ∧
        (∀ j (h1 : j < items.size) (h2 : j < items2.size), EqAt A.in1 s items[j] items2[j] (e j)) ∧ (∀ j (h1 : j < items.size) (h2 : j < items2.size), e j = false → CmpAt .Gt A.in1 s items[j] items2[j] (c j)) ∧
        R (.ok (.ret (.bool (cmpFrom e c (decide (items.size > items2.size)) k i)))) s) := by
  induction k with
  | zero =>
    intro i hk prog w A R s h
    obtain ⟨hp, g, d, tk, os⟩ := s; obtain ⟨hl, hb, he, hc, h⟩ := h
    wp_walk using wpAny_loadPart' hl, wpAny_loadPart' hb
    by_cases hi : items.size ≤ i
    · have hi1 : items[((i : Nat) : Int).toNat]? = none := by simp; omega
      rw [hi1]
      wp_walk using wpAny_loadPart' hl, wpAny_loadPart' hb
      exact h
    · have hi1 : items[((i : Nat) : Int).toNat]? = some items[i] := by simp
      have hi2 : items2[((i : Nat) : Int).toNat]? = none := by simp; omega
      rw [hi1, hi2]
      wp_walk using wpAny_loadPart' hl, wpAny_loadPart' hb
      exact h
  | succ k ih =>
    intro i hk prog w A R s h
    obtain ⟨hp, g, d, tk, os⟩ := s; obtain ⟨hl, hb, he, hc, h⟩ := h
    wp_walk using wpAny_loadPart' hl, wpAny_loadPart' hb
    have hlt : i < items.size := by omega
    have hlt2 : i < items2.size := by omega
    have hi1 : items[((i : Nat) : Int).toNat]? = some items[i] := by simp [hlt]
    have hi2 : items2[((i : Nat) : Int).toNat]? = some items2[i] := by simp [hlt2]
    have hcc : ((i : Int) + 1) = ((i + 1 : Nat) : Int) := by push_cast; rfl
    rw [hi1, hi2]
    refine wpAny_bind (he i hlt hlt2 prog w _ _ ?_)
    unfold cmpFrom at h
    cases hb' : e i with
    | true =>
      rw [hb'] at h
      wp_walk
      rw [hcc]
      exact ⟨plainId_quiet plain_eq_loop _, codeAny_builtin entry_eq_loop (by
        rw [Around.under_plainId plain_eq_loop _]
        exact ih (i + 1) (by omega) prog w A R _ ⟨hl, hb, he, hc, by simpa using h⟩)⟩
    | false =>
      rw [hb'] at h
      wp_walk using wpAny_loadPart' hl, wpAny_loadPart' hb
      rw [hi1, hi2]
      exact wpAny_bind (hc i hlt hlt2 hb' prog w _ _ (by wp_walk; simpa using h))
theorem list_ltAt (l b : Addr) (items items2 : Array Value) (n n2 : Nat) (dd dd2 : Option Addr) (sl sl2 : Array (Option Value)) (e c : Nat → Bool) :
    Meets (Builtin.«list.__lt__» ⟨[.ref l, .ref b], []⟩)
      (fun A R s => s.heap.get? l = some { cls := .type "list", dict := dd, data := .seq items n, slots := sl } ∧ s.heap.get? b = some { cls := .type "list", dict := dd2, data := .seq items2 n2, slots := sl2 } ∧
        (∀ j (h1 : j < items.size) (h2 : j < items2.size), EqAt A.in1 s items[j] items2[j] (e j)) ∧ (∀ j (h1 : j < items.size) (h2 : j < items2.size), e j = false → CmpAt .Lt A.in1 s items[j] items2[j] (c j)) ∧
        R (.ok (.ret (.bool (cmpFrom e c (decide (items.size < items2.size)) (min items.size items2.size) 0)))) s) := by
  intro prog w A R s h
  obtain ⟨hp, g, d, tk, os⟩ := s; obtain ⟨hl, hb, he, hc, h⟩ := h
  have f3 := AutoSeq1.sub_list_list
  wp_walk using wpAny_loadPart' hl, wpAny_loadPart' hb
  exact ⟨plainId_quiet plain_eq_loop _, codeAny_builtin entry_eq_loop (by
    rw [Around.under_plainId plain_eq_loop _]
    exact lt_loopAt l b items items2 n n2 dd dd2 sl sl2 e c _ 0 rfl prog w A R _ ⟨hl, hb, he, hc, by simpa using h⟩)⟩
theorem list_gtAt (l b : Addr) (items items2 : Array Value) (n n2 : Nat) (dd dd2 : Option Addr) (sl sl2 : Array (Option Value)) (e c : Nat → Bool) :
    Meets (Builtin.«list.__gt__» ⟨[.ref l, .ref b], []⟩)
      (fun A R s => s.heap.get? l = some { cls := .type "list", dict := dd, data := .seq items n, slots := sl } ∧ s.heap.get? b = some { cls := .type "list", dict := dd2, data := .seq items2 n2, slots := sl2 } ∧
        (∀ j (h1 : j < items.size) (h2 : j < items2.size), EqAt A.in1 s items[j] items2[j] (e j)) ∧ (∀ j (h1 : j < items.size) (h2 : j < items2.size), e j = false → CmpAt .Gt A.in1 s items[j] items2[j] (c j)) ∧
        R (.ok (.ret (.bool (cmpFrom e c (decide (items.size > items2.size)) (min items.size items2.size) 0)))) s) := by
  intro prog w A R s h
  obtain ⟨hp, g, d, tk, os⟩ := s; obtain ⟨hl, hb, he, hc, h⟩ := h
  have f3 := AutoSeq1.sub_list_list
  wp_walk using wpAny_loadPart' hl, wpAny_loadPart' hb
  exact ⟨plainId_quiet plain_eq_loop _, codeAny_builtin entry_eq_loop (by
    rw [Around.under_plainId plain_eq_loop _]
    exact gt_loopAt l b items items2 n n2 dd dd2 sl sl2 e c _ 0 rfl prog w A R _ ⟨hl, hb, he, hc, by simpa using h⟩)⟩
section
variable {A : Around} {s : Shared} {l b : Addr} {items items2 : Array Value} {e c : Nat → Bool}
theorem CmpAt.lt_lists (hl : s.heap.IsList l items) (hb : s.heap.IsList b items2) (hu : A.units < cLine)
    (he : ∀ j (h1 : j < items.size) (h2 : j < items2.size), EqAt A.in1 s items[j] items2[j] (e j)) (hc : ∀ j (h1 : j < items.size) (h2 : j < items2.size), e j = false → CmpAt .Lt A.in1 s items[j] items2[j] (c j)) :
    CmpAt .Lt A s (.ref l) (.ref b) (cmpFrom e c (decide (items.size < items2.size)) (min items.size items2.size) 0) := fun prog w E Q h => by
  obtain ⟨⟨cls, dd, data, sl⟩, ho, hcl, n, hd⟩ := id hl
  obtain ⟨⟨cls2, dd2, data2, sl2⟩, ho2, hc2, n2, hd2⟩ := id hb
  simp only at hcl hd hc2 hd2
  subst hcl hd hc2 hd2
  exact richCompare_meets_room (op := .Lt) ⟨_, ho, rfl⟩ ⟨_, ho2, rfl⟩ F.slot_list_lt F.entry_list_lt (F.args_list_lt_2 _ _) (list_ltAt l b items items2 n n2 dd dd2 sl sl2 e c)
    ⟨ho, ho2, he, hc, show Value.bool _ ≠ Value.notImplemented ∧ Q (.bool _) s from ⟨(fun x => nomatch x), h⟩⟩ hu
theorem CmpAt.gt_lists (hl : s.heap.IsList l items) (hb : s.heap.IsList b items2) (hu : A.units < cLine)
    (he : ∀ j (h1 : j < items.size) (h2 : j < items2.size), EqAt A.in1 s items[j] items2[j] (e j)) (hc : ∀ j (h1 : j < items.size) (h2 : j < items2.size), e j = false → CmpAt .Gt A.in1 s items[j] items2[j] (c j)) :
    CmpAt .Gt A s (.ref l) (.ref b) (cmpFrom e c (decide (items.size > items2.size)) (min items.size items2.size) 0) := fun prog w E Q h => by
  obtain ⟨⟨cls, dd, data, sl⟩, ho, hcl, n, hd⟩ := id hl
  obtain ⟨⟨cls2, dd2, data2, sl2⟩, ho2, hc2, n2, hd2⟩ := id hb
  simp only at hcl hd hc2 hd2
  subst hcl hd hc2 hd2
  exact richCompare_meets_room (op := .Gt) ⟨_, ho, rfl⟩ ⟨_, ho2, rfl⟩ F.slot_list_gt F.entry_list_gt (F.args_list_gt_2 _ _) (list_gtAt l b items items2 n n2 dd dd2 sl sl2 e c)
    ⟨ho, ho2, he, hc, show Value.bool _ ≠ Value.notImplemented ∧ Q (.bool _) s from ⟨(fun x => nomatch x), h⟩⟩ hu
end
end
section
open PySem PySem.W PyProof.Rows PySem.Calls PySem.Spec PySem.SeqAt
set_option maxHeartbeats 4000000
noncomputable def IntV (v : Value) (n : Int) : Prop := ∃ t, v = .int n t
noncomputable def StrV (v : Value) (x : Str) : Prop := ∃ t, v = .str x t
noncomputable def ListAt {α : Type} (P : Value → α → Prop) (h : Heap) (v : Value) (xs : List α) : Prop := ∃ a vs, v = .ref a ∧ h.IsList a vs.toArray ∧ Paired P vs xs
noncomputable abbrev InnerAt (h : Heap) : Value → List Int → Prop := ListAt IntV h
noncomputable abbrev RowAt (h : Heap) : Value → List (List Int) → Prop := ListAt (InnerAt h) h
noncomputable abbrev ShelfAt (h : Heap) : Value → List (List (List Int)) → Prop := ListAt (RowAt h) h
noncomputable abbrev StrsAt (h : Heap) : Value → List Str → Prop := ListAt StrV h
section
variable {α β : Type}
theorem Paired.imp {F G : β → α → Prop} {l : List β} {m : List α} (p : Paired F l m) : (∀ v x, v ∈ l → x ∈ m → F v x → G v x) → Paired G l m := by
  induction p with
  | nil => exact fun _ => .nil
  | cons h _ ih => exact fun k => .cons (k _ _ (.head _) (.head _) h) (ih fun v x hv hx => k v x (.tail _ hv) (.tail _ hx))
theorem Paired.get {F : β → α → Prop} {l : List β} {m : List α} (p : Paired F l m) : ∀ {i : Nat} {v : β}, l[i]? = some v → ∃ x, m[i]? = some x ∧ F v x := by
  induction p with
  | nil => intro i v e; simp at e
  | cons h _ ih =>
    intro i v e
    cases i with
    | zero => exact ⟨_, rfl, (Option.some.inj e) ▸ h⟩
    | succ i => exact ih e
theorem Paired.get' {F : β → α → Prop} {l : List β} {m : List α} (p : Paired F l m) : ∀ {i : Nat} {x : α}, m[i]? = some x → ∃ v, l[i]? = some v ∧ F v x := by
  induction p with
  | nil => intro i v e; simp at e
  | cons h _ ih =>
    intro i v e
    cases i with
    | zero => exact ⟨_, rfl, (Option.some.inj e) ▸ h⟩
    | succ i => exact ih e
theorem Paired.append {F : β → α → Prop} {l l' : List β} {m m' : List α} (p : Paired F l m) (k : Paired F l' m') : Paired F (l ++ l') (m ++ m') := by
  induction p with
  | nil => exact k
  | cons h _ ih => exact .cons h ih
theorem Paired.of_ints {vs : List Value} {ns : List Int} (h : IntsAre vs ns) : Paired IntV vs ns := by
  induction h with
  | nil => exact .nil
  | cons n t _ ih => exact .cons ⟨t, rfl⟩ ih
theorem Paired.ints {vs : List Value} {ns : List Int} (h : Paired IntV vs ns) : IntsAre vs ns := by
  induction h with
  | nil => exact .nil
  | cons h _ ih => obtain ⟨t, rfl⟩ := h; exact .cons _ t ih
theorem Paired.inj {F : β → α → Prop} (hF : ∀ v x y, F v x → F v y → x = y) {l : List β} {m : List α} (p : Paired F l m) : ∀ {m' : List α}, Paired F l m' → m = m' := by
  induction p with
  | nil => intro m' p'; cases p'; rfl
  | cons h _ ih => intro m' p'; cases p' with | cons h' t' => rw [hF _ _ _ h h', ih t']
theorem Paired.take {F : β → α → Prop} {l : List β} {m : List α} (p : Paired F l m) : ∀ n, Paired F (l.take n) (m.take n) := by
  induction p with
  | nil => intro n; cases n <;> exact .nil
  | cons h _ ih =>
    intro n
    cases n with
    | zero => exact .nil
    | succ n => exact .cons h (ih n)
theorem Paired.drop {F : β → α → Prop} {l : List β} {m : List α} (p : Paired F l m) : ∀ n, Paired F (l.drop n) (m.drop n) := by
  induction p with
  | nil => intro n; cases n <;> exact .nil
  | cons h t ih =>
    intro n
    cases n with
    | zero => exact .cons h t
    | succ n => exact ih n
theorem isList_inj {h : Heap} {a : Addr} {x y : Array Value} (hx : h.IsList a x) (hy : h.IsList a y) : x = y := by
  obtain ⟨o, e, _, n, d⟩ := hx
  obtain ⟨o', e', _, n', d'⟩ := hy
  rw [e] at e'; cases e'
  rw [d] at d'; cases d'; rfl
theorem ListAt.inj {P : Value → α → Prop} {h : Heap} (hP : ∀ v x y, P v x → P v y → x = y) {v : Value} {x y : List α} (hx : ListAt P h v x) (hy : ListAt P h v y) : x = y := by
  obtain ⟨a, vs, rfl, l, p⟩ := hx
  obtain ⟨a', vs', e, l', p'⟩ := hy
  cases e
  have := isList_inj l l'
  have e : vs = vs' := by simpa using this
  subst e
  exact Paired.inj hP p p'
theorem IntV.inj {v : Value} {x y : Int} (hx : IntV v x) (hy : IntV v y) : x = y := by obtain ⟨t, rfl⟩ := hx; obtain ⟨u, e⟩ := hy; cases e; rfl
theorem StrV.inj {v : Value} {x y : Str} (hx : StrV v x) (hy : StrV v y) : x = y := by obtain ⟨t, rfl⟩ := hx; obtain ⟨u, e⟩ := hy; cases e; rfl
theorem InnerAt.inj {h : Heap} {v : Value} {x y : List Int} (hx : InnerAt h v x) (hy : InnerAt h v y) : x = y := ListAt.inj (P := IntV) (fun _ _ _ => IntV.inj) hx hy
theorem RowAt.inj {h : Heap} {v : Value} {x y : List (List Int)} (hx : RowAt h v x) (hy : RowAt h v y) : x = y := ListAt.inj (P := InnerAt h) (fun _ _ _ => InnerAt.inj) hx hy
theorem isList_keeps {h h' : Heap} (k : h.StaysIn h') {a : Addr} {x : Array Value} (l : h.IsList a x) : h'.IsList a x := let ⟨o, e, r⟩ := l; ⟨o, k _ _ e, r⟩
theorem ListAt.mono {P P' : Value → α → Prop} {h h' : Heap} (k : h.StaysIn h') (hp : ∀ v x, P v x → P' v x) {v : Value} {xs : List α} (l : ListAt P h v xs) : ListAt P' h' v xs := by
  obtain ⟨a, vs, e, l, p⟩ := l
  exact ⟨a, vs, e, isList_keeps k l, Paired.imp p fun v x _ _ => hp v x⟩
theorem InnerAt.keeps {h h' : Heap} (k : h.StaysIn h') {v : Value} {x : List Int} (l : InnerAt h v x) : InnerAt h' v x := ListAt.mono k (fun _ _ y => y) l
theorem RowAt.keeps {h h' : Heap} (k : h.StaysIn h') {v : Value} {x : List (List Int)} (l : RowAt h v x) : RowAt h' v x := ListAt.mono k (fun _ _ y => InnerAt.keeps k y) l
theorem ShelfAt.keeps {h h' : Heap} (k : h.StaysIn h') {v : Value} {x : List (List (List Int))} (l : ShelfAt h v x) : ShelfAt h' v x := ListAt.mono k (fun _ _ y => RowAt.keeps k y) l
theorem StrsAt.keeps {h h' : Heap} (k : h.StaysIn h') {v : Value} {x : List Str} (l : StrsAt h v x) : StrsAt h' v x := ListAt.mono k (fun _ _ y => y) l
/-! equality and order -/
noncomputable def EqOk [DecidableEq α] (A : Around) (s : Shared) (P : Value → α → Prop) : Prop := ∀ v x u y, P v x → P u y → EqAt A s v u (decide (x = y))
noncomputable def LtOk [LT α] [DecidableLT α] (A : Around) (s : Shared) (P : Value → α → Prop) : Prop := ∀ v x u y, P v x → P u y → CmpAt .Lt A s v u (decide (x < y))
noncomputable def GtOk [LT α] [DecidableLT α] (A : Around) (s : Shared) (P : Value → α → Prop) : Prop := ∀ v x u y, P v x → P u y → CmpAt .Gt A s v u (decide (y < x))
theorem EqOk.ints {A : Around} {s : Shared} : EqOk A s IntV := by
  rintro v x u y ⟨t, rfl⟩ ⟨t', rfl⟩
  have := EqAt.int_int (A := A) (s := s) x t y t'
  rwa [show (x == y) = decide (x = y) from rfl] at this
theorem EqOk.strs {A : Around} {s : Shared} : EqOk A s StrV := by
  rintro v x u y ⟨t, rfl⟩ ⟨t', rfl⟩
  have := EqAt.str_str (A := A) (s := s) x t y t'
  rwa [show (x == y) = decide (x = y) from rfl] at this
theorem LtOk.ints {A : Around} {s : Shared} : LtOk A s IntV := by
  rintro v x u y ⟨t, rfl⟩ ⟨t', rfl⟩ prog w E Q h
  exact lt_int (a := x) (b := y) (t := t) (u := t') h
theorem GtOk.ints {A : Around} {s : Shared} : GtOk A s IntV := by
  rintro v x u y ⟨t, rfl⟩ ⟨t', rfl⟩ prog w E Q h
  exact gt_int (a := x) (b := y) (t := t) (u := t') h
theorem range_all_eq [DecidableEq α] {xs ys : List α} (h : xs.length = ys.length) : (List.range xs.length).all (fun j => decide (xs[j]? = ys[j]?)) = decide (xs = ys) := by
  rw [Bool.eq_iff_iff, List.all_eq_true, decide_eq_true_iff]
  constructor
  · intro k
    apply List.ext_getElem? fun j => ?_
    by_cases hj : j < xs.length
    · exact of_decide_eq_true (k j (List.mem_range.mpr hj))
    · rw [List.getElem?_eq_none (by lia), List.getElem?_eq_none (by lia)]
  · rintro rfl j _
    exact decide_eq_true rfl
theorem pair_at {P : Value → α → Prop} {vs : List Value} {xs : List α} (p : Paired P vs xs) {j : Nat} (h : j < vs.toArray.size) : ∃ x, xs[j]? = some x ∧ P vs.toArray[j] x := by
  have hj : j < vs.length := by simpa using h
  have e : vs[j]? = some vs.toArray[j] := by simp [List.getElem?_eq_getElem hj]
  exact Paired.get p e
theorem EqOk.list [DecidableEq α] {A : Around} {s : Shared} {P : Value → α → Prop} (hP : EqOk A.in1 s P) (hi : ∀ v x y, P v x → P v y → x = y) (hu : A.units < cLine) : EqOk A s (ListAt P s.heap) := by
  intro v x u y hx hy
  by_cases hvu : v = u
  · subst hvu
    have := ListAt.inj hi hx hy
    subst this
    rw [decide_eq_true rfl]
    exact EqAt.same v
  obtain ⟨a, vs, rfl, l, p⟩ := hx
  obtain ⟨b, us, rfl, l', p'⟩ := hy
  have hne : a ≠ b := fun e => hvu (by rw [e])
  have e1 := p.length
  have e2 := p'.length
  refine EqAt.of_refs hne ?_
  by_cases hl : x.length = y.length
  · have := RcAt.lists (A := A) (s := s) (e := fun j => decide (x[j]? = y[j]?)) l l' (by simp; lia) hu (fun j h1 h2 => by
      obtain ⟨x', ex, px⟩ := pair_at p h1
      obtain ⟨y', ey, py⟩ := pair_at p' h2
      have := hP _ _ _ _ px py
      rw [ex, ey]
      simpa using this)
    have hs : vs.toArray.size = x.length := by simp; lia
    rw [hs, range_all_eq hl] at this
    exact this
  · rw [decide_eq_false (fun e => hl (by rw [e]))]
    exact RcAt.lists_lengths l l' (by simp; lia) hu
theorem cmpFrom_shift (e c : Nat → Bool) (fin : Bool) (k : Nat) : ∀ i, cmpFrom e c fin k (i + 1) = cmpFrom (fun j => e (j + 1)) (fun j => c (j + 1)) fin k i := by
  induction k with
  | zero => intro i; rfl
  | succ k ih => intro i; unfold cmpFrom; rw [ih]
theorem cmpFrom_lt [LT α] [DecidableEq α] [DecidableLT α] (irr : ∀ a : α, ¬ a < a) : ∀ (xs ys : List α), cmpFrom (fun j => decide (xs[j]? = ys[j]?)) (fun j => match xs[j]?, ys[j]? with | some x, some y => decide (x < y) | _, _ => false)
    (decide (xs.length < ys.length)) (min xs.length ys.length) 0 = decide (xs < ys)
  | [], [] => by simp [cmpFrom]
  | [], _ :: _ => by simp [cmpFrom]
  | _ :: _, [] => by simp [cmpFrom]
  | x :: xs, y :: ys => by
    have ih := cmpFrom_lt irr xs ys
    have hm : min (x :: xs).length (y :: ys).length = min xs.length ys.length + 1 := by simp only [List.length_cons]; lia
    rw [hm]
    unfold cmpFrom
    rw [cmpFrom_shift]
    by_cases e : x = y
    · subst e
      simp only [List.getElem?_cons_zero, decide_true, if_true, List.getElem?_cons_succ, List.length_cons, Nat.add_lt_add_iff_right]
      rw [ih]
      simp [List.cons_lt_cons_iff, irr]
    · simp [List.cons_lt_cons_iff, e]
theorem cmpFrom_gt [LT α] [DecidableEq α] [DecidableLT α] (irr : ∀ a : α, ¬ a < a) : ∀ (xs ys : List α), cmpFrom (fun j => decide (xs[j]? = ys[j]?)) (fun j => match xs[j]?, ys[j]? with | some x, some y => decide (y < x) | _, _ => false)
    (decide (xs.length > ys.length)) (min xs.length ys.length) 0 = decide (ys < xs)
  | [], [] => by simp [cmpFrom]
  | [], _ :: _ => by simp [cmpFrom]
  | _ :: _, [] => by simp [cmpFrom]
  | x :: xs, y :: ys => by
    have ih := cmpFrom_gt irr xs ys
    have hm : min (x :: xs).length (y :: ys).length = min xs.length ys.length + 1 := by simp only [List.length_cons]; lia
    rw [hm]
    unfold cmpFrom
    rw [cmpFrom_shift]
    by_cases e : x = y
    · subst e
      simp only [List.getElem?_cons_zero, decide_true, if_true, List.getElem?_cons_succ, List.length_cons, gt_iff_lt, Nat.add_lt_add_iff_right]
      rw [show (decide (ys.length < xs.length)) = decide (xs.length > ys.length) from rfl, ih]
      simp [List.cons_lt_cons_iff, irr]
    · have e' : ¬ y = x := fun q => e q.symm
      simp [List.cons_lt_cons_iff, e, e']
theorem LtOk.list [LT α] [DecidableEq α] [DecidableLT α] (irr : ∀ a : α, ¬ a < a) {A : Around} {s : Shared} {P : Value → α → Prop} (hE : EqOk A.in1 s P) (hL : LtOk A.in1 s P) (hu : A.units < cLine) : LtOk A s (ListAt P s.heap) := by
  rintro v x u y ⟨a, vs, rfl, l, p⟩ ⟨b, us, rfl, l', p'⟩
  have e1 := p.length
  have e2 := p'.length
  have s1 : vs.toArray.size = x.length := by simp; lia
  have s2 : us.toArray.size = y.length := by simp; lia
  have := CmpAt.lt_lists (A := A) (s := s) (e := fun j => decide (x[j]? = y[j]?)) (c := fun j => match x[j]?, y[j]? with | some x, some y => decide (x < y) | _, _ => false) l l' hu (fun j h1 h2 => by
      obtain ⟨x', ex, px⟩ := pair_at p h1
      obtain ⟨y', ey, py⟩ := pair_at p' h2
      have := hE _ _ _ _ px py
      rw [ex, ey]
      simpa using this) (fun j h1 h2 _ => by
      obtain ⟨x', ex, px⟩ := pair_at p h1
      obtain ⟨y', ey, py⟩ := pair_at p' h2
      have := hL _ _ _ _ px py
      rw [ex, ey]
      exact this)
  rw [s1, s2, cmpFrom_lt irr] at this
  exact this
theorem GtOk.list [LT α] [DecidableEq α] [DecidableLT α] (irr : ∀ a : α, ¬ a < a) {A : Around} {s : Shared} {P : Value → α → Prop} (hE : EqOk A.in1 s P) (hL : GtOk A.in1 s P) (hu : A.units < cLine) : GtOk A s (ListAt P s.heap) := by
  rintro v x u y ⟨a, vs, rfl, l, p⟩ ⟨b, us, rfl, l', p'⟩
  have e1 := p.length
  have e2 := p'.length
  have s1 : vs.toArray.size = x.length := by simp; lia
  have s2 : us.toArray.size = y.length := by simp; lia
  have := CmpAt.gt_lists (A := A) (s := s) (e := fun j => decide (x[j]? = y[j]?)) (c := fun j => match x[j]?, y[j]? with | some x, some y => decide (y < x) | _, _ => false) l l' hu (fun j h1 h2 => by
      obtain ⟨x', ex, px⟩ := pair_at p h1
      obtain ⟨y', ey, py⟩ := pair_at p' h2
      have := hE _ _ _ _ px py
      rw [ex, ey]
      simpa using this) (fun j h1 h2 _ => by
      obtain ⟨x', ex, px⟩ := pair_at p h1
      obtain ⟨y', ey, py⟩ := pair_at p' h2
      have := hL _ _ _ _ px py
      rw [ex, ey]
      exact this)
  rw [s1, s2, cmpFrom_gt irr] at this
  exact this
theorem irr_int (a : Int) : ¬ a < a := Int.lt_irrefl a
theorem irr_ints (a : List Int) : ¬ a < a := List.lt_irrefl a
section
variable {A : Around} {s : Shared}
theorem eq_inner (hu : A.units + 1 < cLine) : EqOk A s (InnerAt s.heap) := EqOk.list EqOk.ints (fun _ _ _ => IntV.inj) (by lia)
theorem eq_row (hu : A.units + 2 < cLine) : EqOk A s (RowAt s.heap) := EqOk.list (eq_inner (by show A.units + 1 + 1 < cLine; lia)) (fun _ _ _ => InnerAt.inj) (by lia)
theorem eq_shelf (hu : A.units + 3 < cLine) : EqOk A s (ShelfAt s.heap) := EqOk.list (eq_row (by show A.units + 1 + 2 < cLine; lia)) (fun _ _ _ => RowAt.inj) (by lia)
theorem eq_strs (hu : A.units + 1 < cLine) : EqOk A s (StrsAt s.heap) := EqOk.list EqOk.strs (fun _ _ _ => StrV.inj) (by lia)
theorem lt_inner (hu : A.units + 1 < cLine) : LtOk A s (InnerAt s.heap) := LtOk.list irr_int EqOk.ints LtOk.ints (by lia)
theorem lt_row (hu : A.units + 2 < cLine) : LtOk A s (RowAt s.heap) := LtOk.list irr_ints (eq_inner (by show A.units + 1 + 1 < cLine; lia)) (lt_inner (by show A.units + 1 + 1 < cLine; lia)) (by lia)
theorem gt_inner (hu : A.units + 1 < cLine) : GtOk A s (InnerAt s.heap) := GtOk.list irr_int EqOk.ints GtOk.ints (by lia)
theorem gt_row (hu : A.units + 2 < cLine) : GtOk A s (RowAt s.heap) := GtOk.list irr_ints (eq_inner (by show A.units + 1 + 1 < cLine; lia)) (gt_inner (by show A.units + 1 + 1 < cLine; lia)) (by lia)
end
end
end
theorem fl4 : True := by w_top off; first | walk1 | trivial
section
open PySem PySem.W PyProof.Rows PySem.Calls PySem.Spec PySem.SeqAt
set_option maxHeartbeats 4000000
variable {w : World} {mean : ExcName → Option Value} {mg mb : Str → Option Value} {dp un : Nat} {gd : Option (List Code)} {outer : List Env}
noncomputable def cmpR (x y : List (List Int)) : Int := if y < x then 1 else if x < y then -1 else 0
section
variable {prog : Program} {A : Around} {E : Value → Shared → Prop} {s : Shared} {g : Heap} {L : Addr} {m : Str → Option Value} {v u : Value} {x y : List (List Int)} {Q : Value → Shared → Prop}
theorem gt_rows (hx : RowAt g v x) (hy : RowAt g u y) (F : Fr g L s.heap m) (hu : A.units + 2 < cLine) (h : Q (.bool (decide (y < x))) s) : wpAny (model prog w) A (compareOp .Gt v u) Q E s :=
  cmp_ofGt (gt_row hu v x u y (hx.keeps F.keep) (hy.keeps F.keep) _ _ _ _ h)
theorem lt_rows (hx : RowAt g v x) (hy : RowAt g u y) (F : Fr g L s.heap m) (hu : A.units + 2 < cLine) (h : Q (.bool (decide (x < y))) s) : wpAny (model prog w) A (compareOp .Lt v u) Q E s :=
  cmp_ofLt (lt_row hu v x u y (hx.keeps F.keep) (hy.keeps F.keep) _ _ _ _ h)
end
theorem three_call {s : Shared} {Q E : Value → Shared → Prop} {x y : List (List Int)} {v u : Value} (hx : RowAt s.heap v x) (hy : RowAt s.heap u y) (Y : Rdy w mean mg mb dp un gd outer s.heap) (hd : dp + 1 < recursionLimit) (hu : un + 20 < cLine)
    (hret : Ret s Q fun v _ => ∃ tk, v = .int (cmpR x y) tk) : wpAny (model PySem.Challenge.rw_ny0140_01.row.prog w) (Am dp un gd outer) (call (.ref 65) [v, u]) Q E s := by
  (have fill : (fun w : World => _root_.Mine.hd.heap_1_1 w.params) = (fun w : World => _root_.Mine.hd.heap_1_1 w.params) ∧ PySem.Challenge.rw_ny0140_01.row.prog = PySem.Challenge.rw_ny0140_01.row.prog := (by k_fill; exact ⟨rfl, rfl⟩); clear fill)
  k_dflt ((refine wpAny_call ?_; refine' enter ?kY ?k6 ?k7 ?k8 ?k9 ?kB ?_ ?c2 ?c3 ?c4 ?c5; (case kY => assumption); (case k6 => k_is); (case k7 => k_is); (case k8 => lia); (case k9 => exact BindsTo.of_eq rfl); (case c5 => exact rfl); (case kB => exact locs rfl); (case c2 => decide); (case c3 => exact rfl); (case c4 => exact rfl); k_whole; intro base g L' h' kG kH F' N' B' X' T'; (try dsimp only); (try k_fold)))
  have hx' := hx.keeps kG
  have hy' := hy.keeps kG
  k_steps
  refine gt_rows hx' hy' (by assumption) (by show un + 3 + 2 < cLine; lia) ?_
  k_steps
  refine lt_rows hx' hy' (by assumption) (by show un + 3 + 2 < cLine; lia) ?_
  k_steps
  refine hret _ _ _ (kH _ (Fr.keep (by assumption))) (ktn_int ?_)
  unfold cmpR b2i
  have lt : x < y → ¬ y < x := fun h => List.lt_asymm h
  by_cases h1 : y < x <;> by_cases h2 : x < y <;> simp [h1, h2]
  exact absurd h1 (lt h2)
end
section
open PySem PySem.W PyProof.Rows PySem.Calls PySem.Spec PySem.SeqAt
set_option maxHeartbeats 4000000
noncomputable def Kx (ex : List Addr) (h h' : Heap) : Prop := ∀ b o, b ∉ ex → h.get? b = some o → h'.get? b = some o
theorem Kx.of_stays {ex : List Addr} {h h' : Heap} (k : h.StaysIn h') : Kx ex h h' := fun b o _ e => k b o e
theorem Kx.nil {h h' : Heap} (k : Kx [] h h') : h.StaysIn h' := fun b o e => k b o (by simp) e
theorem Kx.trans {ex : List Addr} {h h' h'' : Heap} (k : Kx ex h h') (k' : Kx ex h' h'') : Kx ex h h'' := fun b o hb e => k' b o hb (k b o hb e)
inductive EltPost (ex : List Addr) (Inv : Heap → Prop) (Fl : List (Addr × Obj) → Value → Value → Prop) (v : Value) (s₃ : Shared) (y : Value) (s₄ : Shared) : Prop
  | mk (l : List (Addr × Obj)) (h₄ : Heap) (tk₄ : Nat) : s₄ = { s₃ with heap := h₄, toks := tk₄ } → Fl l v y → (∀ q ∈ l, h₄.get? q.1 = some q.2 ∧ s₃.heap.get? q.1 = none) → Kx ex s₃.heap h₄ → Inv h₄ → EltPost ex Inv Fl v s₃ y s₄
inductive TestPost (ex : List Addr) (Inv : Heap → Prop) (b : Bool) (s₃ : Shared) (y : Bool) (s₄ : Shared) : Prop
  | mk (h₄ : Heap) (tk₄ : Nat) : s₄ = { s₃ with heap := h₄, toks := tk₄ } → y = b → Kx ex s₃.heap h₄ → Inv h₄ → TestPost ex Inv b s₃ y s₄
noncomputable def NotRec (o : Obj) : Prop := ∀ vs q t, o.data = .fields vs → vs[1]? ≠ some (.str q t)
structure Goes (prog : Program) (w : World) (A : Around) (I : Addr) (fp wr : List Addr) (n : Nat) (P : Nat → Value → Prop) (St : Nat → Heap → Prop) : Prop where
  W : Walks prog w A I fp wr n P St
  alive : ∀ i h, St i h → ∀ b ∈ wr, ∃ o, h.get? b = some o ∧ NotRec o
structure Stable (ex : List Addr) (Inv : Heap → Prop) : Prop where
  alive : ∀ h, Inv h → ∀ b ∈ ex, ∃ o, h.get? b = some o
  on : ∀ h h' (bad : Addr → Prop), (∀ b o, bad b → h.get? b = some o → NotRec o ∧ b ∉ ex) → (∀ b o, ¬ bad b → h.get? b = some o → h'.get? b = some o) → Inv h → Inv h'
theorem Stable.nil : Stable [] (fun _ => True) := ⟨fun _ _ _ hb => (nomatch hb), fun _ _ _ _ _ _ => trivial⟩
theorem Stable.keeps {ex : List Addr} {Inv : Heap → Prop} (S : Stable ex Inv) {h h' : Heap} (k : h.StaysIn h') (i : Inv h) : Inv h' := S.on h h' (fun _ => False) (fun _ _ q => q.elim) (fun b o _ e => k b o e) i
theorem notRec_ns {h : Heap} {C : Addr} {m : Str → Option Value} (hn : h.Ns C m) {o : Obj} (e : h.get? C = some o) : NotRec o := by
  obtain ⟨o', es, ep, e', hd, _⟩ := hn
  rw [e] at e'; cases e'
  intro vs q t h; rw [hd] at h; cases h
theorem notRec_list {h : Heap} {D : Addr} {ys : Array Value} (hl : h.PlainList D ys) {o : Obj} (e : h.get? D = some o) : NotRec o := by
  obtain ⟨n, e'⟩ := hl
  rw [e] at e'; cases e'
  intro vs q t h; cases h
inductive CompAt (s : Shared) (C D : Addr) (wr ex : List Addr) (Inv : Heap → Prop) (n : Nat) (P : Nat → Value → Prop) (p : Value → Bool) (Fl : List (Addr × Obj) → Value → Value → Prop) (St : Nat → Heap → Prop) (k : Nat) (s' : Shared) : Prop
  | mk (h' : Heap) (tk : Nat) (m' : Str → Option Value) (ys : Array Value) (l : List (Addr × Obj)) (vs : List Value) : s' = { s with heap := h', toks := tk } → St vs.length h' → h'.PlainList D ys → h'.Ns C m' → (∀ j v, vs[j]? = some v → P j v) →
      Paired (Fl l) (vs.filter p) ys.toList → (∀ q ∈ l, h'.get? q.1 = some q.2 ∧ s.heap.get? q.1 = none ∧ q.1 ≠ D ∧ q.1 ≠ C ∧ q.1 ∉ wr ∧ q.1 ∉ ex) → Inv h' → vs.length ≤ n → k = n + 1 - vs.length →
      (∀ b o, b ≠ C → b ∉ wr → b ≠ D → b ∉ ex → s.heap.get? b = some o → h'.get? b = some o) → CompAt s C D wr ex Inv n P p Fl St k s'
section
variable {prog : Program} {w : World} {A : Around} {R : Result → Shared → Prop} {s : Shared}
theorem comp_loop {elt iter : Expr} {x : Str} {px : Pos} {ifs : List Expr} {scope : Scope} {pos : Pos} {I D : Addr} {fp wr : List Addr} {n : Nat} {P : Nat → Value → Prop} {St : Nat → Heap → Prop}
    {cenv : Env} {m : Str → Option Value} (ex : List Addr) (Inv : Heap → Prop) (SI : Stable ex Inv)
    (G : Goes prog w A I fp wr n P St) (p : Value → Bool) (Fl : List (Addr × Obj) → Value → Value → Prop) (hFl : ∀ l l' v y, (∀ q ∈ l, q ∈ l') → Fl l v y → Fl l' v y)
    (hx : cenv.kindOf x = some .local) (hp : (cenv.scope.kind == .class || (cenv.scope.kind == .module && cenv.locals != cenv.globals)) = false)
    (hDC : D ≠ cenv.locals) (hDf : D ∉ fp) (hCf : cenv.locals ∉ fp) (hex : ∀ b ∈ ex, b ∉ fp) (hDx : D ∉ ex) (hCx : cenv.locals ∉ ex)
    (hst : St 0 s.heap) (hacc : s.heap.PlainList D #[]) (hn : s.heap.Ns cenv.locals m) (hI : Inv s.heap)
    (htests : ∀ i v s₂ m₂, P i v → s₂.heap.Ns cenv.locals m₂ → m₂ x = some v → (∀ b o, b ≠ cenv.locals → b ∉ wr → b ≠ D → b ∉ ex → s.heap.get? b = some o → s₂.heap.get? b = some o) → Inv s₂.heap →
      wpAny (model prog w) A (forIn ifs true fun c r => if r = true then do let ok ← isTrue c cenv (eval c cenv); pure (ForInStep.yield ok) else pure (ForInStep.yield r))
        (TestPost ex Inv (p v) s₂) (notedBy (model prog w) A cenv fun e s' => R (.error e) s') s₂)
    (helt : ∀ i v s₂ m₂, P i v → p v = true → s₂.heap.Ns cenv.locals m₂ → m₂ x = some v → (∀ b o, b ≠ cenv.locals → b ∉ wr → b ≠ D → b ∉ ex → s.heap.get? b = some o → s₂.heap.get? b = some o) → Inv s₂.heap →
      wpAny (model prog w) A (eval elt cenv) (EltPost ex Inv Fl v s₂) (notedBy (model prog w) A cenv fun e s' => R (.error e) s') s₂)
    (hR : ∀ h' tk m' ys (vs : List Value) l, h'.Ns cenv.locals m' → h'.PlainList D ys → vs.length = n → (∀ j v, vs[j]? = some v → P j v) → Paired (Fl l) (vs.filter p) ys.toList →
      (∀ q ∈ l, h'.get? q.1 = some q.2 ∧ s.heap.get? q.1 = none ∧ q.1 ≠ D ∧ q.1 ≠ cenv.locals ∧ q.1 ∉ wr ∧ q.1 ∉ ex) → Inv h' →
      (∀ b o, b ≠ cenv.locals → b ∉ wr → b ≠ D → b ∉ ex → s.heap.get? b = some o → h'.get? b = some o) → R (.ok .next) { s with heap := h', toks := tk })
    (hsz : n ≤ sizeLine) :
    codeAny (model prog w) A (.compLoop (.ListComp elt [⟨.Name x px, iter, ifs, 0⟩] scope pos) 0 (.ref I) (.ref D) cenv) R s := by
  have W := G.W
  have hA := SI.alive
  have hCw : cenv.locals ∉ wr := fun h => hCf (W.sub _ h)
  have hDw : D ∉ wr := fun h => hDf (W.sub _ h)
  refine codeAny_compLoop_tests
    (CompAt s cenv.locals D wr ex Inv n P p Fl St) ?_ (n + 1)
    ⟨s.heap, s.toks, m, #[], [], [], rfl, hst, hacc, hn, by simp, by simpa using Paired.nil, by simp, hI, Nat.zero_le _, rfl, fun _ _ _ _ _ _ e => e⟩
  rintro k s' ⟨H, tk, m', ys, l, vs, rfl, hst', hacc', hn', hP, hF, hM, hI', hi, rfl, hk⟩
  have hI1 : ∀ h₂ : Heap, (∀ b o, b ≠ cenv.locals → b ∉ wr → H.get? b = some o → h₂.get? b = some o) → Inv h₂ := fun h₂ k => SI.on H h₂ (fun b => b = cenv.locals ∨ b ∈ wr)
    (fun b o hb e => by
      rcases hb with rfl | hb
      · exact ⟨notRec_ns hn' e, hCx⟩
      · obtain ⟨o', e', nr⟩ := G.alive _ _ hst' b hb
        rw [e] at e'; cases e'
        exact ⟨nr, fun hx => hex b hx (W.sub b hb)⟩) (fun b o hb e => k b o (fun q => hb (.inl q)) (fun q => hb (.inr q)) e) hI'
  by_cases hlt : vs.length < n
  · refine W.item vs.length _ _ _ hlt hst' fun v h₁ tk₁ hPv hst₁ hk₁ => ?_
    refine wpAny_assign_Name (wpAny_storeName_local hx (hn'.at' fun o e => hk₁ _ o hCw e) (fun h₂ hn₂ hs₂ => ?_) hp)
    have up₂ : ∀ b o, b ≠ cenv.locals → b ∉ wr → H.get? b = some o → h₂.get? b = some o := fun b o hbC hbf e => hs₂.extBut b o hbC (hk₁ b o hbf e)
    have hst₂ : St (vs.length + 1) h₂ := W.frame _ _ _ hst₁ fun b hb o e => hs₂.extBut b o (fun h => hCf (h ▸ hb)) e
    have hI₂ : Inv h₂ := hI1 h₂ up₂
    have hM₂ : ∀ q ∈ l, h₂.get? q.1 = some q.2 ∧ s.heap.get? q.1 = none ∧ q.1 ≠ D ∧ q.1 ≠ cenv.locals ∧ q.1 ∉ wr ∧ q.1 ∉ ex := fun q hq => let M := hM q hq; ⟨up₂ _ _ M.2.2.2.1 M.2.2.2.2.1 M.1, M.2⟩
    refine wpAny_mono (htests vs.length v _ _ hPv hn₂ (by simp) (fun b o hbC hbf hbD hbx e => up₂ b o hbC hbf (hk b o hbC hbf hbD hbx e)) hI₂) (fun ok s₃ h₃ => ?_) fun _ _ e => e
    obtain ⟨h₃, tk₃, rfl, rfl, hk₃, hI₃⟩ := h₃
    have hst₃ : St (vs.length + 1) h₃ := W.frame _ _ _ hst₂ fun b hb o e => hk₃ b o (fun hx => hex b hx hb) e
    have hacc₃ : h₃.PlainList D ys := hacc'.at fun o e => hk₃ _ o hDx (up₂ D o hDC hDw e)
    have hn₃ := hn₂.at' fun o e => hk₃ _ o hCx e
    have hM₃ : ∀ q ∈ l, h₃.get? q.1 = some q.2 ∧ s.heap.get? q.1 = none ∧ q.1 ≠ D ∧ q.1 ≠ cenv.locals ∧ q.1 ∉ wr ∧ q.1 ∉ ex := fun q hq => let M := hM₂ q hq; ⟨hk₃ _ _ M.2.2.2.2.2 M.1, M.2⟩
    have hk₃' : ∀ b o, b ≠ cenv.locals → b ∉ wr → b ≠ D → b ∉ ex → s.heap.get? b = some o → h₃.get? b = some o := fun b o hbC hbf hbD hbx e => hk₃ b o hbx (up₂ b o hbC hbf (hk b o hbC hbf hbD hbx e))
    have hP' : ∀ j u, (vs ++ [v])[j]? = some u → P j u := fun j u hj => by
      rcases Nat.lt_trichotomy j vs.length with h | h | h
      · exact hP j u (by rwa [List.getElem?_append_left h] at hj)
      · subst h; simp at hj; subst hj; exact hPv
      · have hnone : (vs ++ [v])[j]? = none := List.getElem?_eq_none (by rw [List.length_append, List.length_singleton]; lia)
        rw [hnone] at hj; cases hj
    cases hpv : p v with
    | false =>
      simp only [Bool.false_eq_true, if_false]
      refine ⟨n + 1 - (vs.length + 1), by lia, h₃, tk₃, _, ys, l, vs ++ [v], rfl, by simpa using hst₃, hacc₃, hn₃, hP', ?_, hM₃, hI₃, (by rw [List.length_append, List.length_singleton]; exact hlt), (by rw [List.length_append, List.length_singleton]), hk₃'⟩
      rw [List.filter_append]; simpa [hpv] using hF
    | true =>
      simp only [if_true]
      refine wpAny_mono (helt vs.length v _ _ hPv hpv hn₃ (by simp) hk₃' hI₃) (fun y s₄ h₄ => ?_) fun _ _ e => e
      obtain ⟨l', h₄, tk₄, rfl, hFy, hl', hk₄, hI₄⟩ := h₄
      have hys : ys.size ≤ sizeLine := by
        have e1 := hF.length
        have e2 : (vs.filter p).length ≤ vs.length := List.length_filter_le _ _
        have e4 : ys.toList.length = ys.size := by simp
        lia
      obtain ⟨oD, eD⟩ : ∃ o, h₃.get? D = some o := let ⟨_, e⟩ := hacc₃; ⟨_, e⟩
      obtain ⟨oC, eC⟩ : ∃ o, h₃.get? cenv.locals = some o := let ⟨o, _, _, e, _⟩ := hn₃; ⟨o, e⟩
      have hM₄ : ∀ q ∈ l' ++ l, h₄.get? q.1 = some q.2 ∧ s.heap.get? q.1 = none ∧ q.1 ≠ D ∧ q.1 ≠ cenv.locals ∧ q.1 ∉ wr ∧ q.1 ∉ ex := fun q hq => by
        rcases List.mem_append.mp hq with hq | hq
        · obtain ⟨e1, e2⟩ := hl' q hq
          have hD : q.1 ≠ D := fun e => by rw [e, eD] at e2; cases e2
          have hC : q.1 ≠ cenv.locals := fun e => by rw [e, eC] at e2; cases e2
          have hw : q.1 ∉ wr := fun e => by
            obtain ⟨o, eo, _⟩ := G.alive _ _ hst₃ _ e
            rw [eo] at e2; cases e2
          have hx : q.1 ∉ ex := fun e => by
            obtain ⟨o, eo⟩ := hA _ hI₃ _ e
            rw [eo] at e2; cases e2
          refine ⟨e1, ?_, hD, hC, hw, hx⟩
          cases e3 : s.heap.get? q.1 with
          | none => rfl
          | some o =>
            rw [hk₃' _ o hC hw hD hx e3] at e2; cases e2
        · let M := hM₃ q hq
          exact ⟨hk₄ _ _ M.2.2.2.2.2 M.1, M.2⟩
      refine wpAny_list_append_plain (hsz := hys) (hacc₃.at fun o e => hk₄ _ o hDx e) fun h₅ hl₅ hs₅ => ?_
      refine ⟨n + 1 - (vs.length + 1), by lia, h₅, tk₄, _, ys.push y, l' ++ l, vs ++ [v], rfl, ?_, hl₅, (hn₃.at' fun o e => hk₄ _ o hCx e).sameBut hs₅ (Ne.symm hDC), hP', ?_, fun q hq => let M := hM₄ q hq; ⟨hs₅.extBut _ _ M.2.2.1 M.1, M.2⟩,
        SI.on h₄ h₅ (fun b => b = D) (fun b o hb e => by subst hb; exact ⟨notRec_list (hacc₃.at fun o e => hk₄ _ o hDx e) e, hDx⟩) (fun b o hb e => hs₅.extBut b o hb e) hI₄, (by rw [List.length_append, List.length_singleton]; exact hlt), (by rw [List.length_append, List.length_singleton]),
        fun b o hbC hbf hbD hbx e => hs₅.extBut b o hbD (hk₄ b o hbx (hk₃' b o hbC hbf hbD hbx e))⟩
      · have := W.frame _ _ h₅ hst₃ fun b hb o e => hs₅.extBut b o (fun h => hDf (h ▸ hb)) (hk₄ b o (fun hx => hex b hx hb) e)
        simpa using this
      · rw [List.filter_append]
        simpa [hpv] using PySem.Paired.snoc (Paired.imp hF fun v y _ _ hf => hFl l (l' ++ l) v y (fun q hq => List.mem_append_right _ hq) hf) (hFl l' (l' ++ l) v y (fun q hq => List.mem_append_left _ hq) hFy)
  · have hin : vs.length = n := by lia
    refine W.done _ _ _ (hin ▸ hst') fun h₁ tk₁ hk₁ => ?_
    exact hR h₁ tk₁ m' ys vs l (hn'.at' fun o e => hk₁ _ o hCw e) (hacc'.at fun o e => hk₁ _ o hDw e) hin hP hF (fun q hq => let M := hM q hq; ⟨hk₁ _ _ M.2.2.2.2.1 M.1, M.2⟩) (hI1 h₁ (fun b o _ hb e => hk₁ b o hb e)) fun b o hbC hbf hbD hbx e => hk₁ b o hbf (hk b o hbC hbf hbD hbx e)
noncomputable def SrcAt (prog : Program) (w : World) (A : Around) (ex : List Addr) (s₁ : Shared) (xv : Value) (n : Nat) (P : Nat → Value → Prop) : Prop :=
  ∀ (Q : Value → Shared → Prop) (E : Value → Shared → Prop), (∀ I fp wr St h₂, Goes prog w A I fp wr n P St → St 0 h₂ → (∀ b ∈ fp, b < h₂.objs.size) → (∀ b ∈ ex, b ∉ fp) → s₁.heap.StaysIn h₂ → (∀ b ∈ wr, s₁.heap.get? b = none) →
    Q (.ref I) { s₁ with heap := h₂ }) → wpAny (model prog w) A (pyIter xv) Q E s₁
noncomputable def TestsAt (prog : Program) (w : World) (A : Around) (env : Env) (scope : Scope) (cl : List (Str × Addr)) (x : Str) (ifs : List Expr) (ex : List Addr) (Inv : Heap → Prop) (P : Nat → Value → Prop) (p : Value → Bool) (s₁ : Shared) : Prop :=
  ∀ C i v s₃ m₃ E', P i v → s₃.heap.Ns C m₃ → m₃ x = some v → s₁.heap.get? C = none → Kx ex s₁.heap s₃.heap → Inv s₃.heap →
    wpAny (model prog w) A (forIn ifs true fun c r => if r = true then do let ok ← isTrue c (compEnvC scope cl C env) (eval c (compEnvC scope cl C env)); pure (ForInStep.yield ok) else pure (ForInStep.yield r)) (TestPost ex Inv (p v) s₃) E' s₃
noncomputable def EltAt (prog : Program) (w : World) (A : Around) (env : Env) (scope : Scope) (cl : List (Str × Addr)) (x : Str) (elt : Expr) (ex : List Addr) (Inv : Heap → Prop) (P : Nat → Value → Prop) (p : Value → Bool) (Fl : List (Addr × Obj) → Value → Value → Prop) (s₁ : Shared) : Prop :=
  ∀ C i v s₃ m₃ E', P i v → p v = true → s₃.heap.Ns C m₃ → m₃ x = some v → s₁.heap.get? C = none → Kx ex s₁.heap s₃.heap → Inv s₃.heap →
    wpAny (model prog w) A (eval elt (compEnvC scope cl C env)) (EltPost ex Inv Fl v s₃) E' s₃
inductive CompDone (ex : List Addr) (Inv : Heap → Prop) (n : Nat) (P : Nat → Value → Prop) (p : Value → Bool) (Fl : List (Addr × Obj) → Value → Value → Prop) (s₁ : Shared) (D : Addr) (h' : Heap) : Prop
  | mk (ys : Array Value) (l : List (Addr × Obj)) (vs : List Value) : s₁.heap.get? D = none → h'.PlainList D ys → vs.length = n → (∀ j v, vs[j]? = some v → P j v) → Paired (Fl l) (vs.filter p) ys.toList →
    (∀ q ∈ l, h'.get? q.1 = some q.2 ∧ s₁.heap.get? q.1 = none ∧ q.1 ≠ D ∧ q.1 ∉ ex) → Inv h' → Kx ex s₁.heap h' → CompDone ex Inv n P p Fl s₁ D h'
inductive CompDoneC (ex : List Addr) (Inv : Heap → Prop) (n : Nat) (P : Nat → Value → Prop) (p : Value → Bool) (Fl : List (Addr × Obj) → Value → Value → Prop) (s₁ : Shared) (D C : Addr) (h' : Heap) : Prop
  | mk (ys : Array Value) (l : List (Addr × Obj)) (vs : List Value) : s₁.heap.get? D = none → h'.PlainList D ys → vs.length = n → (∀ j v, vs[j]? = some v → P j v) → Paired (Fl l) (vs.filter p) ys.toList →
    (∀ q ∈ l, h'.get? q.1 = some q.2 ∧ s₁.heap.get? q.1 = none ∧ q.1 ≠ D ∧ q.1 ∉ ex ∧ q.1 ≠ C) → Inv h' → Kx ex s₁.heap h' → CompDoneC ex Inv n P p Fl s₁ D C h'
inductive CompGoes (prog : Program) (w : World) (A : Around) (env : Env) (scope : Scope) (cl : List (Str × Addr)) (x : Str) (ifs : List Expr) (elt : Expr) (ex : List Addr) (Inv : Heap → Prop) (p : Value → Bool) (Fl : List (Addr × Obj) → Value → Value → Prop)
    (Q : Value → Shared → Prop) (xv : Value) (s₁ : Shared) : Prop
  | mk (n : Nat) (P : Nat → Value → Prop) : SrcAt prog w A ex s₁ xv n P → n ≤ sizeLine → Inv s₁.heap → TestsAt prog w A env scope cl x ifs ex Inv P p s₁ → EltAt prog w A env scope cl x elt ex Inv P p Fl s₁ →
      (∀ D h' tk, CompDone ex Inv n P p Fl s₁ D h' → Q (.ref D) { s₁ with heap := h', toks := tk }) → CompGoes prog w A env scope cl x ifs elt ex Inv p Fl Q xv s₁
inductive CompGoesA (prog : Program) (w : World) (A : Around) (env : Env) (scope : Scope) (cl : List (Str × Addr)) (x y : Str) (ifs : List Expr) (elt : Expr) (ex : List Addr) (Inv : Heap → Prop) (p : Value → Bool) (Fl : List (Addr × Obj) → Value → Value → Prop)
    (Q : Flow → Shared → Prop) (xv : Value) (s₁ : Shared) : Prop
  | mk (n : Nat) (P : Nat → Value → Prop) (m : Str → Option Value) : SrcAt prog w A ex s₁ xv n P → n ≤ sizeLine → Inv s₁.heap → s₁.heap.Ns env.locals m → env.locals ∉ ex → TestsAt prog w A env scope cl x ifs ex Inv P p s₁ → EltAt prog w A env scope cl x elt ex Inv P p Fl s₁ →
      (∀ D h' tk, CompDone (env.locals :: ex) Inv n P p Fl s₁ D h' → h'.Ns env.locals (fun z => if z = y then some (.ref D) else m z) → Q .next { s₁ with heap := h', toks := tk }) → CompGoesA prog w A env scope cl x y ifs elt ex Inv p Fl Q xv s₁
variable {E : Value → Shared → Prop} {env : Env}
theorem comp_block {elt iter : Expr} {x : Str} {px : Pos} {ifs : List Expr} {scope : Scope} {cl : List (Str × Addr)} {pos : Pos} {s₁ s₂ : Shared} {I : Addr} {fp wr : List Addr} {n : Nat} {P : Nat → Value → Prop}
    {St : Nat → Heap → Prop} (ex : List Addr) (Inv : Heap → Prop) (SI : Stable ex Inv) (G : Goes prog w A I fp wr n P St) (hsz : n ≤ sizeLine) (p : Value → Bool) (Fl : List (Addr × Obj) → Value → Value → Prop) (hFl : ∀ l l' v y, (∀ q ∈ l, q ∈ l') → Fl l v y → Fl l' v y)
    {RR : Value → Addr → Result → Shared → Prop}
    (hcell : ∀ y ∈ scope.names, y.2 ≠ .cell) (hkind : scope.kind = .function) (hx : scope.names.lookup x = some .local) (hst : St 0 s₂.heap) (hfp : ∀ b ∈ fp, b < s₂.heap.objs.size) (hex : ∀ b ∈ ex, b ∉ fp)
    (k₁ : s₁.heap.StaysIn s₂.heap) (hwr : ∀ b ∈ wr, s₁.heap.get? b = none) (hI : Inv s₂.heap)
    (ht : TestsAt prog w A env scope cl x ifs ex Inv P p s₁) (he : EltAt prog w A env scope cl x elt ex Inv P p Fl s₁)
    (hRR : ∀ D C h' tk m', s₁.heap.get? C = none → C ∉ ex → D ≠ C → h'.Ns C m' → CompDoneC ex Inv n P p Fl s₁ D C h' →
      RR (.ref D) C (.ok .next) { s₂ with heap := h', toks := tk }) :
    wpAny (model prog w) A (newList []) (fun acc s₃ => wpAny (model prog w) A (newFunctionEnv scope env.globals cl [] env.qual none .none (some env)) (fun cenv s₄ =>
      codeAny (model prog w) A (.compStart (.ListComp elt [⟨.Name x px, iter, ifs, 0⟩] scope pos) 0 (.ref I) acc { cenv with scope := relabel scope env }) (RR acc cenv.locals) s₄) E s₃) E s₂ := by
  refine wpAny_newObj_type (wpAny_newFunctionEnv hcell (by intro y hy; simp at hy) (fun h₁ hns₁ hsb₁ => ?_) hkind)
  dsimp only at hns₁ hsb₁ ⊢
  generalize hH2 : s₂.heap.push { cls := .type "list", dict := none, data := .seq ([] : List Value).toArray } = H2 at hns₁ hsb₁ ⊢
  have hC : H2.objs.size = s₂.heap.objs.size + 1 := by rw [← hH2, Heap.size_push]
  have hDC : s₂.heap.objs.size ≠ H2.objs.size := by rw [hC]; exact Nat.ne_of_lt (Nat.lt_succ_self _)
  have below : ∀ b, b < s₂.heap.objs.size → b ≠ H2.objs.size ∧ b ≠ s₂.heap.objs.size := fun b hb => ⟨by rw [hC]; exact Nat.ne_of_lt (Nat.lt_succ_of_lt hb), Nat.ne_of_lt hb⟩
  have hDf : s₂.heap.objs.size ∉ fp := fun hm => Nat.lt_irrefl _ (hfp _ hm)
  have hCf : H2.objs.size ∉ fp := fun hm => by have := hfp _ hm; rw [hC] at this; exact Nat.lt_irrefl _ (Nat.lt_of_succ_lt this)
  have old : ∀ b o, s₂.heap.get? b = some o → h₁.get? b = some o := fun b o e => hsb₁.extBut b o (below b (Heap.lt_size e)).1 (Heap.get?_push_of_some _ (hH2 ▸ Heap.get?_push_of_some _ e))
  have hacc : h₁.PlainList s₂.heap.objs.size #[] := ⟨_, hsb₁.extBut _ _ hDC (Heap.get?_push_of_some _ (hH2 ▸ Heap.get?_push_size _ rfl))⟩
  have hst₁ : St 0 h₁ := G.W.frame _ _ _ hst fun b _ o e => old b o e
  have fresh : ∀ a, s₂.heap.objs.size ≤ a → s₁.heap.get? a = none := fun a ha => by
    cases e : s₁.heap.get? a with
    | none => rfl
    | some o' => exact absurd (Heap.lt_size (k₁ _ _ e)) (Nat.not_lt.mpr ha)
  have hexs : ∀ b ∈ ex, b < s₂.heap.objs.size := fun b hb => let ⟨o, e⟩ := SI.alive _ hI b hb; Heap.lt_size e
  have hI₁ : Inv h₁ := SI.keeps old hI
  have hDx : s₂.heap.objs.size ∉ ex := fun h => Nat.lt_irrefl _ (hexs _ h)
  have hCx : H2.objs.size ∉ ex := fun h => by have := hexs _ h; rw [hC] at this; exact Nat.lt_irrefl _ (Nat.lt_of_succ_lt this)
  have up : ∀ b o, b ∉ ex → s₁.heap.get? b = some o → b ≠ H2.objs.size ∧ b ∉ wr ∧ b ≠ s₂.heap.objs.size := fun b o _ e =>
    let q := below b (Heap.lt_size (k₁ _ _ e)); ⟨q.1, fun hw => (by rw [hwr b hw] at e; cases e), q.2⟩
  have loop : ∀ s₃ : Shared, s₃ = { s₂ with heap := h₁, toks := s₂.toks + ([] : List (Str × Value)).length } →
      codeAny (model prog w) A (.compLoop (.ListComp elt [⟨.Name x px, iter, ifs, 0⟩] scope pos) 0 (.ref I) (.ref s₂.heap.objs.size) (compEnvC scope cl H2.objs.size env))
        (RR (.ref s₂.heap.objs.size) H2.objs.size) s₃ := by
    rintro s₃ rfl
    refine comp_loop (cenv := compEnvC scope cl H2.objs.size env) ex Inv SI G p Fl hFl (lookup_relabel_local hx) (by simp [compEnvC, relabel, hkind]) hDC hDf hCf hex hDx hCx hst₁ hacc hns₁ hI₁
      (fun i v s₃ m₃ hv hn hm hk hi => ht _ i v s₃ m₃ _ hv hn hm (fresh _ (by rw [hC]; lia)) (fun b o hbx e => let q := up b o hbx e; hk b o q.1 q.2.1 q.2.2 hbx (old b o (k₁ b o e))) hi)
      (fun i v s₃ m₃ hv hpv hn hm hk hi => he _ i v s₃ m₃ _ hv hpv hn hm (fresh _ (by rw [hC]; lia)) (fun b o hbx e => let q := up b o hbx e; hk b o q.1 q.2.1 q.2.2 hbx (old b o (k₁ b o e))) hi) (fun h' tk m' ys vs l hn hpl hlen hP hF hM hi hk => ?_) hsz
    refine hRR _ _ h' tk m' (fresh _ (by rw [hC]; lia)) hCx hDC hn ⟨ys, l, vs, fresh _ (Nat.le_refl _), hpl, hlen, hP, hF, fun q hq => ?_, hi, fun b o hbx e => let q := up b o hbx e; hk b o q.1 q.2.1 q.2.2 hbx (old b o (k₁ b o e))⟩
    obtain ⟨m1, m2, m3, m4, m5, m6⟩ := hM q hq
    refine ⟨m1, ?_, m3, m6, m4⟩
    cases e : s₁.heap.get? q.1 with
    | none => rfl
    | some o => rw [old _ _ (k₁ _ _ e)] at m2; cases m2
  exact codeAny_compStart_list (loop _ rfl) (G.W.self 0 _ _ _ hst₁ (loop _ rfl))
theorem comp_eval {elt iter : Expr} {x : Str} {px : Pos} {ifs : List Expr} {scope : Scope} {cl : List (Str × Addr)} {pos : Pos} {Q : Value → Shared → Prop} (ex : List Addr) (Inv : Heap → Prop) (SI : Stable ex Inv)
    (p : Value → Bool) (Fl : List (Addr × Obj) → Value → Value → Prop) (hFl : ∀ l l' v y, (∀ q ∈ l, q ∈ l') → Fl l v y → Fl l' v y)
    (hclos : closureFor scope env = pure cl) (hcell : ∀ y ∈ scope.names, y.2 ≠ .cell) (hkind : scope.kind = .function)
    (hnames : ∀ y ∈ scope.names, y.2 = .local → scope.names.lookup y.1 = some .local) (hx : scope.names.lookup x = some .local)
    (h : wpAny (model prog w) A (eval iter env) (CompGoes prog w A env scope cl x ifs elt ex Inv p Fl Q) E s)
    (hs : ∀ x, foldedSetIterable iter env x = pure x := by intro _; rfl) :
    wpAny (model prog w) A (eval (.ListComp elt [⟨.Name x px, iter, ifs, 0⟩] scope pos) env) Q E s := by
  rw [eval_ListComp]
  refine wpAny_comprehension_free (use := none) rfl hs hclos hkind hnames (wpAny_mono h (fun xv s₁ h₁ => ?_) fun _ _ e => e)
  obtain ⟨n, P, src, hsz, hI, ht, he, hQ⟩ := h₁
  refine src _ _ fun I fp wr St h₂ G hst hfp hex k hwr => ?_
  refine comp_block (RR := fun acc C => compPost (model prog w) A E none Q acc C) (s₁ := s₁) ex Inv SI G hsz p Fl hFl hcell hkind hx hst hfp hex k hwr (SI.keeps k hI) ht he ?_
  intro D C h' tk m' hC hCx hDC hn hd
  refine ⟨m', hn, fun h'' hs'' => hQ D h'' tk ?_⟩
  obtain ⟨ys, l, vs, h1, h2, h3, h4, h5, h6, h7, h8⟩ := hd
  refine ⟨ys, l, vs, h1, h2.extBut hs''.extBut hDC, h3, h4, h5, fun q hq => ?_, ?_, fun b o hbx e => hs''.extBut b o (by rintro rfl; rw [hC] at e; cases e) (h8 b o hbx e)⟩
  · obtain ⟨q1, q2, q3, q4, q5⟩ := h6 q hq
    exact ⟨hs''.extBut _ _ q5 q1, q2, q3, q4⟩
  · exact SI.on h' h'' (fun b => b = C) (fun b o hb e => by subst hb; exact ⟨notRec_ns hn e, hCx⟩) (fun b o hb e => hs''.extBut b o hb e) h7
theorem comp_assign {elt iter : Expr} {x y : Str} {px py : Pos} {ifs : List Expr} {scope : Scope} {cl : List (Str × Addr)} {pos spos : Pos} {Q : Flow → Shared → Prop} (ex : List Addr) (Inv : Heap → Prop) (SI : Stable ex Inv)
    (p : Value → Bool) (Fl : List (Addr × Obj) → Value → Value → Prop) (hFl : ∀ l l' v y, (∀ q ∈ l, q ∈ l') → Fl l v y → Fl l' v y)
    (hsw : swapsWith (.ListComp elt [⟨.Name x px, iter, ifs, 0⟩] scope pos) (some (.Name y py)) spos.line env = pure true)
    (hclos : closureFor scope env = pure cl) (hcell : ∀ y ∈ scope.names, y.2 ≠ .cell) (hkind : scope.kind = .function)
    (hnames : ∀ y ∈ scope.names, y.2 = .local → scope.names.lookup y.1 = some .local) (hx : scope.names.lookup x = some .local)
    (hy : env.kindOf y = some .local) (hp : (env.scope.kind == .class || (env.scope.kind == .module && env.locals != env.globals)) = false)
    (h : wpAny (model prog w) A (eval iter env) (CompGoesA prog w A env scope cl x y ifs elt ex Inv p Fl Q) E s)
    (hs : ∀ x, foldedSetIterable iter env x = pure x := by intro _; rfl) :
    wpAny (model prog w) A (exec (.Assign [.Name y py] (.ListComp elt [⟨.Name x px, iter, ifs, 0⟩] scope pos) spos) env) Q E s := by
  rw [exec_Assign_Name_used _ _ _ _ hsw]
  refine wpAny_bind (wpAny_standAt (wpAny_bind ?_))
  show wpAny _ A (do let _ ← comprehension (.ListComp elt [⟨.Name x px, iter, ifs, 0⟩] scope pos) scope env _ (newList []) false (eval iter env) (some (assign (.Name y py) env))) _ _ s
  refine wpAny_bind (wpAny_mono (wpAny_comprehension_free (use := some (assign (.Name y py) env)) (Q := fun _ s' => Q .next s') rfl hs hclos hkind hnames
    (wpAny_mono h (fun xv s₁ h₁ => ?_) fun _ _ e => e)) (fun _ s' hq => wpAny_pure (wpAny_pure hq)) fun _ _ e => e)
  obtain ⟨n, P, m, src, hsz, hI, hn, hLx, ht, he, hQ⟩ := h₁
  refine src _ _ fun I fp wr St h₂ G hst hfp hex k hwr => ?_
  refine comp_block (RR := fun acc C => compPost (model prog w) A E (some (assign (.Name y py) env)) (fun _ s' => Q .next s') acc C) (s₁ := s₁) ex Inv SI G hsz p Fl hFl hcell hkind hx hst hfp hex k hwr (SI.keeps k hI) ht he ?_
  intro D C h' tk m' hC hCx hDC hnC hd
  obtain ⟨ys, l, vs, h1, h2, h3, h4, h5, h6, h7, h8⟩ := hd
  have hLC : env.locals ≠ C := by rintro rfl; obtain ⟨o, _, _, ho, _⟩ := hn; rw [hC] at ho; cases ho
  have hLD : env.locals ≠ D := by rintro rfl; obtain ⟨o, _, _, ho, _⟩ := hn; rw [h1] at ho; cases ho
  have hn' := hn.at' fun o e => h8 _ o hLx e
  show wpAny _ A (assign (.Name y py) env (.ref D)) _ _ _
  refine wpAny_assign_Name (wpAny_storeName_local hy hn' (fun h₂ hn₂ hs₂ => ?_) hp)
  have hnC₂ := hnC.sameBut hs₂ (Ne.symm hLC)
  refine ⟨m', hnC₂, fun h₃ hs₃ => ?_⟩
  have hI₂ : Inv h₂ := SI.on h' h₂ (fun b => b = env.locals) (fun b o hb e => by subst hb; exact ⟨notRec_ns hn' e, hLx⟩) (fun b o hb e => hs₂.extBut b o hb e) h7
  have hI₃ : Inv h₃ := SI.on h₂ h₃ (fun b => b = C) (fun b o hb e => by subst hb; exact ⟨notRec_ns hnC₂ e, hCx⟩) (fun b o hb e => hs₃.extBut b o hb e) hI₂
  refine hQ D h₃ _ ⟨ys, l, vs, h1, (h2.extBut hs₂.extBut (Ne.symm hLD)).extBut hs₃.extBut hDC, h3, h4, h5, fun q hq => ?_, hI₃, fun b o hbx e => ?_⟩ (hn₂.sameBut hs₃ hLC)
  · obtain ⟨q1, q2, q3, q4, q5⟩ := h6 q hq
    have qL : q.1 ≠ env.locals := fun e => by obtain ⟨o, _, _, ho, _⟩ := hn; rw [← e, q2] at ho; cases ho
    exact ⟨hs₃.extBut _ _ q5 (hs₂.extBut _ _ qL q1), q2, q3, fun hm => (List.mem_cons.mp hm).elim qL q4⟩
  · exact hs₃.extBut b o (by rintro rfl; rw [hC] at e; cases e) (hs₂.extBut b o (fun q => hbx (q ▸ List.mem_cons_self)) (h8 b o (fun q => hbx (List.mem_cons_of_mem _ q)) e))
theorem tests_nil {scope : Scope} {cl : List (Str × Addr)} {x : Str} {ex : List Addr} {Inv : Heap → Prop} {P : Nat → Value → Prop} {s₁ : Shared} : TestsAt prog w A env scope cl x [] ex Inv P (fun _ => true) s₁ :=
  fun _ _ _ s₃ _ _ _ _ _ _ _ hi => wpAny_tests_nil ⟨s₃.heap, s₃.toks, rfl, rfl, fun _ _ _ e => e, hi⟩
theorem filter_all {α : Type} (l : List α) : l.filter (fun _ => true) = l := List.filter_eq_self.mpr fun _ _ => rfl
/-! sources -/
theorem push_stays (h : Heap) (o : Obj) : h.StaysIn (h.push o) := fun _ _ e => Heap.get?_push_of_some _ e
theorem fresh_size (h : Heap) : h.get? h.objs.size = none := by
  cases e : h.get? h.objs.size with
  | none => rfl
  | some o => exact absurd (Heap.lt_size e) (Nat.lt_irrefl _)
theorem notRec_iter {o : Obj} {v : Value} {i : Int} {t : Tok} (hd : o.data = .fields #[v, .int i t]) : NotRec o := fun vs q u h => by
  rw [hd] at h; cases h; intro e; cases e
theorem src_list {ex : List Addr} {l : Addr} {items : Array Value} (hh : A.handled = none) (hl : s.heap.IsList l items) (hx : ∀ b ∈ ex, b < s.heap.objs.size ∧ b ≠ l) : SrcAt prog w A ex s (.ref l) items.size (fun i v => items[i]? = some v) := by
  intro Q E h
  obtain ⟨ol, hol, r⟩ := id hl
  have ll := Heap.lt_size hol
  refine wpAny_pyIter_list hl (h s.heap.objs.size [s.heap.objs.size, l] [s.heap.objs.size] _ _ ⟨Walks.list hh s.heap.objs.size l (Nat.ne_of_lt ll) items, fun i h' st b hb => ?_⟩ ?_ ?_ ?_ (push_stays _ _) ?_)
  · obtain rfl := List.mem_singleton.mp hb
    obtain ⟨o, e, _, d⟩ := st.1
    exact ⟨o, e, notRec_iter d⟩
  · exact ⟨⟨_, Heap.get?_push_size _ rfl, rfl, rfl⟩, ⟨ol, Heap.get?_push_of_some _ hol, r⟩⟩
  · intro b hb
    rw [Heap.size_push]
    rcases List.mem_cons.mp hb with rfl | hb
    · exact Nat.lt_succ_self _
    · obtain rfl := List.mem_singleton.mp hb
      exact Nat.lt_succ_of_lt ll
  · intro b hb hm
    rcases List.mem_cons.mp hm with rfl | hm
    · exact Nat.lt_irrefl _ (hx _ hb).1
    · obtain rfl := List.mem_singleton.mp hm
      exact (hx _ hb).2 rfl
  · intro b hb
    obtain rfl := List.mem_singleton.mp hb
    exact fresh_size _
theorem src_tuple {ex : List Addr} {l : Addr} {items : Array Value} (hh : A.handled = none) (hl : s.heap.IsTuple l items) (hx : ∀ b ∈ ex, b < s.heap.objs.size ∧ b ≠ l) : SrcAt prog w A ex s (.ref l) items.size (fun i v => items[i]? = some v) := by
  intro Q E h
  obtain ⟨ol, hol, r⟩ := id hl
  have ll := Heap.lt_size hol
  refine wpAny_pyIter_tuple hl (h s.heap.objs.size [s.heap.objs.size, l] [s.heap.objs.size] _ _ ⟨Walks.tuple hh s.heap.objs.size l (Nat.ne_of_lt ll) items, fun i h' st b hb => ?_⟩ ?_ ?_ ?_ (push_stays _ _) ?_)
  · obtain rfl := List.mem_singleton.mp hb
    obtain ⟨o, e, _, d⟩ := st.1
    exact ⟨o, e, notRec_iter d⟩
  · exact ⟨⟨_, Heap.get?_push_size _ rfl, rfl, rfl⟩, ⟨ol, Heap.get?_push_of_some _ hol, r⟩⟩
  · intro b hb
    rw [Heap.size_push]
    rcases List.mem_cons.mp hb with rfl | hb
    · exact Nat.lt_succ_self _
    · obtain rfl := List.mem_singleton.mp hb
      exact Nat.lt_succ_of_lt ll
  · intro b hb hm
    rcases List.mem_cons.mp hm with rfl | hm
    · exact Nat.lt_irrefl _ (hx _ hb).1
    · obtain rfl := List.mem_singleton.mp hm
      exact (hx _ hb).2 rfl
  · intro b hb
    obtain rfl := List.mem_singleton.mp hb
    exact fresh_size _
theorem src_str {ex : List Addr} {x : Str} {t : Tok} (hh : A.handled = none) (hx : ∀ b ∈ ex, b < s.heap.objs.size) : SrcAt prog w A ex s (.str x t) x.cps.size (SignAt x) := by
  intro Q E h
  have fin : ∀ (b : Addr), b ∈ [s.heap.objs.size] → b = s.heap.objs.size := fun b hb => List.mem_singleton.mp hb
  cases ha : x.cps.all (· < 128)
  · refine wpAny_pyIter_wide ha (h s.heap.objs.size [s.heap.objs.size] [s.heap.objs.size] _ _ ⟨Walks.strWide hh s.heap.objs.size x t, fun i h' st b hb => ?_⟩ ⟨_, Heap.get?_push_size _ rfl, rfl, rfl⟩ ?_ ?_ (push_stays _ _) ?_)
    · obtain rfl := fin b hb
      obtain ⟨o, e, _, d⟩ := st
      exact ⟨o, e, notRec_iter d⟩
    · intro b hb; rw [fin b hb, Heap.size_push]; exact Nat.lt_succ_self _
    · intro b hb hm; have := hx b hb; rw [fin b hm] at this; exact Nat.lt_irrefl _ this
    · intro b hb; rw [fin b hb]; exact fresh_size _
  · refine wpAny_pyIter_ascii ha (h s.heap.objs.size [s.heap.objs.size] [s.heap.objs.size] _ _ ⟨Walks.strAscii hh s.heap.objs.size x t, fun i h' st b hb => ?_⟩ ⟨_, Heap.get?_push_size _ rfl, rfl, rfl⟩ ?_ ?_ (push_stays _ _) ?_)
    · obtain rfl := fin b hb
      obtain ⟨o, e, _, d⟩ := st
      exact ⟨o, e, notRec_iter d⟩
    · intro b hb; rw [fin b hb, Heap.size_push]; exact Nat.lt_succ_self _
    · intro b hb hm; have := hx b hb; rw [fin b hm] at this; exact Nat.lt_irrefl _ this
    · intro b hb; rw [fin b hb]; exact fresh_size _
theorem strsAre_of {vs : List Value} {ys : List Str} (h : Paired StrV vs ys) : StrsAre vs ys := by
  induction h with
  | nil => exact .nil
  | cons h _ ih => obtain ⟨t, rfl⟩ := h; exact .cons _ t ih
theorem join_strs {D : Addr} {items : Array Value} {ys : List Str} {x : Str} {t : Tok} {Q : Value → Shared → Prop} (hl : s.heap.IsList D items) (hi : Paired StrV items.toList ys) (hok : (ys.map (·.length)).sum + ys.length * x.length ≤ 16777216)
    (h : ∀ t' k, Q (.str (Txt.join x ys) t') { s with toks := k }) : wpAny (model prog w) A (call (.builtin "str.join") [.str x t, .ref D]) Q E s := join_list hl (strsAre_of hi) hok h
theorem paired_from {α β γ : Type} {F : α → β → Prop} {G : β → γ → Prop} : ∀ {vs : List α} {ys : List β} {zs : List γ} {P : Nat → α → Prop}, vs.length = zs.length → (∀ j v, vs[j]? = some v → P j v) → Paired F vs ys →
    (∀ j v y z, P j v → F v y → zs[j]? = some z → G y z) → Paired G ys zs
  | _, _, [], _, _, _, .nil, _ => .nil
  | _, _, _ :: _, _, h, _, .nil, _ => by simp at h
  | _, _, [], _, h, _, .cons _ _, _ => by simp at h
  | _, _, z :: zs, P, h, hP, .cons hf t, k => .cons (k 0 _ _ _ (hP 0 _ rfl) hf rfl) (paired_from (P := fun j v => P (j + 1) v) (by simpa using h) (fun j v e => hP (j + 1) v (by simpa using e)) t fun j v y z hp hf e => k (j + 1) v y z hp hf (by simpa using e))
noncomputable def mkS (l : List Nat) : Str := ⟨l.toArray⟩
noncomputable def joinL (sep : List Nat) : List (List Nat) → List Nat
  | [] => []
  | [x] => x
  | x :: rest => x ++ sep ++ joinL sep rest
theorem mkS_append (a b : List Nat) : mkS a ++ mkS b = mkS (a ++ b) := Str.ext' (by simp [mkS, Str.cps_append])
theorem mkS_cps (x : Str) : mkS x.cps.toList = x := Str.ext' (by simp [mkS])
theorem mkS_length (l : List Nat) : (mkS l).length = l.length := by simp [mkS, Str.length]
theorem join_mkS (sep : List Nat) : ∀ ls : List (List Nat), Txt.join (mkS sep) (ls.map mkS) = mkS (joinL sep ls) := by
  intro ls
  show Builtin.Str.glued _ _ = _
  rw [StrLaws.glued_eq_join]
  induction ls with
  | nil => rfl
  | cons x rest ih =>
    cases rest with
    | nil => rfl
    | cons y rest =>
      show mkS x ++ mkS sep ++ Str.join (mkS sep) (mkS y :: rest.map mkS) = _
      rw [show mkS y :: rest.map mkS = (y :: rest).map mkS from rfl, ih, mkS_append, mkS_append]
      rfl
theorem joinL_nil_singles (l : List Nat) : joinL [] (l.map fun c => [c]) = l := by
  induction l with
  | nil => rfl
  | cons x rest ih =>
    cases rest with
    | nil => rfl
    | cons y rest =>
      show [x] ++ [] ++ joinL [] ((y :: rest).map fun c => [c]) = _
      rw [ih]; rfl
theorem sum_ones {α : Type} (l : List α) : (l.map fun _ => 1).sum = l.length := by
  induction l with
  | nil => rfl
  | cons x r ih => simp only [List.map_cons, List.sum_cons, List.length_cons, ih]; lia
end
end
theorem fl5 : True := by w_top off; first | walk1 | trivial
section
open PySem PySem.W PyProof.Rows PySem.Calls PySem.Spec PySem.SeqAt
set_option maxHeartbeats 4000000
variable {w : World} {mean : ExcName → Option Value} {mg mb : Str → Option Value} {dp un : Nat} {gd : Option (List Code)} {outer : List Env}
noncomputable def digs (n : Nat) : List Nat := (Nat.toDigits 10 n).map Char.toNat
theorem fig_is (n : Int) : Str.ofString (toString (if n < 0 then -n else n)) = ⟨(digs n.natAbs).toArray⟩ := by
  have e : (if n < 0 then -n else n) = ((n.natAbs : Nat) : Int) := by split <;> lia
  rw [e]
  apply Str.ext'
  apply Array.ext'
  exact PySem.W.KIN.signs_num n.natAbs
theorem digs_len {n k : Nat} (hk : 0 < k) (h : n < 10 ^ k) : (digs n).length ≤ k := by
  unfold digs
  rw [List.length_map]
  exact (Nat.length_toDigits_le_iff (by decide) hk).mpr h
theorem digs_pos (n : Nat) : 0 < (digs n).length := by
  unfold digs
  rw [List.length_map]
  exact Nat.length_toDigits_pos
theorem digs_digit (n : Nat) : ∀ c ∈ digs n, 48 ≤ c ∧ c ≤ 57 := by
  intro c hc
  obtain ⟨d, hd, rfl⟩ := List.mem_map.mp hc
  have := Nat.isDigit_of_mem_toDigits (by decide) (by decide) hd
  simp [Char.isDigit] at this
  constructor
  · exact this.1
  · exact this.2
noncomputable def wrt (n : Int) : List Nat := if n < 0 then (77 - (digs n.natAbs).length) :: (digs n.natAbs).map (105 - ·) else (77 + (digs n.natAbs).length) :: digs n.natAbs
theorem len_one (c : Nat) : (⟨#[c]⟩ : Str).length = 1 := rfl
local macro_rules | `(tactic| size_fits) => `(tactic| (simp only [Str.length_append, mkS_length, List.length_map, sizeLine_eq, len_one]; lia))
set_option hygiene false in
local macro_rules | `(tactic| walk_at "eval ListComp") => `(tactic| (k_dflt (refine comp_eval [] (fun _ => True) Stable.nil (fun _ => true) (fun _ v y => ∃ c t u, v = .str ⟨#[c]⟩ t ∧ y = .str ⟨#[105 - c]⟩ u) (fun _ _ _ _ _ h => h) rfl (by decide) rfl (by decide) rfl ?_)))
theorem written_call {s : Shared} {Q E : Value → Shared → Prop} {n : Int} {tk : Tok} (hn : n.natAbs < 10 ^ 15) (Y : Rdy w mean mg mb dp un gd outer s.heap) (hd : dp + 1 < recursionLimit) (hu : un + 20 < cLine)
    (hret : Ret s Q fun v _ => ∃ tk, v = .str ⟨(wrt n).toArray⟩ tk) : wpAny (model PySem.Challenge.rw_ny0140_01.row.prog w) (Am dp un gd outer) (call (.ref 84) [.int n tk]) Q E s := by
  (have fill : (fun w : World => _root_.Mine.hd.heap_1_1 w.params) = (fun w : World => _root_.Mine.hd.heap_1_1 w.params) ∧ PySem.Challenge.rw_ny0140_01.row.prog = PySem.Challenge.rw_ny0140_01.row.prog := (by k_fill; exact ⟨rfl, rfl⟩); clear fill)
  have hl := digs_len (by decide) hn
  have hl' : (Str.ofString (toString (if n < 0 then -n else n))).length ≤ 15 := by rw [fig_is]; exact hl
  k_dflt ((refine wpAny_call ?_; refine' enter ?kY ?k6 ?k7 ?k8 ?k9 ?kB ?_ ?c2 ?c3 ?c4 ?c5; (case kY => assumption); (case k6 => k_is); (case k7 => k_is); (case k8 => lia); (case k9 => exact BindsTo.of_eq rfl); (case c5 => exact rfl); (case kB => exact locs rfl); (case c2 => decide); (case c3 => exact rfl); (case c4 => exact rfl); k_whole; intro base g L' h' kG kH F' N' B' X' T'; (try dsimp only); (try k_fold)))
  k_steps
  · refine ⟨_, _, src_str rfl (fun _ h => nomatch h), ?_, trivial, tests_nil, ?_, ?_⟩
    · exact Nat.le_trans hl' (by decide)
    · intro C i v s₃ m₃ E' hv _ hn hm hC hk _
      (with_reducible rename Fr _ _ _ _ => F₁)
      (with_reducible rename News _ _ _ _ => N₁)
      have F₃ := fr_on hk.nil F₁
      have N₃ := news_on hk.nil N₁
      obtain ⟨c, u, hc, rfl⟩ := hv
      have hcr : 48 ≤ c ∧ c ≤ 57 := by
        rw [fig_is] at hc
        exact digs_digit n.natAbs c (by simpa using List.mem_of_getElem? (by simpa using hc))
      k_steps
      exact ⟨[], s₃.heap, _, rfl, ⟨c, u, _, rfl, by rw [show (105 - (c : Int)).toNat = 105 - c from by lia]⟩, fun _ h => (nomatch h), fun _ _ _ e => e, trivial⟩
    · intro D h₂ tk₂ hdn
      obtain ⟨ys, l, vs, hD, hpl, hlen, hP, hF, _, _, hk⟩ := hdn
      (with_reducible rename Fr _ _ _ _ => F₁)
      (with_reducible rename News _ _ _ _ => N₁)
      have F₃ := fr_on hk.nil F₁
      have N₃ := news_on hk.nil N₁
      k_steps
      have hys : Paired StrV ys.toList (((digs n.natAbs).map fun c => [105 - c]).map mkS) := by
        rw [filter_all] at hF
        refine paired_from (by rw [hlen, fig_is]; simp) hP hF ?_
        rintro j v y z ⟨c, u, hc, rfl⟩ ⟨c', t', u', e, rfl⟩ hz
        cases e
        rw [fig_is] at hc
        have hc' : (digs n.natAbs)[j]? = some c := by simpa using hc
        simp only [List.getElem?_map, hc', Option.map_some, Option.some.injEq] at hz
        exact ⟨_, by rw [← hz]; rfl⟩
      refine join_strs hpl.isList hys ?_ ?_
      · have : ((((digs n.natAbs).map fun c => [105 - c]).map mkS).map (·.length)).sum = (digs n.natAbs).length := by
          simp only [List.map_map, Function.comp_def, mkS_length, List.length_singleton]; exact sum_ones _
        rw [this]
        simp
        show _ + _ * 0 ≤ _
        lia
      · intro t' k
        rw [show Str.ofString "" = mkS [] from rfl, join_mkS, show ((digs n.natAbs).map fun c => [105 - c]) = ((digs n.natAbs).map (105 - ·)).map (fun c => [c]) from by simp, joinL_nil_singles]
        k_steps
        refine hret _ _ _ (kH _ (Fr.keep (by assumption))) (str_is ?_)
        have hneg : n < 0 := by assumption
        rw [fig_is, show (⟨#[(77 - ((⟨(digs n.natAbs).toArray⟩ : Str).length : Int)).toNat]⟩ : Str) = mkS [77 - (digs n.natAbs).length] from ?_, mkS_append]
        · unfold wrt; rw [if_pos hneg]; rfl
        · have e : (77 - ((⟨(digs n.natAbs).toArray⟩ : Str).length : Int)).toNat = 77 - (digs n.natAbs).length := by
            show (77 - (((digs n.natAbs).toArray.size : Nat) : Int)).toNat = _
            rw [List.size_toArray]; lia
          rw [e]; rfl
  · refine hret _ _ _ (kH _ (Fr.keep (by assumption))) (str_is ?_)
    have hneg : ¬ n < 0 := by assumption
    rw [fig_is, show (⟨#[(77 + ((⟨(digs n.natAbs).toArray⟩ : Str).length : Int)).toNat]⟩ : Str) = mkS [77 + (digs n.natAbs).length] from ?_, show (⟨(digs n.natAbs).toArray⟩ : Str) = mkS (digs n.natAbs) from rfl, mkS_append]
    · unfold wrt; rw [if_neg hneg]; rfl
    · show (⟨#[_]⟩ : Str) = ⟨#[_]⟩
      congr 2
end
theorem fl6 : True := by w_top off; first | walk1 | trivial
section
open PySem PySem.W PyProof.Rows PySem.Calls PySem.Spec PySem.SeqAt
set_option maxHeartbeats 4000000
variable {w : World} {mean : ExcName → Option Value} {mg mb : Str → Option Value} {dp un : Nat} {gd : Option (List Code)} {outer : List Env}
local macro_rules | `(tactic| walk_at $k:str) => if ["eval ListComp", "call ref"].contains k.getString then `(tactic| walk_at "HALT") else Lean.Macro.throwUnsupported
noncomputable def piece (inner : List Int) : List Nat := joinL [47] (inner.map wrt)
structure GoodIn (inner : List Int) : Prop where
  len : inner.length ≤ 40
  num : ∀ n ∈ inner, n.natAbs < 10 ^ 15
structure GoodRow (row : List (List Int)) : Prop where
  len : row.length ≤ 40
  ins : ∀ i ∈ row, GoodIn i
theorem wrt_len {n : Int} (h : n.natAbs < 10 ^ 15) : (wrt n).length ≤ 16 := by
  have := digs_len (by decide) h
  unfold wrt
  split <;> simp <;> lia
theorem joinL_len {k : Nat} {sep : List Nat} : ∀ {ls : List (List Nat)}, (∀ l ∈ ls, l.length ≤ k) → (joinL sep ls).length ≤ ls.length * (k + sep.length)
  | [], _ => Nat.zero_le _
  | [x], h => by have := h x (by simp); show x.length ≤ 1 * _; lia
  | x :: y :: rest, h => by
    have h1 := h x (by simp)
    have h2 := joinL_len (sep := sep) (ls := y :: rest) fun l hl => h l (List.mem_cons_of_mem _ hl)
    show (x ++ sep ++ joinL sep (y :: rest)).length ≤ _
    simp only [List.length_append, List.length_cons] at h2 ⊢
    rw [Nat.add_mul (rest.length + 1) 1]
    lia
theorem piece_len {inner : List Int} (h : GoodIn inner) : (piece inner).length ≤ 40 * 17 := by
  have h1 : (piece inner).length ≤ (inner.map wrt).length * (16 + 1) := joinL_len fun l hl => by
    obtain ⟨n, hn, rfl⟩ := List.mem_map.mp hl
    exact wrt_len (h.num n hn)
  have := h.len
  simp only [List.length_map] at h1
  lia
theorem pieces_call {s : Shared} {Q E : Value → Shared → Prop} {row : List (List Int)} {v : Value} (hv : RowAt s.heap v row) (hg : GoodRow row) (Y : Rdy w mean mg mb dp un gd outer s.heap) (hd : dp + 2 < recursionLimit) (hu : un + 40 < cLine)
    (hret : Ret s Q fun v h' => StrsAt h' v ((row.map piece).map mkS)) : wpAny (model PySem.Challenge.rw_ny0140_01.row.prog w) (Am dp un gd outer) (call (.ref 89) [v]) Q E s := by
  (have fill : (fun w : World => _root_.Mine.hd.heap_1_1 w.params) = (fun w : World => _root_.Mine.hd.heap_1_1 w.params) ∧ PySem.Challenge.rw_ny0140_01.row.prog = PySem.Challenge.rw_ny0140_01.row.prog := (by k_fill; exact ⟨rfl, rfl⟩); clear fill)
  obtain ⟨a, vs, rfl, hl, hp⟩ := hv
  k_dflt ((refine wpAny_call ?_; refine' enter ?kY ?k6 ?k7 ?k8 ?k9 ?kB ?_ ?c2 ?c3 ?c4 ?c5; (case kY => assumption); (case k6 => k_is); (case k7 => k_is); (case k8 => lia); (case k9 => exact BindsTo.of_eq rfl); (case c5 => exact rfl); (case kB => exact locs rfl); (case c2 => decide); (case c3 => exact rfl); (case c4 => exact rfl); k_whole; intro base g L' h' kG kH F' N' B' X' T'; (try dsimp only); (try k_fold)))
  have hl' := isList_keeps kG hl
  have hp' : Paired (InnerAt g) vs row := Paired.imp hp fun v x _ _ hx => hx.keeps kG
  k_steps
  refine Halt.mk (comp_eval [] (fun _ => True) Stable.nil (fun _ => true) (fun _ v y => ∃ inner, InnerAt g v inner ∧ StrV y (mkS (piece inner))) (fun _ _ _ _ _ h => h) rfl (by decide) rfl (by decide) rfl ?_)
  k_steps
  (with_reducible rename Fr _ _ _ _ => F₁)
  (with_reducible rename News _ _ _ _ => N₁)
  refine ⟨_, _, src_list rfl (isList_keeps F₁.keep hl') (fun _ h => nomatch h), ?_, trivial, tests_nil, ?_, ?_⟩
  · have := hp'.length
    have := hg.len
    rw [List.size_toArray, sizeLine_eq]; lia
  · intro C i v s₃ m₃ E' hv _ hn hm hC hk _
    have F₃ := fr_on hk.nil F₁
    have N₃ := news_on hk.nil N₁
    obtain ⟨inner, hri, hin⟩ := Paired.get hp' (by simpa using hv)
    have hgi := hg.ins inner (List.mem_of_getElem? hri)
    have hin' := hin
    obtain ⟨b, us, rfl, hb, hus⟩ := hin
    clear F₁ N₁
    k_steps
    refine Halt.mk (comp_eval [] (fun _ => True) Stable.nil (fun _ => true) (fun _ v y => ∃ n, IntV v n ∧ StrV y (mkS (wrt n))) (fun _ _ _ _ _ h => h) rfl (by decide) rfl (by decide) rfl ?_)
    k_steps
    refine ⟨_, _, src_list rfl (isList_keeps F₃.keep hb) (fun _ h => nomatch h), ?_, trivial, tests_nil, ?_, ?_⟩
    · have := hus.length
      have := hgi.len
      rw [List.size_toArray, sizeLine_eq]; lia
    · intro C' j v s₄ m₄ E'' hv' _ hn' hm' hC' hk' _
      have F₄ := fr_on hk'.nil F₃
      have N₄ := news_on hk'.nil N₃
      obtain ⟨n, hrn, t, rfl⟩ := Paired.get hus (by simpa using hv')
      clear F₃ N₃
      k_steps
      refine Halt.mk (written_call (hgi.num n (List.mem_of_getElem? hrn)) (Rdy.inner B' X' T' F₄ rfl) (by show dp + 1 + 1 < recursionLimit; lia) (by show un + 3 + 20 < cLine; lia) ?_)
      rintro v h' tk st ⟨tk', rfl⟩
      exact ⟨[], h', tk, rfl, ⟨n, ⟨t, rfl⟩, tk', rfl⟩, fun _ h => (nomatch h), Kx.of_stays st, trivial⟩
    · intro D h₅ tk₅ hdn
      obtain ⟨ys, l, ws, hD, hpl, hlen, hP, hF, _, _, hk'⟩ := hdn
      have F₄ := fr_on hk'.nil F₃
      have N₄ := news_on hk'.nil N₃
      have hys : Paired StrV ys.toList ((inner.map wrt).map mkS) := by
        rw [filter_all] at hF
        refine paired_from (by rw [hlen, List.size_toArray, hus.length]; simp) hP hF ?_
        rintro j v y z hj ⟨n, hn1, hy⟩ hz
        obtain ⟨n', hrn, hn2⟩ := Paired.get hus (by simpa using hj)
        cases IntV.inj hn1 hn2
        simp only [List.getElem?_map, hrn, Option.map_some, Option.some.injEq] at hz
        rw [← hz]; exact hy
      clear F₃ N₃
      k_steps
      refine join_strs hpl.isList hys ?_ ?_
      · have h1 : (((inner.map wrt).map mkS).map (·.length)).sum ≤ ((inner.map wrt).map mkS).length * 16 := StrLaws.sumLen_le _ (by
          intro y hy
          obtain ⟨z, hz, rfl⟩ := List.mem_map.mp hy
          obtain ⟨n, hn, rfl⟩ := List.mem_map.mp hz
          rw [mkS_length]; exact wrt_len (hgi.num n hn))
        have h2 := hgi.len
        simp only [List.length_map] at h1 ⊢
        show _ + _ * 1 ≤ _
        lia
      · intro t' k
        rw [show Str.ofString "/" = mkS [47] from rfl, join_mkS]
        k_steps
        exact ⟨[], h₅, _, rfl, ⟨inner, hin', _, rfl⟩, fun _ h => (nomatch h), Kx.of_stays hk'.nil, trivial⟩
  · intro D h₅ tk₅ hdn
    obtain ⟨ys, l, ws, hD, hpl, hlen, hP, hF, _, _, hk'⟩ := hdn
    have F₄ := fr_on hk'.nil F₁
    have N₄ := news_on hk'.nil N₁
    refine hret _ _ _ (kH _ F₄.keep) ⟨D, ys.toList, rfl, by simpa using hpl.isList, ?_⟩
    rw [filter_all] at hF
    refine paired_from (by rw [hlen, List.size_toArray, hp'.length]; simp) hP hF ?_
    rintro j v y z hj ⟨inner, hn1, hy⟩ hz
    obtain ⟨inner', hrn, hn2⟩ := Paired.get hp' (by simpa using hj)
    cases InnerAt.inj hn1 hn2
    simp only [List.getElem?_map, hrn, Option.map_some, Option.some.injEq] at hz
    rw [← hz]; exact hy
end
section
open PySem PySem.W PyProof.Rows PySem.Calls PySem.Spec PySem.SeqAt
set_option maxHeartbeats 4000000
section
variable {prog : Program} {w : World} {A : Around} {E : Value → Shared → Prop} {s : Shared} {env : Env} {h₀ : Heap} {x : Str} {body : List Stmt} {Q : Flow → Shared → Prop}
noncomputable abbrev never : Value → Shared → Prop := fun _ _ => False
theorem for_rule {px pos : Pos} {iter : Expr} (h₀ : Heap) (hx : env.kindOf x = some .local) (hp : (env.scope.kind == .class || (env.scope.kind == .module && env.locals != env.globals)) = false)
    (h : wpAny (model prog w) A (eval iter env) (fun xv s₁ => wpAny (model prog w) A (pyIter xv) (fun it s₂ => LoopAtV prog w A h₀ env x body Q never it s₂) never s₁) never s)
    (hs : ∀ x, foldedSetIterable iter env x = pure x := by intro _; rfl) : wpAny (model prog w) A (exec (.For (.Name x px) iter body [] pos) env) Q E s :=
  wpAny_noRaise (For_invV h₀ hx hp h hs PassesOwn.never)
theorem iter_list {l : Addr} {items : Array Value} {m₀ : Str → Option Value} {news : List (Addr × Obj)} (J : Nat → (Str → Option Value) → List (Addr × Obj) → Prop)
    (hh : A.handled = none) (hl : h₀.IsList l items) (F : Fr h₀ env.locals s.heap m₀) (N : News h₀ env.locals s.heap news) (hj : J 0 m₀ news)
    (turn : ∀ i v m₁ news₁ h tk own, items[i]? = some v → news₁.map (·.1) = news.map (·.1) → OwnOff own (news.map (·.1)) → J i m₁ news₁ → Fr h₀ env.locals h (fun y => if y = x then some v else m₁ y) → News h₀ env.locals h (news₁ ++ own) →
      wpAny (model prog w) A (execs body env) (InvPostN h₀ env.locals (J (i + 1)) own (news.map (·.1)) { s with heap := h, toks := tk } Q) E { s with heap := h, toks := tk })
    (done : ∀ m₁ news₁ h tk, J items.size m₁ news₁ → Fr h₀ env.locals h m₁ → News h₀ env.locals h news₁ → Q .next { s with heap := h, toks := tk }) :
    wpAny (model prog w) A (pyIter (.ref l)) (fun it s₂ => LoopAtV prog w A h₀ env x body Q E it s₂) E s := by
  have hls : s.heap.IsList l items := hl.at fun o e => F.keep l o e
  obtain ⟨ol, hol, _⟩ := id hl
  have hlt : l < h₀.objs.size := Heap.lt_size hol
  have hne : l ≠ s.heap.objs.size := Nat.ne_of_lt (Nat.lt_trans (Nat.lt_of_lt_of_le hlt F.above) F.ns.lt)
  refine wpAny_pyIter_list hls ?_
  refine loop_invN J (Walks.list (prog := prog) (w := w) hh s.heap.objs.size l hne items) ?_ ?_ ?_ ?_ ⟨⟨_, Heap.get?_push_size _ rfl, rfl, rfl⟩, hls.at fun o e => Heap.get?_push_of_some _ e⟩ (F.push _) (fun p hp => ⟨Heap.get?_push_of_some _ (N p hp).1, (N p hp).2⟩) hj ?_ ?_
  · intro hm
    rcases List.mem_cons.mp hm with e | hm
    · exact absurd F.ns.lt (e ▸ Nat.lt_irrefl _)
    · exact absurd (Nat.lt_of_lt_of_le hlt F.above) ((List.mem_singleton.mp hm) ▸ Nat.lt_irrefl _)
  · intro b hb
    rw [List.mem_singleton.mp hb]
    exact next_is_new F
  · intro p hp hI
    exact absurd (Heap.lt_size (N p hp).1) ((List.mem_singleton.mp hI) ▸ Nat.lt_irrefl _)
  · intro q hq hm
    rcases List.mem_cons.mp hm with e | hm
    · exact absurd (Heap.lt_size (N q hq).1) (e ▸ Nat.lt_irrefl _)
    · have e := List.mem_singleton.mp hm
      have := (N q hq).2.2
      rw [e, hol] at this; cases this
  · intro i v m₁ news₁ h tk own hi hP hadr hoff hJ F₁ N₁
    exact turn i v m₁ news₁ h tk own hP hadr hoff hJ F₁ N₁
  · exact fun m₁ news₁ h tk hJ F₁ N₁ => done m₁ news₁ h tk hJ F₁ N₁
theorem iter_iter {l I : Addr} {items : Array Value} {m₀ : Str → Option Value} {news : List (Addr × Obj)} (J : Nat → (Str → Option Value) → List (Addr × Obj) → Prop)
    (hh : A.handled = none) (hl : h₀.IsList l items) (hI : s.heap.IsListIter I l 0) (hIn : h₀.get? I = none) (F : Fr h₀ env.locals s.heap m₀) (N : News h₀ env.locals s.heap news) (hnw : ∀ p ∈ news, p.1 ≠ I) (hIL : env.locals ≠ I) (hj : J 0 m₀ news)
    (turn : ∀ i v m₁ news₁ h tk own, items[i]? = some v → news₁.map (·.1) = news.map (·.1) → OwnOff own (news.map (·.1)) → J i m₁ news₁ → Fr h₀ env.locals h (fun y => if y = x then some v else m₁ y) → News h₀ env.locals h (news₁ ++ own) →
      wpAny (model prog w) A (execs body env) (InvPostN h₀ env.locals (J (i + 1)) own (news.map (·.1)) { s with heap := h, toks := tk } Q) E { s with heap := h, toks := tk })
    (done : ∀ m₁ news₁ h tk, J items.size m₁ news₁ → Fr h₀ env.locals h m₁ → News h₀ env.locals h news₁ → Q .next { s with heap := h, toks := tk }) :
    wpAny (model prog w) A (pyIter (.ref I)) (fun it s₂ => LoopAtV prog w A h₀ env x body Q E it s₂) E s := by
  have hls : s.heap.IsList l items := hl.at fun o e => F.keep l o e
  obtain ⟨ol, hol, _⟩ := id hl
  have hlt : l < h₀.objs.size := Heap.lt_size hol
  have hne : l ≠ I := fun e => by rw [e, hIn] at hol; cases hol
  refine wpAny_pyIter_listiter hI ?_
  refine loop_invN J (Walks.list (prog := prog) (w := w) hh I l hne items) ?_ ?_ ?_ ?_ ⟨hI, hls⟩ F N hj ?_ ?_
  · intro hm
    rcases List.mem_cons.mp hm with e | hm
    · exact hIL e
    · exact absurd (Nat.lt_of_lt_of_le hlt F.above) ((List.mem_singleton.mp hm) ▸ Nat.lt_irrefl _)
  · intro b hb
    rw [List.mem_singleton.mp hb]
    exact hIn
  · intro p hp hI
    exact hnw p hp (List.mem_singleton.mp hI)
  · intro q hq hm
    rcases List.mem_cons.mp hm with e | hm
    · exact hnw q hq e
    · have e := List.mem_singleton.mp hm
      have := (N q hq).2.2
      rw [e, hol] at this; cases this
  · intro i v m₁ news₁ h tk own hi hP hadr hoff hJ F₁ N₁
    exact turn i v m₁ news₁ h tk own hP hadr hoff hJ F₁ N₁
  · exact fun m₁ news₁ h tk hJ F₁ N₁ => done m₁ news₁ h tk hJ F₁ N₁
noncomputable def One (x y : Str) (m₀ : Str → Option Value) (news : List (Addr × Obj)) (R : Value → Prop) (m' : Str → Option Value) (nx : List (Addr × Obj)) : Prop :=
  nx = news ∧ (∃ u', m' y = some u' ∧ R u') ∧ ∀ z, z ≠ x → z ≠ y → m' z = m₀ z
theorem One.map {x y : Str} {m₀ m' : Str → Option Value} {u v : Value} (e : m' y = some u) (hm : ∀ z, z ≠ x → z ≠ y → m' z = m₀ z) : (fun z => if z = x then some v else m' z) = fun z => if z = x then some v else if z = y then some u else m₀ z := map_one e hm
theorem One.mapx {x y : Str} {m₀ m' : Str → Option Value} {u : Value} (e : m' y = some u) (hm : ∀ z, z ≠ x → z ≠ y → m' z = m₀ z) : m' = fun z => if z = x then m' z else if z = y then some u else m₀ z := (done_one e hm).symm
theorem iter_iter1 {l I : Addr} {items : Array Value} {m₀ : Str → Option Value} {news : List (Addr × Obj)} {y : Str} {v₀ : Value} (R : Nat → Value → Prop)
    (hh : A.handled = none) (hl : h₀.IsList l items) (hI : s.heap.IsListIter I l 0) (hIn : h₀.get? I = none) (F : Fr h₀ env.locals s.heap m₀) (N : News h₀ env.locals s.heap news) (hnw : ∀ p ∈ news, p.1 ≠ I) (hIL : env.locals ≠ I) (hm : m₀ y = some v₀) (h0 : R 0 v₀)
    (turn : ∀ i v u h tk own, items[i]? = some v → R i u → Fr h₀ env.locals h (fun z => if z = x then some v else if z = y then some u else m₀ z) → News h₀ env.locals h (news ++ own) →
      wpAny (model prog w) A (execs body env) (InvPostN h₀ env.locals (One x y m₀ news (R (i + 1))) own (news.map (·.1)) { s with heap := h, toks := tk } Q) E { s with heap := h, toks := tk })
    (done : ∀ (ux : Str → Option Value) u h tk, R items.size u → Fr h₀ env.locals h (fun z => if z = x then ux z else if z = y then some u else m₀ z) → News h₀ env.locals h news → Q .next { s with heap := h, toks := tk }) :
    wpAny (model prog w) A (pyIter (.ref I)) (fun it s₂ => LoopAtV prog w A h₀ env x body Q E it s₂) E s := by
  refine iter_iter (fun i => One x y m₀ news (R i)) hh hl hI hIn F N hnw hIL ⟨rfl, ⟨v₀, hm, h0⟩, fun _ _ _ => rfl⟩ ?_ ?_
  · rintro i v m₁ news₁ h tk own hi _ _ ⟨rfl, ⟨u, e, hR⟩, hz⟩ F₁ N₁
    rw [One.map e hz] at F₁
    exact turn i v u h tk own hi hR F₁ N₁
  · rintro m₁ news₁ h tk ⟨rfl, ⟨u, e, hR⟩, hz⟩ F₁ N₁
    rw [One.mapx e hz] at F₁
    exact done m₁ u h tk hR F₁ N₁
theorem iter_call {l L : Addr} {items : Array Value} {m : Str → Option Value} {news : List (Addr × Obj)} {Q : Value → Shared → Prop} (F : Fr h₀ L s.heap m) (N : News h₀ L s.heap news) (hl : s.heap.IsList l items)
    (h : ∀ (I : Addr) h', Fr h₀ L h' m → News h₀ L h' ((I, { cls := .type "list_iterator", data := .fields #[.ref l, .int 0 0] }) :: news) → (∀ p ∈ news, p.1 < I) → Q (.ref I) { s with heap := h' }) :
    wpAny (model prog w) A (call (.builtin "iter") [.ref l]) Q E s := by
  refine call_function_entry (by decide +kernel) (by decide +kernel) kdk_entry_iter (kdk_args_iter _) ?_
  unfold Builtin.«iter»
  refine wpAny_bind (m := someArgs "iter" 1 2 _) (wpAny_of_eq (a := [Value.ref l]) (by first | rfl | kernel_rfl!) ?_)
  show wpAny _ _ (pyIter (.ref l) >>= _) _ _ _
  refine wpAny_bind (wpAny_pyIter_list hl ?_)
  exact wpAny_pure ⟨_, rfl, h _ _ (F.push _) (News.push F N _ rfl) (fun q hq => Heap.lt_size (N q hq).1)⟩
end
end
theorem fl7 : True := by w_top off; first | walk1 | trivial
section
open PySem PySem.W PyProof.Rows PySem.Calls PySem.Spec PySem.SeqAt
set_option maxHeartbeats 4000000
variable {w : World} {mean : ExcName → Option Value} {mg mb : Str → Option Value} {dp un : Nat} {gd : Option (List Code)} {outer : List Env}
local macro_rules | `(tactic| walk_at $k:str) => if ["eval ListComp", "call ref", "exec For", "pyIter ref"].contains k.getString then `(tactic| walk_at "HALT") else Lean.Macro.throwUnsupported
noncomputable def OptV (v : Value) (x : Option Str) : Prop := (v = .none ∧ x = none) ∨ ∃ z, StrV v z ∧ x = some z
noncomputable def gluedTo (acc : Option Str) (p : Str) : Option Str := some (acc.getD (Str.ofString "C") ++ Str.ofString "." ++ p)
noncomputable def Glues (w : World) (mean : ExcName → Option Value) (mg mb : Str → Option Value) (gd : Option (List Code)) (N M : Nat) (h : Heap) (fa : Addr) : Prop :=
  ∀ (dp un : Nat) (outer : List Env) (s : Shared) (Q E : Value → Shared → Prop) (v : Value) (acc : Option Str) (p : Str) (t : Tok), h.StaysIn s.heap → Rdy w mean mg mb dp un gd outer s.heap → dp ≤ N → un ≤ M → OptV v acc → (acc.getD (Str.ofString "C")).length ≤ 900000 → p.length ≤ 1000 →
    Ret s Q (fun r _ => OptV r (gluedTo acc p)) → wpAny (model PySem.Challenge.rw_ny0140_01.row.prog w) (Am dp un gd outer) (call (.ref fa) [v, .str p t]) Q E s
theorem glued_len : ∀ (ps : List Str) (acc : Option Str), (∀ p ∈ ps, p.length ≤ 1000) → ((ps.foldl gluedTo acc).getD (Str.ofString "C")).length ≤ (acc.getD (Str.ofString "C")).length + ps.length * 1001
  | [], _, _ => by simp
  | p :: ps, acc, h => by
    have h1 := glued_len ps (gluedTo acc p) fun q hq => h q (List.mem_cons_of_mem _ hq)
    have h2 := h p (List.mem_cons_self ..)
    have h3 : ((gluedTo acc p).getD (Str.ofString "C")).length = (acc.getD (Str.ofString "C")).length + 1 + p.length := by
      show (_ ++ _ ++ _ : Str).length = _
      rw [Str.length_append, Str.length_append]; rfl
    show ((ps.foldl gluedTo (gluedTo acc p)).getD _).length ≤ _
    rw [h3] at h1
    simp only [List.length_cons]
    lia
theorem reduce_call {s : Shared} {Q E : Value → Shared → Prop} {ps : List Str} {v : Value} {fa : Addr} (hv : StrsAt s.heap v ps) (hlen : ps.length ≤ 100) (hps : ∀ p ∈ ps, p.length ≤ 1000) (hf : Glues w mean mg mb gd (dp + 1) (un + 10) s.heap fa) {fo : Obj} {fd : FuncData} (hfo : s.heap.get? fa = some fo) (hfd : fo.data = .func fd) (Y : Rdy w mean mg mb dp un gd outer s.heap) (hd : dp + 2 < recursionLimit) (hu : un + 40 < cLine)
    (hret : Ret s Q fun v _ => OptV v (ps.foldl gluedTo none)) : wpAny (model PySem.Challenge.rw_ny0140_01.row.prog w) (Am dp un gd outer) (call (.ref 44) [.ref fa, v, .none]) Q E s := by
  (have fill : (fun w : World => _root_.Mine.hd.heap_1_1 w.params) = (fun w : World => _root_.Mine.hd.heap_1_1 w.params) ∧ PySem.Challenge.rw_ny0140_01.row.prog = PySem.Challenge.rw_ny0140_01.row.prog := (by k_fill; exact ⟨rfl, rfl⟩); clear fill)
  obtain ⟨a, vs, rfl, hl, hp⟩ := hv
  k_dflt ((refine wpAny_call ?_; refine' enter ?kY ?k6 ?k7 ?k8 ?k9 ?kB ?_ ?c2 ?c3 ?c4 ?c5; (case kY => assumption); (case k6 => k_is); (case k7 => k_is); (case k8 => lia); (case k9 => first | exact BindsTo.of_eq rfl | exact binds_K (Rdy.K (by assumption)) rfl (by k_is) rfl rfl rfl); (case c5 => exact rfl); (case kB => exact locs rfl); (case c2 => decide); (case c3 => exact rfl); (case c4 => exact rfl); k_whole; intro base g L' h' kG kH F' N' B' X' T'; (try dsimp only); (try k_fold)))
  have hl' := isList_keeps kG hl
  k_steps
  (with_reducible rename Fr _ _ _ _ => F₁)
  (with_reducible rename News _ _ _ _ => N₁)
  refine iter_call F₁ N₁ (isList_keeps F₁.keep hl') ?_
  intro I h₂ F₂ N₂ _
  clear F₁ N₁
  k_steps
  (with_reducible rename Fr _ _ _ _ => F₃)
  (with_reducible rename News _ _ _ _ => N₃)
  refine Halt.mk (iter_iter1 (y := Str.ofString "value") (fun i v => OptV v ((ps.take i).foldl gluedTo none)) rfl hl' ⟨_, N₃.get (.head _), rfl, rfl⟩ (N₃.fresh (.head _)) F₃ (News.nil) (fun _ h => nomatch h) (fun e => (N₃ _ (.head _)).2.1 e.symm) rfl (.inl ⟨rfl, rfl⟩) ?_ ?_)
  · intro i v u h₃ tk₃ own hi hR F₄ N₄
    obtain ⟨p, hpi, t, rfl⟩ := Paired.get hp (by simpa using hi)
    have hgl : (((ps.take i).foldl gluedTo none).getD (Str.ofString "C")).length ≤ 900000 := by
      have h1 := glued_len (ps.take i) none fun p hp => hps p (List.mem_of_mem_take hp)
      have h2 : (ps.take i).length ≤ ps.length := by rw [List.length_take]; lia
      have h3 : ((none : Option Str).getD (Str.ofString "C")).length = 1 := rfl
      lia
    have hpl := hps p (List.mem_of_getElem? hpi)
    clear F₃ N₃
    k_steps
    · exact F₄.keep _ _ (kG _ _ hfo)
    · refine Halt.mk (hf _ _ _ _ _ _ _ _ _ _ (fun b o e => F₄.keep _ _ (kG _ _ e)) (Rdy.inner B' X' T' F₄ rfl) (Nat.le_refl _) (by show un + 3 ≤ un + 10; lia) hR hgl hpl ?_)
      intro v₅ h₅ tk₅ st hv₅
      have F₅ := fr_on st F₄
      have N₅ := news_on st N₄
      clear F₄ N₄
      k_steps
      (with_reducible rename Fr _ _ _ _ => F₆)
      (with_reducible rename News _ _ _ _ => N₆)
      refine InvEndN.intro F₆ N₆ ⟨rfl, ⟨v₅, rfl, ?_⟩, fun z h1 h2 => ?_⟩ rfl (fun _ h => nomatch h) (fun p hp => hp)
      · rw [List.take_add_one, hpi]
        simpa using hv₅
      · simp only [if_neg h1, if_neg h2]
  · intro ux u h₃ tk₃ hR F₄ N₄
    k_steps
    rw [show vs.toArray.size = ps.length from by rw [List.size_toArray, hp.length], List.take_length] at hR
    exact hret _ _ _ (kH _ F₄.keep) hR
end
theorem fl8 : True := by w_top off; first | walk1 | trivial
section
open PySem PySem.W PyProof.Rows PySem.Calls PySem.Spec PySem.SeqAt
set_option maxHeartbeats 4000000
variable {w : World} {mean : ExcName → Option Value} {mg mb : Str → Option Value} {dp un : Nat} {gd : Option (List Code)} {outer : List Env}
local macro_rules | `(tactic| walk_at $k:str) => if ["eval ListComp", "call ref", "exec For", "pyIter ref"].contains k.getString then `(tactic| walk_at "HALT") else Lean.Macro.throwUnsupported
noncomputable abbrev lamQ : Str := Str.ofString "_law_named.<locals>.<lambda>"
noncomputable def T91 (h : Heap) : Prop := h.get? 91 = some (tabObj #[]) ∨ ∃ c' : Addr, h.get? 91 = some (tabObj #[rawInt 122, rawInt 37, .ref c']) ∧ h.CodeRec (.ref c') lamQ
theorem T91.tab {h : Heap} (t : T91 h) : ∃ ps, h.get? 91 = some (tabObj ps) := by
  rcases t with t | ⟨_, t, _⟩ <;> exact ⟨_, t⟩
theorem T91.stable : Stable [91] T91 where
  alive := fun h t b hb => by obtain rfl := List.mem_singleton.mp hb; obtain ⟨_, e⟩ := t.tab; exact ⟨_, e⟩
  on := fun h h' bad hb hk t => by
    have h91 : ¬ bad 91 := fun q => by
      obtain ⟨_, e⟩ := t.tab
      exact (hb _ _ q e).2 (by simp)
    rcases t with t | ⟨c', t, r⟩
    · exact .inl (hk _ _ h91 t)
    · refine .inr ⟨c', hk _ _ h91 t, ?_⟩
      obtain ⟨c, o, vs, u, e, e1, e2, e3⟩ := r
      exact ⟨c, o, vs, u, e, hk _ _ (fun q => (hb _ _ q e1).1 vs _ _ e2 e3) e1, e2, e3⟩
theorem codeHd95 {w : World} {h : Heap} (X : (_root_.Mine.hd.heap_1_1 w.params).In h) : CodeHd h 95 91 := by
  refine ⟨_, _, _, _, _, _, _, _, _, X 95 _ rfl, rfl, rfl, rfl, rfl, rfl, rfl, rfl, rfl, by decide⟩
theorem K91 {w : World} : (_root_.Mine.hd.heap_1_1 w.params).lookup 91 = none := rfl
structure Hid (P : Addr) (h g : Heap) : Prop where
  up : ∀ b o, b ≠ P → h.get? b = some o → g.get? b = some o
  dn : ∀ b o, g.get? b = some o → h.get? b = some o ∧ b ≠ P
theorem hid91 {s : Heap} (Y : Rdy w mean mg mb dp un gd outer s) {ps : Array Value} (e : s.get? 91 = some (tabObj ps)) :
    ∃ base g, Hid 91 s g ∧ g.objs.size = s.objs.size ∧ g.get? 91 = none ∧ Below (Am dp un gd outer) base outer g ∧ (_root_.Mine.hd.heap_1_1 w.params).In g ∧ Top topProg LL mean mg mb g := by
  obtain ⟨⟨base, B⟩, K, T⟩ := Y
  have up : ∀ b o, b ≠ 91 → s.get? b = some o → (s.hide 91).get? b = some o := fun b o hb e => (Heap.hide_ne s hb).trans e
  have dn : ∀ b o, (s.hide 91).get? b = some o → s.get? b = some o ∧ b ≠ 91 := fun b o e => ⟨Heap.of_hide e, fun q => by rw [q, Heap.hide_self] at e; cases e⟩
  have ne : ∀ (b : Addr) (o : Obj), s.get? b = some o → (∀ vs, o.data ≠ .fields vs) → b ≠ 91 := fun b o eb hd q => by rw [q, e] at eb; cases eb; exact hd _ rfl
  refine ⟨base.hide 91, s.hide 91, ⟨up, dn⟩, Heap.hide_size _ _, Heap.hide_self _ _, ⟨B.stack, fun b o e' => ?_, ?_⟩, fun a o ho => ?_, ?_⟩
  · have := Heap.of_hide e'
    exact up b o (fun q => by rw [q, Heap.hide_self] at e'; cases e') (B.stays b o this)
  · have : ∀ l : List Env, s.FunFrames base l → (s.hide 91).FunFrames (base.hide 91) l := by
      intro l
      induction l with
      | nil => intro _; trivial
      | cons env r ih =>
        rintro ⟨h1, ⟨L, o, h2, h3, h4, h5⟩, h6⟩
        refine ⟨h1, ⟨L, o, h2, ?_, up L o (ne L o h4 h5) h4, h5⟩, ih h6⟩
        cases q : (base.hide 91).get? L with
        | none => rfl
        | some o' => rw [Heap.of_hide q] at h3; cases h3
    exact this _ B.frames
  · refine up a o (fun q => ?_) (K a o ho)
    subst q
    rw [K91] at ho; cases ho
  · have nsUp : ∀ {a : Addr} {mm : Str → Option Value}, s.Ns a mm → (s.hide 91).Ns a mm := fun {a mm} hn => by
      obtain ⟨o, es, ep, e', hd, r⟩ := hn
      exact ⟨o, es, ep, up _ _ (ne _ _ e' (fun vs q => by rw [hd] at q; cases q)) e', hd, r⟩
    exact {
      g := nsUp T.g
      b := nsUp T.b
      nolimit := let ⟨mc, a, r⟩ := T.nolimit; ⟨mc, nsUp a, r⟩
      nodigits := let ⟨mc, a, r⟩ := T.nodigits; ⟨mc, nsUp a, r⟩
      fn := fun d hd => absurd (show d ∈ ([] : List DefRec) from hd) List.not_mem_nil
      own := fun o ho => absurd (show o ∈ ([] : List OwnSpec) from ho) List.not_mem_nil
      const := T.const
      free := T.free
      builtins := T.builtins
      tab := fun d hd => absurd (show d ∈ ([] : List DefRec) from hd) List.not_mem_nil
      bmain := let ⟨bm, ob, a1, a2, a3, a4, r⟩ := T.bmain; ⟨bm, ob, a1, a2, up _ _ (fun q => by rw [q, e] at a3; cases a3; cases a4) a3, a4, r⟩
      seer := fun e => absurd (show false = true from e) Bool.false_ne_true }
theorem enter_lam {s : Shared} {R : Result → Shared → Prop} {name qual : Str} {params : Arguments} {body : Expr} {scope : Scope} {pm ctv : Value} {c' f : Addr} {args : Args} {binds : List (Str × Value)}
    (Y : Rdy w mean mg mb dp un gd outer s.heap) (ho : s.heap.get? f = some (kla_obj name qual params body scope [] pm c' ctv)) (hcd : s.heap.CodeRec (.ref c') qual) (hroom : dp < recursionLimit)
    (hbind : bindArgs (kla_fn name qual params body scope [] pm (.ref c') ctv) args = pure binds) (hloc : ∀ y ∈ binds, scope.names.lookup y.1 = some .local)
    (h : ∀ base g L' h₁, s.heap.StaysIn g → (∀ h', g.StaysIn h' → s.heap.StaysIn h') → Fr g L' h₁ (fun y => binds.reverse.lookup y) → News g L' h₁ [] → Below (Am dp un gd outer) base outer g →
      (_root_.Mine.hd.heap_1_1 w.params).In g → Top topProg LL mean mg mb g →
      wpAny (model PySem.Challenge.rw_ny0140_01.row.prog w) ((Am dp un gd outer).deeper (envX qual scope L' f (.ref c') [])) (eval body (envX qual scope L' f (.ref c') []))
        (fun v s' => R (.ok (.ret v)) s')
        (fun e s' => wpAny (model PySem.Challenge.rw_ny0140_01.row.prog w) ((Am dp un gd outer).deeper (envX qual scope L' f (.ref c') [])) (leaving (envX qual scope L' f (.ref c') []) e) (fun _ s'' => R (.error e) s'') (fun e' s'' => R (.error e') s'') s')
        { s with heap := h₁, toks := s.toks + binds.length })
    (hcell : ∀ x ∈ scope.names, x.2 ≠ .cell) (hco : scope.isCoroutine = false := by rfl) (hgen : scope.isGenerator = false := by rfl) (hk : scope.kind = .function := by rfl) :
    codeAny (model PySem.Challenge.rw_ny0140_01.row.prog w) (Am dp un gd outer) (.call (.ref f) args) R s := by
  obtain ⟨base, B⟩ := Y.below
  refine kla_callFunE hroom ho rfl hco hgen rfl hcd ?_
  rw [hbind]
  refine wpAny_pure (wpAny_newFunctionEnv hcell hloc (fun h₁ hns hsb => ⟨Y.top.nolimit.fresh _ hsb, ?_⟩) hk)
  show codeAny _ _ (.expr body (envX qual scope s.heap.objs.size f (.ref c') [])) _ _
  have hk₁ : ∀ b o, s.heap.get? b = some o → h₁.get? b = some o := fun b o e => hsb.extBut b o (Nat.ne_of_lt (Heap.lt_size e)) (Heap.get?_push_of_some _ e)
  exact kla_codeExpr (h base s.heap s.heap.objs.size h₁ (fun _ _ e => e) (fun _ k => k) ⟨hns, hk₁, Nat.le_refl _⟩ News.nil B Y.K Y.top)
noncomputable abbrev lamPs (q1 q2 : Pos) : Arguments := { posonlyargs := [], args := [{ arg := Str.ofString "name", annotation := none, pos := q1 }, { arg := Str.ofString "piece", annotation := none, pos := q2 }], vararg := none, kwonlyargs := [], kw_defaults := [], kwarg := none, defaults := [] }
noncomputable abbrev lamBody (p1 p2 p3 p4 p5 : Pos) : Expr := (Expr.Name (Str.ofString "_build_localename") p1).Call [Expr.Tuple [Expr.Name (Str.ofString "name") p2, Expr.Name (Str.ofString "piece") p3] 0 p4] [] p5
noncomputable abbrev lamScope : Scope := { kind := ScopeKind.function, names := [(Str.ofString "name", NameKind.local), (Str.ofString "piece", NameKind.local), (Str.ofString "_build_localename", NameKind.globalImplicit)], isGenerator := false, isCoroutine := false, more := [] }
theorem glue_lambda {h : Heap} {fa c' : Addr} {pm ctv : Value} {nm qual : Str} {q1 q2 p1 p2 p3 p4 p5 : Pos} {N M : Nat} (ho : h.get? fa = some (kla_obj nm qual (lamPs q1 q2) (lamBody p1 p2 p3 p4 p5) lamScope [] pm c' ctv)) (hc : h.CodeRec (.ref c') qual)
    (hN : N + 3 < recursionLimit) (hM : M + 30 < cLine) : Glues w mean mg mb gd N M h fa := by
  intro dp un outer s Q E v acc p t hs Y hd hu hv hl hp hret
  (have fill : (fun w : World => _root_.Mine.hd.heap_1_1 w.params) = (fun w : World => _root_.Mine.hd.heap_1_1 w.params) ∧ PySem.Challenge.rw_ny0140_01.row.prog = PySem.Challenge.rw_ny0140_01.row.prog := (by k_fill; exact ⟨rfl, rfl⟩); clear fill)
  refine wpAny_call (enter_lam Y (hs _ _ ho) (hc.keeps hs) (by lia) rfl (locs rfl) ?_ (by decide))
  intro base g L' h' kG kH F' N' B' X' T'
  dsimp only
  k_fold
  k_steps
  (with_reducible rename Fr _ _ _ _ => F₁)
  (with_reducible rename News _ _ _ _ => N₁)
  have hn : (v = .none ∧ acc = none) ∨ ∃ z t, v = .str z t ∧ acc = some z ∧ z.length ≤ 1000000 := by
    rcases hv with hv | ⟨z, ⟨t, e1⟩, e2⟩
    · exact .inl hv
    · subst e2
      exact .inr ⟨z, t, e1, rfl, Nat.le_trans hl (by decide)⟩
  refine Halt.mk (build_call (x := acc) (y := some p) (News.isTup N₁ (by k_mem)) hn (.inr ⟨p, t, rfl, rfl, Nat.le_trans hp (by decide)⟩) (Rdy.inner B' X' T' F₁ rfl) (by show dp + 1 + 1 < recursionLimit; lia) ?_)
  rintro v₂ h₂ tk₂ st ⟨t₂, rfl⟩
  have F₂ := fr_on st F₁
  k_steps
  exact hret _ _ _ (kH _ F₂.keep) (.inr ⟨_, ⟨t₂, rfl⟩, rfl⟩)
theorem enterG {s : Shared} {g : Heap} {R : Result → Shared → Prop} {name qual : Str} {params : Arguments} {body : List Stmt} {scope : Scope} {dV kV doc pm cdv ct oc : Value} {an od : Option Addr} {osl : Array (Option Value)} {f : Addr} {args : Args} {binds : List (Str × Value)}
    (Y : Rdy w mean mg mb dp un gd outer s.heap) (dn : ∀ b o, g.get? b = some o → s.heap.get? b = some o) (hsz : g.objs.size = s.heap.objs.size)
    (ho : (_root_.Mine.hd.heap_1_1 w.params).lookup f = some ⟨oc, od, .func (fnOf name qual params body scope dV kV doc pm an cdv ct), osl⟩) (hcd : codeIn (_root_.Mine.hd.heap_1_1 w.params) cdv qual = true) (hroom : dp < recursionLimit)
    (hbind : BindsTo s (fnOf name qual params body scope dV kV doc pm an cdv ct) args binds) (hloc : ∀ y ∈ binds, scope.names.lookup y.1 = some .local)
    (h : ∀ L' h₁, s.heap.StaysIn h₁ → (∀ b o, s.heap.get? b = some o → b < L') → Fr g L' h₁ (fun y => binds.reverse.lookup y) →
      wpAny (model PySem.Challenge.rw_ny0140_01.row.prog w) ((Am dp un gd outer).deeper (envOf qual scope L' f cdv)) (execs body (envOf qual scope L' f cdv))
        (fun fl s' => R (.ok (.ret (match fl with | .ret v => v | _ => .none))) s')
        (fun e s' => wpAny (model PySem.Challenge.rw_ny0140_01.row.prog w) ((Am dp un gd outer).deeper (envOf qual scope L' f cdv)) (leaving (envOf qual scope L' f cdv) e) (fun _ s'' => R (.error e) s'') (fun e' s'' => R (.error e') s'') s')
        { s with heap := h₁, toks := s.toks + binds.length })
    (hcell : ∀ x ∈ scope.names, x.2 ≠ .cell) (hco : scope.isCoroutine = false := by rfl) (hgen : scope.isGenerator = false := by rfl) (hk : scope.kind = .function := by rfl) :
    codeAny (model PySem.Challenge.rw_ny0140_01.row.prog w) (Am dp un gd outer) (.call (.ref f) args) R s := by
  refine codeAny_call_def (fd := fnOf name qual params body scope dV kV doc pm an cdv ct) (body := body) (binds := binds) hroom (Y.K _ _ ho) rfl Y.top.nolimit (codeRec_of Y.K hcd) rfl hbind hcell hloc (fun h₁ hns hk₁ => ?_) hco hgen hk
  exact h s.heap.objs.size h₁ hk₁ (fun _ _ e => Heap.lt_size e) ⟨hns, fun b o e => hk₁ b o (dn b o e), Nat.le_of_eq hsz⟩
noncomputable def nameOf (row : List (List Int)) : Str := ((((row.map piece).map mkS).foldl gluedTo none).getD (Str.ofString "C"))
theorem ListAt.hid {α : Type} {P P' : Value → α → Prop} {h g : Heap} {p : Addr} {ps : Array Value} (hH : Hid p h g) (e : h.get? p = some (tabObj ps)) (hp : ∀ v x, P v x → P' v x) {v : Value} {xs : List α} (l : ListAt P h v xs) : ListAt P' g v xs := by
  obtain ⟨a, vs, rfl, ⟨o, eo, hc, r⟩, hpp⟩ := l
  refine ⟨a, vs, rfl, ⟨o, hH.up a o (fun q => ?_) eo, hc, r⟩, Paired.imp hpp fun v x _ _ => hp v x⟩
  rw [q, e] at eo; cases eo; cases hc
theorem RowAt.hid {h g : Heap} {p : Addr} {ps : Array Value} (hH : Hid p h g) (e : h.get? p = some (tabObj ps)) {v : Value} {row : List (List Int)} (l : RowAt h v row) : RowAt g v row :=
  ListAt.hid hH e (fun _ _ y => ListAt.hid hH e (fun _ _ z => z) y) l
theorem piece_texts {row : List (List Int)} (hg : GoodRow row) : ((row.map piece).map mkS).length ≤ 100 ∧ ∀ p ∈ (row.map piece).map mkS, p.length ≤ 1000 := by
  constructor
  · have := hg.len
    simp only [List.length_map]; lia
  · intro p hp
    obtain ⟨q, hq, rfl⟩ := List.mem_map.mp hp
    obtain ⟨i, hi, rfl⟩ := List.mem_map.mp hq
    have := piece_len (hg.ins i hi)
    rw [mkS_length]; lia
theorem name_len {row : List (List Int)} (hg : GoodRow row) : (nameOf row).length ≤ 200000 := by
  have := glued_len _ none (piece_texts hg).2
  have h2 := (piece_texts hg).1
  have h3 : ((none : Option Str).getD (Str.ofString "C")).length = 1 := rfl
  unfold nameOf
  lia
theorem glued_opt {ps : List Str} {v : Value} {x : Option Str} (h : OptV v (ps.foldl gluedTo x)) (hl : ((ps.foldl gluedTo x).getD (Str.ofString "C")).length ≤ 1000000) :
    (v = .none ∧ ps.foldl gluedTo x = none) ∨ ∃ z t, v = .str z t ∧ ps.foldl gluedTo x = some z ∧ z.length ≤ 1000000 := by
  rcases h with h | ⟨z, ⟨t, e1⟩, e2⟩
  · exact .inl h
  · rw [e2] at hl
    exact .inr ⟨z, t, e1, e2, hl⟩
theorem named_call {s : Shared} {Q E : Value → Shared → Prop} {row : List (List Int)} {v : Value} (hv : RowAt s.heap v row) (hg : GoodRow row) (Y : Rdy w mean mg mb dp un gd outer s.heap) (t91 : T91 s.heap) (hd : dp + 10 < recursionLimit) (hu : un + 80 < cLine)
    (hret : ∀ v h' tk, Kx [91] s.heap h' → T91 h' → StrV v (nameOf row) → Q v { s with heap := h', toks := tk }) : wpAny (model PySem.Challenge.rw_ny0140_01.row.prog w) (Am dp un gd outer) (call (.ref 96) [v]) Q E s := by
  (have fill : (fun w : World => _root_.Mine.hd.heap_1_1 w.params) = (fun w : World => _root_.Mine.hd.heap_1_1 w.params) ∧ PySem.Challenge.rw_ny0140_01.row.prog = PySem.Challenge.rw_ny0140_01.row.prog := (by k_fill; exact ⟨rfl, rfl⟩); clear fill)
  obtain ⟨ps, e91⟩ := t91.tab
  obtain ⟨base, g, hH, hsz, hn91, B', X', T'⟩ := hid91 Y e91
  have hv' := hv.hid hH e91
  refine wpAny_call ?_
  refine' enterG Y (fun b o e => (hH.dn b o e).1) hsz ?k6 ?k7 ?k8 ?k9 ?kB ?_ ?c2 ?c3 ?c4 ?c5
  (case k6 => k_is)
  (case k7 => k_is)
  (case k8 => lia)
  (case k9 => exact BindsTo.of_eq rfl)
  (case c5 => exact rfl)
  (case kB => exact locs rfl)
  (case c2 => decide)
  (case c3 => exact rfl)
  (case c4 => exact rfl)
  intro L' h₁ hk₁ hlt F'
  have l91 := hlt _ _ e91
  have N' : News g L' h₁ [(91, tabObj ps)] := fun p hp => by
    obtain rfl := List.mem_singleton.mp hp
    exact ⟨hk₁ _ _ e91, Nat.ne_of_lt l91, hn91⟩
  have C' := codeHd95 X'
  dsimp only
  k_unmd
  k_fold
  rcases t91 with t91 | ⟨c', t91, r91⟩
  · rw [e91] at t91; cases t91
    k_steps
    (with_reducible rename Fr _ _ _ _ => F₁)
    (with_reducible rename News _ _ _ _ => N₁)
    have hfo := N₁.get (.head _)
    have hcr := codeRec_news N₁ (.tail _ (.head _)) (by assumption) (by assumption)
    refine Halt.mk (pieces_call (hv'.keeps F₁.keep) hg (Rdy.inner B' X' T' F₁ rfl) (by show dp + 1 + 2 < recursionLimit; lia) (by show un + 3 + 40 < cLine; lia) ?_)
    intro v₂ h₂ tk₂ st₂ hstr
    have F₂ := fr_on st₂ F₁
    have N₂ := news_on st₂ N₁
    clear F₁ N₁
    k_steps
    refine Halt.mk (reduce_call hstr (piece_texts hg).1 (piece_texts hg).2 (glue_lambda (st₂ _ _ hfo) (hcr.keeps st₂) (by show dp + 1 + 1 + 3 < recursionLimit; lia) (by show un + 3 + 10 + 30 < cLine; lia)) (st₂ _ _ hfo) rfl (Rdy.inner B' X' T' F₂ rfl) (by show dp + 1 + 2 < recursionLimit; lia) (by show un + 3 + 40 < cLine; lia) ?_)
    intro v₃ h₃ tk₃ st₃ hopt
    have F₃ := fr_on st₃ F₂
    have N₃ := news_on st₃ N₂
    clear F₂ N₂
    k_steps
    (with_reducible rename Fr _ _ _ _ => F₄)
    (with_reducible rename News _ _ _ _ => N₄)
    refine Halt.mk (build_call (y := none) (News.isTup N₄ (by k_mem)) (glued_opt hopt (Nat.le_trans (name_len hg) (by decide))) (.inl ⟨rfl, rfl⟩) (Rdy.inner B' X' T' F₄ rfl) (by show dp + 1 + 1 < recursionLimit; lia) ?_)
    rintro v₅ h₅ tk₅ st₅ ⟨t₅, rfl⟩
    have F₅ := fr_on st₅ F₄
    have N₅ := news_on st₅ N₄
    clear F₄ N₄
    k_steps
    refine hret _ _ _ (fun b o hb e => F₅.keep _ _ (hH.up b o (fun q => hb (by rw [q]; exact List.mem_singleton.mpr rfl)) e)) ?_ ⟨t₅, rfl⟩
    exact .inr ⟨_, N₅.get (.tail _ (.tail _ (.tail _ (.head _)))), codeRec_news N₅ (.tail _ (.tail _ (.head _))) (by assumption) (by assumption)⟩
  · rw [e91] at t91; cases t91
    k_steps
    (with_reducible rename Fr _ _ _ _ => F₁)
    (with_reducible rename News _ _ _ _ => N₁)
    have hfo := N₁.get (.head _)
    have rg : g.CodeRec (.ref c') lamQ := by
      obtain ⟨c, o, vs, t, e, e1, e2, e3⟩ := r91
      refine ⟨c, o, vs, t, e, hH.up _ _ (fun q => ?_) e1, e2, e3⟩
      rw [q, e91] at e1; cases e1; cases e2; cases e3
    have hcr := rg.keeps F₁.keep
    refine Halt.mk (pieces_call (hv'.keeps F₁.keep) hg (Rdy.inner B' X' T' F₁ rfl) (by show dp + 1 + 2 < recursionLimit; lia) (by show un + 3 + 40 < cLine; lia) ?_)
    intro v₂ h₂ tk₂ st₂ hstr
    have F₂ := fr_on st₂ F₁
    have N₂ := news_on st₂ N₁
    clear F₁ N₁
    k_steps
    refine Halt.mk (reduce_call hstr (piece_texts hg).1 (piece_texts hg).2 (glue_lambda (st₂ _ _ hfo) (hcr.keeps st₂) (by show dp + 1 + 1 + 3 < recursionLimit; lia) (by show un + 3 + 10 + 30 < cLine; lia)) (st₂ _ _ hfo) rfl (Rdy.inner B' X' T' F₂ rfl) (by show dp + 1 + 2 < recursionLimit; lia) (by show un + 3 + 40 < cLine; lia) ?_)
    intro v₃ h₃ tk₃ st₃ hopt
    have F₃ := fr_on st₃ F₂
    have N₃ := news_on st₃ N₂
    clear F₂ N₂
    k_steps
    (with_reducible rename Fr _ _ _ _ => F₄)
    (with_reducible rename News _ _ _ _ => N₄)
    refine Halt.mk (build_call (y := none) (News.isTup N₄ (by k_mem)) (glued_opt hopt (Nat.le_trans (name_len hg) (by decide))) (.inl ⟨rfl, rfl⟩) (Rdy.inner B' X' T' F₄ rfl) (by show dp + 1 + 1 < recursionLimit; lia) ?_)
    rintro v₅ h₅ tk₅ st₅ ⟨t₅, rfl⟩
    have F₅ := fr_on st₅ F₄
    have N₅ := news_on st₅ N₄
    clear F₄ N₄
    k_steps
    refine hret _ _ _ (fun b o hb e => F₅.keep _ _ (hH.up b o (fun q => hb (by rw [q]; exact List.mem_singleton.mpr rfl)) e)) ?_ ⟨t₅, rfl⟩
    exact .inr ⟨c', N₅.get (.tail _ (.tail _ (.head _))), rg.keeps F₅.keep⟩
end
theorem fl9 : True := by w_top off; first | walk1 | trivial
section
open PySem PySem.W PyProof.Rows PySem.Calls PySem.Spec PySem.SeqAt
set_option maxHeartbeats 4000000
variable {w : World} {mean : ExcName → Option Value} {mg mb : Str → Option Value} {dp un : Nat} {gd : Option (List Code)} {outer : List Env}
local macro_rules | `(tactic| walk_at $k:str) => if ["eval ListComp", "call ref", "exec For", "pyIter ref"].contains k.getString then `(tactic| walk_at "HALT") else Lean.Macro.throwUnsupported
section
variable {prog : Program} {A : Around} {E : Value → Shared → Prop} {s : Shared} {env : Env} {h₀ : Heap} {x : Str} {body : List Stmt} {Q : Flow → Shared → Prop}
theorem iter_range {r : Addr} {a b : Int} {t u v : Tok} {n : Nat} {m₀ : Str → Option Value} {news : List (Addr × Obj)} (J : Nat → (Str → Option Value) → List (Addr × Obj) → Prop)
    (hh : A.handled = none) (hr : IsRange s.heap r a b 1 t u v) (ha : -1000000 ≤ a ∧ a < 1000000 ∧ b < 1000000 ∧ -1000000 ≤ b) (hn : (if a < b then b - a else 0) = (n : Int)) (F : Fr h₀ env.locals s.heap m₀) (N : News h₀ env.locals s.heap news) (hj : J 0 m₀ news)
    (turn : ∀ i t m₁ news₁ h tk own, i < n → news₁.map (·.1) = news.map (·.1) → OwnOff own (news.map (·.1)) → J i m₁ news₁ → Fr h₀ env.locals h (fun y => if y = x then some (.int (a + (i : Nat)) t) else m₁ y) → News h₀ env.locals h (news₁ ++ own) →
      wpAny (model prog w) A (execs body env) (InvPostN h₀ env.locals (J (i + 1)) own (news.map (·.1)) { s with heap := h, toks := tk } Q) E { s with heap := h, toks := tk })
    (done : ∀ m₁ news₁ h tk, J n m₁ news₁ → Fr h₀ env.locals h m₁ → News h₀ env.locals h news₁ → Q .next { s with heap := h, toks := tk }) :
    wpAny (model prog w) A (pyIter (.ref r)) (fun it s₂ => LoopAtV prog w A h₀ env x body Q E it s₂) E s := by
  refine wpAny_pyIter_range hr (small_one (by lia) (by lia) (by lia) (by lia)) ?_
  have hsz : Builtin.Range.rangeSize a b 1 = n := by rw [rangeSize_one]; exact hn
  refine loop_invN J (Walks.range (prog := prog) (w := w) hh s.heap.objs.size a 1 n) ?_ ?_ ?_ ?_ ?_ (F.push _) (fun p hp => ⟨Heap.get?_push_of_some _ (N p hp).1, (N p hp).2⟩) hj ?_ ?_
  · intro hm
    exact absurd F.ns.lt ((List.mem_singleton.mp hm) ▸ Nat.lt_irrefl _)
  · intro b hb
    rw [List.mem_singleton.mp hb]
    exact next_is_new F
  · intro p hp hI
    exact absurd (Heap.lt_size (N p hp).1) ((List.mem_singleton.mp hI) ▸ Nat.lt_irrefl _)
  · intro q hq hm
    exact absurd (Heap.lt_size (N q hq).1) ((List.mem_singleton.mp hm) ▸ Nat.lt_irrefl _)
  · have : IsRangeIter (s.heap.push { cls := .type "range_iterator", data := .fields #[rawInt a, rawInt (Builtin.Range.rangeSize a b 1), rawInt 1] }) s.heap.objs.size a (Builtin.Range.rangeSize a b 1) 1 := Heap.get?_push_size _ rfl
    rw [hsz] at this
    simpa [hsz] using this
  · rintro i v m₁ news₁ h tk own hi ⟨t, rfl⟩ hadr hoff hJ F₁ N₁
    rw [Int.mul_one] at F₁
    exact turn i t m₁ news₁ h tk own hi hadr hoff hJ F₁ N₁
  · exact fun m₁ news₁ h tk hJ F₁ N₁ => done m₁ news₁ h tk hJ F₁ N₁
end
section
variable {prog : Program} {A : Around} {E : Value → Shared → Prop} {s : Shared}
theorem item_list {value slice : Expr} {l : Addr} {items : Array Value} {i : Nat} {x : Value} {t : Tok} {Q : Value → Shared → Prop} (hl : s.heap.IsList l items) (hx : items[i]? = some x) (hi : items.size ≤ 1000000) (h : Q x s)
    (hs : subscripted slice false (.ref l) (.int (i : Int) t) = operate [.ref l, .int (i : Int) t] (getItem (.ref l) (.int (i : Int) t)) := by with_unfolding_all rfl) (hg : ∀ r, letTemporaryGo value (.ref l) r = pure () := by intro _; with_unfolding_all rfl) :
    wpAny (model prog w) A (subscriptTail value slice (.ref l) (.int (i : Int) t)) Q E s := by
  have hlt : i < items.size := by
    rcases Nat.lt_or_ge i items.size with h | h
    · exact h
    · rw [Array.getElem?_eq_none h] at hx; cases hx
  exact subscriptTail_builtin hl.typeIs slot_list_getitem.lookup (wpAny_getItem_list hl (by lia) (by lia) (by simpa using hx) h) hs hg
end
local macro_rules | `(tactic| walk_at "subscriptTail") => `(tactic| refine item_list (isList_keeps (Fr.keep (by assumption)) (by assumption)) (by assumption) (by lia) ?_)
section
variable {α : Type} [LT α] [DecidableEq α] [DecidableLT α]
noncomputable def ordG (xs ys : List α) : Int := if ys < xs then 1 else if xs < ys then -1 else 0
theorem lt_diff (irr : ∀ a : α, ¬ a < a) : ∀ {x y : List α} {i : Nat} {a b : α}, (∀ j, j < i → x[j]? = y[j]?) → x[i]? = some a → y[i]? = some b → a ≠ b → (x < y ↔ a < b)
  | x :: xs, y :: ys, 0, a, b, _, h1, h2, hn => by
    simp only [List.getElem?_cons_zero, Option.some.injEq] at h1 h2
    subst h1 h2
    simp [List.cons_lt_cons_iff, hn]
  | x :: xs, y :: ys, i + 1, a, b, h, h1, h2, hn => by
    have e := h 0 (Nat.succ_pos _)
    simp only [List.getElem?_cons_zero, Option.some.injEq] at e
    subst e
    have := lt_diff irr (x := xs) (y := ys) (i := i) (fun j hj => by have := h (j + 1) (Nat.succ_lt_succ hj); simpa using this) (by simpa using h1) (by simpa using h2) hn
    simp [List.cons_lt_cons_iff, irr, this]
theorem lt_end (irr : ∀ a : α, ¬ a < a) : ∀ {x y : List α}, (∀ j, j < min x.length y.length → x[j]? = y[j]?) → (x < y ↔ x.length < y.length)
  | [], [], _ => by simp
  | [], _ :: _, _ => by simp
  | _ :: _, [], _ => by simp
  | x :: xs, y :: ys, h => by
    have e := h 0 (by simp)
    simp only [List.getElem?_cons_zero, Option.some.injEq] at e
    subst e
    have := lt_end irr (x := xs) (y := ys) (fun j hj => by have := h (j + 1) (by simp only [List.length_cons]; lia); simpa using this)
    simp [List.cons_lt_cons_iff, irr, this]
theorem ordG_diff (irr : ∀ a : α, ¬ a < a) {x y : List α} {i : Nat} {a b : α} (h : ∀ j, j < i → x[j]? = y[j]?) (h1 : x[i]? = some a) (h2 : y[i]? = some b) (hn : a ≠ b) : ordG x y = if b < a then 1 else if a < b then -1 else 0 := by
  have e1 := lt_diff irr h h1 h2 hn
  have e2 := lt_diff irr (fun j hj => (h j hj).symm) h2 h1 (Ne.symm hn)
  unfold ordG; simp only [e1, e2]
theorem ordG_end (irr : ∀ a : α, ¬ a < a) {x y : List α} (h : ∀ j, j < min x.length y.length → x[j]? = y[j]?) : ordG x y = if y.length < x.length then 1 else if x.length < y.length then -1 else 0 := by
  have e1 := lt_end irr h
  have e2 := lt_end irr (x := y) (y := x) (fun j hj => (h j (by lia)).symm)
  unfold ordG; simp only [e1, e2]
end
theorem orderI_call {s : Shared} {Q E : Value → Shared → Prop} {x y : List Int} {v u : Value} (hx : InnerAt s.heap v x) (hy : InnerAt s.heap u y) (lx : x.length ≤ 40) (ly : y.length ≤ 40) (Y : Rdy w mean mg mb dp un gd outer s.heap) (hd : dp + 1 < recursionLimit) (hu : un + 20 < cLine)
    (hret : Ret s Q fun v _ => IntV v (ordG x y)) : wpAny (model PySem.Challenge.rw_ny0140_01.row.prog w) (Am dp un gd outer) (call (.ref 103) [v, u]) Q E s := by
  (have fill : (fun w : World => _root_.Mine.hd.heap_1_1 w.params) = (fun w : World => _root_.Mine.hd.heap_1_1 w.params) ∧ PySem.Challenge.rw_ny0140_01.row.prog = PySem.Challenge.rw_ny0140_01.row.prog := (by k_fill; exact ⟨rfl, rfl⟩); clear fill)
  obtain ⟨a, vs, rfl, hl, hp⟩ := hx
  obtain ⟨b, us, rfl, hl2, hp2⟩ := hy
  have lv : vs.toArray.size = x.length := by rw [List.size_toArray, hp.length]
  have lu : us.toArray.size = y.length := by rw [List.size_toArray, hp2.length]
  k_dflt ((refine wpAny_call ?_; refine' enter ?kY ?k6 ?k7 ?k8 ?k9 ?kB ?_ ?c2 ?c3 ?c4 ?c5; (case kY => assumption); (case k6 => k_is); (case k7 => k_is); (case k8 => lia); (case k9 => first | exact BindsTo.of_eq rfl | exact binds_K (Rdy.K (by assumption)) rfl (by k_is) rfl rfl rfl); (case c5 => exact rfl); (case kB => exact locs rfl); (case c2 => decide); (case c3 => exact rfl); (case c4 => exact rfl); k_whole; intro base g L' h' kG kH F' N' B' X' T'; (try dsimp only); (try k_fold)))
  have hl' := isList_keeps kG hl
  have hl2' := isList_keeps kG hl2
  k_steps
  (with_reducible rename Fr _ _ _ _ => F₁)
  (with_reducible rename News _ _ _ _ => N₁)
  (with_reducible rename IsRange _ _ _ _ _ _ _ _ => hr)
  refine Halt.mk (iter_range (n := min x.length y.length) (fun i m nx => nx = [] ∧ (∀ z, z ≠ Str.ofString "k" → m z = (fun y => List.lookup y [(Str.ofString "other", Value.ref b), (Str.ofString "one", Value.ref a)]) z) ∧ ∀ j, j < i → x[j]? = y[j]?) rfl hr ?_ ?_ F₁ N₁ ⟨rfl, fun z _ => rfl, fun _ h => absurd h (Nat.not_lt_zero _)⟩ ?_ ?_)
  · lia
  · lia
  · rintro i t m₁ nx h₂ tk own hi _ hoff ⟨rfl, hm, heq⟩ F₂ N₂
    obtain ⟨xi, exi⟩ : ∃ xi, x[i]? = some xi := ⟨_, List.getElem?_eq_getElem (by lia)⟩
    obtain ⟨yi, eyi⟩ : ∃ yi, y[i]? = some yi := ⟨_, List.getElem?_eq_getElem (by lia)⟩
    obtain ⟨v, ev, tv, rfl⟩ := Paired.get' hp exi
    obtain ⟨u, eu, tu, rfl⟩ := Paired.get' hp2 eyi
    have em : (fun y => if y = Str.ofString "k" then some (Value.int (0 + (i : Int)) t) else m₁ y) = (fun y => if y = Str.ofString "k" then some (Value.int (i : Int) t) else (fun y => List.lookup y [(Str.ofString "other", Value.ref b), (Str.ofString "one", Value.ref a)]) y) := by
      funext z
      by_cases h : z = Str.ofString "k"
      · simp [h]
      · simp only [if_neg h]; exact hm z h
    rw [em] at F₂
    clear F₁ N₁ hr
    have ev' : vs.toArray[i]? = some (Value.int xi tv) := by simpa using ev
    have eu' : us.toArray[i]? = some (Value.int yi tu) := by simpa using eu
    k_steps
    · refine hret _ _ _ (kH _ F₂.keep) (int_is ?_)
      rw [ordG_diff irr_int heq exi eyi (by assumption), if_pos (by lia)]
    · refine hret _ _ _ (kH _ F₂.keep) (int_is ?_)
      rw [ordG_diff irr_int heq exi eyi (by assumption), if_neg (by lia), if_pos (by lia)]
    · refine InvEndN.intro F₂ N₂ ⟨rfl, fun z hz => ?_, fun j hj => ?_⟩ rfl (fun _ h => nomatch h) (fun p hp => hp)
      · simp only [if_neg hz]
      · rcases Nat.lt_succ_iff_lt_or_eq.mp hj with h | rfl
        · exact heq j h
        · rw [exi, eyi]; congr 1
  · intro m₁ nx h₂ tk ⟨e, hm, heq⟩ F₂ N₂
    have em : m₁ = (fun y => if y = Str.ofString "k" then m₁ y else (fun y => List.lookup y [(Str.ofString "other", Value.ref b), (Str.ofString "one", Value.ref a)]) y) := by
      funext z
      by_cases h : z = Str.ofString "k"
      · simp [h]
      · simp only [if_neg h]; exact hm z h
    rw [em] at F₂
    clear F₁ N₁ hr
    k_steps
    · refine hret _ _ _ (kH _ F₂.keep) (int_is ?_)
      rw [ordG_end irr_int heq, if_neg (by lia), if_neg (by lia)]
    · refine hret _ _ _ (kH _ F₂.keep) (int_is ?_)
      rw [ordG_end irr_int heq, if_pos (by lia)]
    · refine hret _ _ _ (kH _ F₂.keep) (int_is ?_)
      rw [ordG_end irr_int heq, if_neg (by lia), if_pos (by lia)]
section
variable {α : Type} [DecidableEq α] {prog : Program} {A : Around} {E : Value → Shared → Prop} {s : Shared} {P : Value → α → Prop} {v u : Value} {x y : List α} {Q : Value → Shared → Prop}
theorem rcne_lists (hP : EqOk A.in1 s P) (hx : ListAt P s.heap v x) (hy : ListAt P s.heap u y) (hu : A.units < cLine) : RcNeAt A s v u (!decide (x = y)) := by
  obtain ⟨a, vs, rfl, l, p⟩ := hx
  obtain ⟨b, us, rfl, l', p'⟩ := hy
  have e1 := p.length
  have e2 := p'.length
  by_cases hl : x.length = y.length
  · have := RcNeAt.lists (A := A) (s := s) (e := fun j => decide (x[j]? = y[j]?)) l l' (by simp; lia) hu (fun j h1 h2 => by
      obtain ⟨x', ex, px⟩ := pair_at p h1
      obtain ⟨y', ey, py⟩ := pair_at p' h2
      have := hP _ _ _ _ px py
      rw [ex, ey]
      simpa using this)
    have hs : vs.toArray.size = x.length := by simp; lia
    rw [hs, range_all_eq hl] at this
    exact this
  · rw [decide_eq_false (fun e => hl (by rw [e]))]
    exact RcNeAt.lists_lengths l l' (by simp; lia) hu
theorem rc_lists (hP : EqOk A.in1 s P) (hx : ListAt P s.heap v x) (hy : ListAt P s.heap u y) (hu : A.units < cLine) : RcAt A s v u (decide (x = y)) := by
  obtain ⟨a, vs, rfl, l, p⟩ := hx
  obtain ⟨b, us, rfl, l', p'⟩ := hy
  have e1 := p.length
  have e2 := p'.length
  by_cases hl : x.length = y.length
  · have := RcAt.lists (A := A) (s := s) (e := fun j => decide (x[j]? = y[j]?)) l l' (by simp; lia) hu (fun j h1 h2 => by
      obtain ⟨x', ex, px⟩ := pair_at p h1
      obtain ⟨y', ey, py⟩ := pair_at p' h2
      have := hP _ _ _ _ px py
      rw [ex, ey]
      simpa using this)
    have hs : vs.toArray.size = x.length := by simp; lia
    rw [hs, range_all_eq hl] at this
    exact this
  · rw [decide_eq_false (fun e => hl (by rw [e]))]
    exact RcAt.lists_lengths l l' (by simp; lia) hu
theorem ne_lists (hP : EqOk A.in1 s P) (hx : ListAt P s.heap v x) (hy : ListAt P s.heap u y) (hu : A.units < cLine) (h : Q (.bool (!decide (x = y))) s) : wpAny (model prog w) A (compareOp .NotEq v u) Q E s :=
  rcne_lists hP hx hy hu prog w E Q h
theorem eq_lists (hP : EqOk A.in1 s P) (hx : ListAt P s.heap v x) (hy : ListAt P s.heap u y) (hu : A.units < cLine) (h : Q (.bool (decide (x = y))) s) : wpAny (model prog w) A (compareOp .Eq v u) Q E s :=
  rc_lists hP hx hy hu prog w E Q h
end
theorem orderR_call {s : Shared} {Q E : Value → Shared → Prop} {x y : List (List Int)} {v u : Value} (hx : RowAt s.heap v x) (hy : RowAt s.heap u y) (gx : GoodRow x) (gy : GoodRow y) (Y : Rdy w mean mg mb dp un gd outer s.heap) (hd : dp + 2 < recursionLimit) (hu : un + 30 < cLine)
    (hret : Ret s Q fun v _ => IntV v (ordG x y)) : wpAny (model PySem.Challenge.rw_ny0140_01.row.prog w) (Am dp un gd outer) (call (.ref 103) [v, u]) Q E s := by
  (have fill : (fun w : World => _root_.Mine.hd.heap_1_1 w.params) = (fun w : World => _root_.Mine.hd.heap_1_1 w.params) ∧ PySem.Challenge.rw_ny0140_01.row.prog = PySem.Challenge.rw_ny0140_01.row.prog := (by k_fill; exact ⟨rfl, rfl⟩); clear fill)
  have lx := gx.len
  have ly := gy.len
  obtain ⟨a, vs, rfl, hl, hp⟩ := hx
  obtain ⟨b, us, rfl, hl2, hp2⟩ := hy
  have lv : vs.toArray.size = x.length := by rw [List.size_toArray, hp.length]
  have lu : us.toArray.size = y.length := by rw [List.size_toArray, hp2.length]
  k_dflt ((refine wpAny_call ?_; refine' enter ?kY ?k6 ?k7 ?k8 ?k9 ?kB ?_ ?c2 ?c3 ?c4 ?c5; (case kY => assumption); (case k6 => k_is); (case k7 => k_is); (case k8 => lia); (case k9 => first | exact BindsTo.of_eq rfl | exact binds_K (Rdy.K (by assumption)) rfl (by k_is) rfl rfl rfl); (case c5 => exact rfl); (case kB => exact locs rfl); (case c2 => decide); (case c3 => exact rfl); (case c4 => exact rfl); k_whole; intro base g L' h' kG kH F' N' B' X' T'; (try dsimp only); (try k_fold)))
  have hl' := isList_keeps kG hl
  have hl2' := isList_keeps kG hl2
  k_steps
  (with_reducible rename Fr _ _ _ _ => F₁)
  (with_reducible rename News _ _ _ _ => N₁)
  (with_reducible rename IsRange _ _ _ _ _ _ _ _ => hr)
  refine Halt.mk (iter_range (n := min x.length y.length) (fun i m nx => nx = [] ∧ (∀ z, z ≠ Str.ofString "k" → m z = (fun y => List.lookup y [(Str.ofString "other", Value.ref b), (Str.ofString "one", Value.ref a)]) z) ∧ ∀ j, j < i → x[j]? = y[j]?) rfl hr ?_ ?_ F₁ N₁ ⟨rfl, fun z _ => rfl, fun _ h => absurd h (Nat.not_lt_zero _)⟩ ?_ ?_)
  · lia
  · lia
  · rintro i t m₁ nx h₂ tk own hi _ hoff ⟨rfl, hm, heq⟩ F₂ N₂
    obtain ⟨xi, exi⟩ : ∃ xi, x[i]? = some xi := ⟨_, List.getElem?_eq_getElem (by lia)⟩
    obtain ⟨yi, eyi⟩ : ∃ yi, y[i]? = some yi := ⟨_, List.getElem?_eq_getElem (by lia)⟩
    obtain ⟨v, ev, hv⟩ := Paired.get' hp exi
    obtain ⟨u, eu, hu'⟩ := Paired.get' hp2 eyi
    have em : (fun y => if y = Str.ofString "k" then some (Value.int (0 + (i : Int)) t) else m₁ y) = (fun y => if y = Str.ofString "k" then some (Value.int (i : Int) t) else (fun y => List.lookup y [(Str.ofString "other", Value.ref b), (Str.ofString "one", Value.ref a)]) y) := by
      funext z
      by_cases h : z = Str.ofString "k"
      · simp [h]
      · simp only [if_neg h]; exact hm z h
    rw [em] at F₂
    clear F₁ N₁ hr
    have ev' : vs.toArray[i]? = some v := by simpa using ev
    have eu' : us.toArray[i]? = some u := by simpa using eu
    have hv₂ := (hv.keeps kG).keeps F₂.keep
    have hu₂ := (hu'.keeps kG).keeps F₂.keep
    k_steps
    refine ne_lists EqOk.ints hv₂ hu₂ (by show un + 3 < cLine; lia) ?_
    obtain ⟨va, vvs, rfl, hva, hpa⟩ := id hv₂
    obtain ⟨ua, uvs, rfl, hua, hpb⟩ := id hu₂
    k_steps
    rotate_left
    · refine PySem.IsiPair.isList_list hva (fun _ _ e => e) ?_
      k_steps
      refine Halt.mk (orderI_call hv₂ hu₂ (gx.ins _ (List.mem_of_getElem? exi)).len (gy.ins _ (List.mem_of_getElem? eyi)).len (Rdy.inner B' X' T' F₂ rfl) (by show dp + 1 + 1 < recursionLimit; lia) (by show un + 3 + 20 < cLine; lia) ?_)
      rintro v₃ h₃ tk₃ st ⟨t₃, rfl⟩
      have F₃ := fr_on st F₂
      k_steps
      refine hret _ _ _ (kH _ F₃.keep) (int_is ?_)
      rw [ordG_diff irr_ints heq exi eyi (by assumption)]; rfl
    · refine InvEndN.intro F₂ N₂ ⟨rfl, fun z hz => ?_, fun j hj => ?_⟩ rfl (fun _ h => nomatch h) (fun p hp => hp)
      · simp only [if_neg hz]
      · rcases Nat.lt_succ_iff_lt_or_eq.mp hj with h | rfl
        · exact heq j h
        · rw [exi, eyi]
          rename_i hq
          simpa using hq
  · intro m₁ nx h₂ tk ⟨e, hm, heq⟩ F₂ N₂
    have em : m₁ = (fun y => if y = Str.ofString "k" then m₁ y else (fun y => List.lookup y [(Str.ofString "other", Value.ref b), (Str.ofString "one", Value.ref a)]) y) := by
      funext z
      by_cases h : z = Str.ofString "k"
      · simp [h]
      · simp only [if_neg h]; exact hm z h
    rw [em] at F₂
    clear F₁ N₁ hr
    k_steps
    · refine hret _ _ _ (kH _ F₂.keep) (int_is ?_)
      rw [ordG_end irr_ints heq, if_neg (by lia), if_neg (by lia)]
    · refine hret _ _ _ (kH _ F₂.keep) (int_is ?_)
      rw [ordG_end irr_ints heq, if_pos (by lia)]
    · refine hret _ _ _ (kH _ F₂.keep) (int_is ?_)
      rw [ordG_end irr_ints heq, if_neg (by lia), if_pos (by lia)]
end
theorem fl10 : True := by w_top off; first | walk1 | trivial
section
open PySem PySem.W PyProof.Rows PySem.Calls PySem.Spec PySem.SeqAt
set_option maxHeartbeats 4000000
variable {w : World} {mean : ExcName → Option Value} {mg mb : Str → Option Value} {dp un : Nat} {gd : Option (List Code)} {outer : List Env}
local macro_rules | `(tactic| walk_at $k:str) => if ["eval ListComp", "call ref", "exec For", "pyIter ref"].contains k.getString then `(tactic| walk_at "HALT") else Lean.Macro.throwUnsupported
section
variable {prog : Program} {A : Around} {E : Value → Shared → Prop} {s : Shared} {env : Env} {h₀ : Heap} {x : Str} {body : List Stmt} {Q : Flow → Shared → Prop}
inductive GrowEnd (h₀ : Heap) (L : Addr) (J : (Str → Option Value) → List (Addr × Obj) → Prop) (own : List (Addr × Obj)) (s₁ s₂ : Shared) : Prop
  | mk (h' : Heap) (tk : Nat) (m' : Str → Option Value) (nx : List (Addr × Obj)) : s₂ = { s₁ with heap := h', toks := tk } → Fr h₀ L h' m' → News h₀ L h' (nx ++ own) → OwnOff own (nx.map (·.1)) → J m' nx → GrowEnd h₀ L J own s₁ s₂
noncomputable def GrowPost (h₀ : Heap) (L : Addr) (J : (Str → Option Value) → List (Addr × Obj) → Prop) (own : List (Addr × Obj)) (s₁ : Shared) (Q : Flow → Shared → Prop) (f : Flow) (s₂ : Shared) : Prop :=
  match f with
  | .ret v => Q (.ret v) s₂
  | .brk => Q .next s₂
  | _ => GrowEnd h₀ L J own s₁ s₂
theorem iter_grow {D : Addr} {items : Array Value} {n : Nat} {m₀ : Str → Option Value} {news : List (Addr × Obj)} (J : Nat → (Str → Option Value) → List (Addr × Obj) → Prop)
    (hh : A.handled = none) (hD : s.heap.get? D = some (listOf items n)) (hDn : h₀.get? D = none) (hDL : D ≠ env.locals) (F : Fr h₀ env.locals s.heap m₀) (N : News h₀ env.locals s.heap news) (hnD : ∀ p ∈ news, p.1 ≠ D) (hj : J 0 m₀ news)
    (turn : ∀ i v m₁ nx h tk own, items[i]? = some v → OwnOff own (nx.map (·.1)) → J i m₁ nx → Fr h₀ env.locals h (fun y => if y = x then some v else m₁ y) → News h₀ env.locals h (nx ++ own) →
      wpAny (model prog w) A (execs body env) (GrowPost h₀ env.locals (J (i + 1)) own { s with heap := h, toks := tk } Q) E { s with heap := h, toks := tk })
    (done : ∀ m₁ nx h tk, J items.size m₁ nx → Fr h₀ env.locals h m₁ → News h₀ env.locals h nx → Q .next { s with heap := h, toks := tk }) :
    wpAny (model prog w) A (pyIter (.ref D)) (fun it s₂ => LoopAtV prog w A h₀ env x body Q E it s₂) E s := by
  have hls : s.heap.IsList D items := ⟨_, hD, rfl, n, rfl⟩
  have hlt := Heap.lt_size hD
  refine wpAny_pyIter_list hls ?_
  let fp : List Addr := [s.heap.objs.size, D]
  let J' : Nat → (Str → Option Value) → List (Addr × Obj) → Prop := fun i m₁ nx => (∀ p ∈ nx, p.1 ∉ fp) ∧ J i m₁ nx
  refine ⟨_, fp, _, _, _, _, m₀, news, J', rfl, Walks.list (prog := prog) (w := w) hh s.heap.objs.size D (Nat.ne_of_lt hlt) items, ?_, ?_, ?_, ⟨⟨_, Heap.get?_push_size _ rfl, rfl, rfl⟩, hls.at fun o e => Heap.get?_push_of_some _ e⟩, F.push _, (fun p hp => ⟨Heap.get?_push_of_some _ (N p hp).1, (N p hp).2⟩), ⟨?_, hj⟩, ?_, ?_⟩
  · intro hm
    rcases List.mem_cons.mp hm with e | hm
    · exact absurd F.ns.lt (e ▸ Nat.lt_irrefl _)
    · exact hDL (List.mem_singleton.mp hm).symm
  · intro b hb
    rw [List.mem_singleton.mp hb]
    exact next_is_new F
  · intro p hp hI
    exact absurd (Heap.lt_size (N p hp).1) ((List.mem_singleton.mp hI) ▸ Nat.lt_irrefl _)
  · intro q hq hm
    rcases List.mem_cons.mp hm with e | hm
    · exact absurd (Heap.lt_size (N q hq).1) (e ▸ Nat.lt_irrefl _)
    · exact hnD q hq (List.mem_singleton.mp hm)
  · rintro i v m₁ news₁ s₁ own ⟨hh', tk', rfl⟩ hin hP ⟨hfp, hJ⟩ hoff hown _ hin' hst F₁ N₁
    have hsep : OwnOff own (news₁.map (·.1)) := by
      intro p hp b hb e
      obtain ⟨q, hq, rfl⟩ := List.mem_map.mp hb
      exact hfp q hq (e ▸ hown p hp)
    have N₂ : News h₀ env.locals hh' (news₁ ++ own) := fun p hp => N₁ p ((List.mem_append.mp hp).elim (fun h => List.mem_append.mpr (.inr h)) fun h => List.mem_append.mpr (.inl h))
    refine wpAny_mono (turn i v m₁ news₁ hh' tk' own hP hsep hJ F₁ N₂) (fun f s₂ p => ?_) fun _ _ e => e
    have off : ∀ nx : List (Addr × Obj), OwnOff own (nx.map (·.1)) → ∀ p ∈ nx, p.1 ∉ fp := fun nx ho p hp hm => by
      have alive : ∃ o, (p.1, o) ∈ own := by
        rcases List.mem_cons.mp hm with e | hm'
        · obtain ⟨o, eo, _⟩ := hst.1
          rw [← e] at eo
          refine ⟨o, hin' p.1 hm ?_ o eo⟩
          rw [e]; exact next_is_new F
        · have e := List.mem_singleton.mp hm'
          obtain ⟨o, eo, _⟩ := hst.2
          rw [← e] at eo
          refine ⟨o, hin' p.1 hm ?_ o eo⟩
          rw [e]; exact hDn
      obtain ⟨o, ho'⟩ := alive
      exact ho _ ho' p.1 (List.mem_map.mpr ⟨p, hp, rfl⟩) rfl
    have fin : GrowEnd h₀ env.locals (J (i + 1)) own { s with heap := hh', toks := tk' } s₂ → LoopStepU h₀ env.locals [s.heap.objs.size] own (J' (i + 1)) { s with heap := hh', toks := tk' } .next s₂ := by
      rintro ⟨h', tk, m', nx, e, F', N', hn, hm⟩
      exact ⟨rfl, h', tk, m', nx, e, F', fun p hp => N' p ((List.mem_append.mp hp).elim (fun h => List.mem_append.mpr (.inr h)) fun h => List.mem_append.mpr (.inl h)), fun p hp hq => off nx hn p hp (by rw [List.mem_singleton.mp hq]; exact .head _), off nx hn, hm⟩
    cases f with
    | ret v => exact .ret p
    | brk => exact .brk p
    | next => exact .next (fin p)
    | cont => exact .cont (fin p)
  · rintro h' tk m' news' F' N' _ ⟨_, hJ⟩
    exact done m' news' h' tk hJ F' N'
theorem item_neg1 {value slice : Expr} {l : Addr} {items : List Value} {x : Value} {t : Tok} {Q : Value → Shared → Prop} (hl : s.heap.IsList l (items ++ [x]).toArray) (hi : items.length ≤ 1000000) (h : Q x s)
    (hs : subscripted slice false (.ref l) (.int (-1) t) = operate [.ref l, .int (-1) t] (getItem (.ref l) (.int (-1) t)) := by with_unfolding_all rfl) :
    wpAny (model prog w) A (subscriptTail value slice (.ref l) (.int (-1) t)) Q E s := by
  refine subscriptTail_builtinR (x := x) hl.typeIs slot_list_getitem.lookup (wpAny_getItem_list_neg hl (by lia) ?_ (by lia) (x := x) ?_ ⟨rfl, h⟩) hs
  · simp; lia
  · have : ((-1 : Int) + ((items ++ [x]).toArray.size : Nat)).toNat = items.length := by simp; lia
    rw [this]; simp
end
/-! the shelf in a ledger -/
noncomputable def InnerIn (rest : List (Addr × Obj)) (v : Value) (inner : List Int) : Prop := ∃ b n ws, v = .ref b ∧ (b, listOf (List.toArray ws) n) ∈ rest ∧ Paired IntV ws inner
noncomputable def RowIn (rest : List (Addr × Obj)) (v : Value) (row : List (List Int)) : Prop := ∃ b n ws, v = .ref b ∧ (b, listOf (List.toArray ws) n) ∈ rest ∧ Paired (InnerIn rest) ws row
theorem InnerIn.mono {r r' : List (Addr × Obj)} (k : ∀ p ∈ r, p ∈ r') {v : Value} {x : List Int} (h : InnerIn r v x) : InnerIn r' v x := let ⟨b, n, ws, e, m, p⟩ := h; ⟨b, n, ws, e, k _ m, p⟩
theorem RowIn.mono {r r' : List (Addr × Obj)} (k : ∀ p ∈ r, p ∈ r') {v : Value} {x : List (List Int)} (h : RowIn r v x) : RowIn r' v x := let ⟨b, n, ws, e, m, p⟩ := h; ⟨b, n, ws, e, k _ m, Paired.imp p fun _ _ _ _ q => q.mono k⟩
theorem InnerIn.at {h₀ h : Heap} {L : Addr} {r : List (Addr × Obj)} (N : News h₀ L h r) {v : Value} {x : List Int} (i : InnerIn r v x) : InnerAt h v x := let ⟨b, n, ws, e, m, p⟩ := i; ⟨b, ws, e, ⟨_, (N _ m).1, rfl, n, rfl⟩, p⟩
theorem RowIn.at {h₀ h : Heap} {L : Addr} {r : List (Addr × Obj)} (N : News h₀ L h r) {v : Value} {x : List (List Int)} (i : RowIn r v x) : RowAt h v x := let ⟨b, n, ws, e, m, p⟩ := i; ⟨b, ws, e, ⟨_, (N _ m).1, rfl, n, rfl⟩, Paired.imp p fun _ _ _ _ q => q.at N⟩
noncomputable def stepP (st : List (List (List Int)) × List (List Int)) (x : Int) : List (List (List Int)) × List (List Int) :=
  if x % 4 = 0 then (st.1 ++ [st.2], [])
  else if x % 4 = 1 then (st.1, st.2 ++ [[]])
  else (st.1, match st.2.getLast? with | none => [[cutF (x / 4)]] | some l => st.2.dropLast ++ [l ++ [cutF (x / 4)]])
noncomputable def scriptOf (x : List Int) : List Int := x.take 12 ++ [30, 0, 30, 1, 0, -26, 50, 0, 0, 31]
noncomputable def shelfP (x : List Int) : List (List (List Int)) × List (List Int) := (scriptOf x).foldl stepP ([], [])
noncomputable def shelfOf (x : List Int) : List (List (List Int)) := (shelfP x).1 ++ [(shelfP x).2]
inductive ShLed (S : Addr) : List (List (List Int)) × List (List Int) → List (Addr × Obj) → Prop
  | fresh {done pre R nS nR rest} : Paired (RowIn rest) pre done → S ≠ R → OwnOff rest [S, R] → ShLed S (done, []) ((S, listOf (pre ++ [Value.ref R]).toArray nS) :: (R, listOf (List.toArray []) nR) :: rest)
  | under {done pre R nS nR rest I nI rpre vs cur last} : Paired (RowIn rest) pre done → Paired (InnerIn rest) rpre cur → Paired IntV vs last → S ≠ R → S ≠ I → R ≠ I → OwnOff rest [S, R, I] →
      ShLed S (done, cur ++ [last]) ((S, listOf (pre ++ [Value.ref R]).toArray nS) :: (R, listOf (rpre ++ [Value.ref I]).toArray nR) :: (I, listOf vs.toArray nI) :: rest)
theorem ShLed.at {h₀ h : Heap} {L S : Addr} {st : List (List (List Int)) × List (List Int)} {nx : List (Addr × Obj)} (l : ShLed S st nx) (N : News h₀ L h nx) : ShelfAt h (.ref S) (st.1 ++ [st.2]) := by
  cases l with
  | @fresh done pre R nS nR rest p1 h1 h2 =>
    refine ⟨S, _, rfl, ⟨_, (N _ (.head _)).1, rfl, nS, rfl⟩, Paired.append (Paired.imp p1 fun v x _ _ q => (q.mono fun p hp => .tail _ (.tail _ hp)).at N) (.cons ?_ .nil)⟩
    exact ⟨R, [], rfl, ⟨_, (N _ (.tail _ (.head _))).1, rfl, nR, rfl⟩, .nil⟩
  | @under done pre R nS nR rest I nI rpre vs cur last p1 p2 p3 h1 h2 h3 h4 =>
    refine ⟨S, _, rfl, ⟨_, (N _ (.head _)).1, rfl, nS, rfl⟩, Paired.append (Paired.imp p1 fun v x _ _ q => (q.mono fun p hp => .tail _ (.tail _ (.tail _ hp))).at N) (.cons ?_ .nil)⟩
    refine ⟨R, _, rfl, ⟨_, (N _ (.tail _ (.head _))).1, rfl, nR, rfl⟩, Paired.append (Paired.imp p2 fun v x _ _ q => (q.mono fun p hp => .tail _ (.tail _ (.tail _ hp))).at N) (.cons ?_ .nil)⟩
    exact ⟨I, vs, rfl, ⟨_, (N _ (.tail _ (.tail _ (.head _)))).1, rfl, nI, rfl⟩, p3⟩
structure SmallI (k : Nat) (l : List Int) : Prop where
  len : l.length ≤ k
  num : ∀ n ∈ l, n.natAbs < 10 ^ 15
structure SmallR (k : Nat) (r : List (List Int)) : Prop where
  len : r.length ≤ k
  ins : ∀ l ∈ r, SmallI k l
structure Small (k : Nat) (st : List (List (List Int)) × List (List Int)) : Prop where
  len : st.1.length ≤ k
  done : ∀ r ∈ st.1, SmallR k r
  cur : SmallR k st.2
theorem SmallI.up {k : Nat} {l : List Int} (h : SmallI k l) : SmallI (k + 1) l := ⟨Nat.le_succ_of_le h.len, h.num⟩
theorem SmallR.up {k : Nat} {l : List (List Int)} (h : SmallR k l) : SmallR (k + 1) l := ⟨Nat.le_succ_of_le h.len, fun i hi => (h.ins i hi).up⟩
theorem cutF_small (x : Int) : (cutF x).natAbs < 10 ^ 15 := by
  unfold cutF
  have h1 : 0 ≤ (x.natAbs : Int) % 10 ^ 15 := Int.emod_nonneg _ (by decide)
  have h2 : (x.natAbs : Int) % 10 ^ 15 < 10 ^ 15 := Int.emod_lt_of_pos _ (by decide)
  split <;> lia
theorem Small.step {k : Nat} {st : List (List (List Int)) × List (List Int)} (h : Small k st) (x : Int) : Small (k + 1) (stepP st x) := by
  obtain ⟨done, cur⟩ := st
  unfold stepP
  split
  · refine ⟨?_, ?_, ⟨by simp, by simp⟩⟩
    · have := h.len; simp only [List.length_append, List.length_singleton] at this ⊢; lia
    · intro r hr
      rcases List.mem_append.mp hr with hr | hr
      · exact (h.done r hr).up
      · rw [List.mem_singleton.mp hr]; exact h.cur.up
  · split
    · refine ⟨Nat.le_succ_of_le h.len, fun r hr => (h.done r hr).up, ⟨?_, ?_⟩⟩
      · have := h.cur.len; simp only [List.length_append, List.length_singleton] at this ⊢; lia
      · intro l hl
        rcases List.mem_append.mp hl with hl | hl
        · exact (h.cur.ins l hl).up
        · rw [List.mem_singleton.mp hl]; exact ⟨by simp, by simp⟩
    · refine ⟨Nat.le_succ_of_le h.len, fun r hr => (h.done r hr).up, ?_⟩
      dsimp only
      cases e : cur.getLast? with
      | none =>
        refine ⟨by simp, fun l hl => ?_⟩
        rw [List.mem_singleton.mp hl]
        exact ⟨by simp, fun n hn => by rw [List.mem_singleton.mp hn]; exact cutF_small _⟩
      | some l =>
        have hl : l ∈ cur := List.mem_of_getLast? e
        have hsz := h.cur.len
        refine ⟨by simp only [List.length_append, List.length_singleton, List.length_dropLast]; dsimp only at hsz; lia, fun l' hl' => ?_⟩
        rcases List.mem_append.mp hl' with hl' | hl'
        · exact (h.cur.ins l' (List.dropLast_subset _ hl')).up
        · rw [List.mem_singleton.mp hl']
          have := h.cur.ins l hl
          refine ⟨by have := this.len; simp only [List.length_append, List.length_singleton]; lia, fun n hn => ?_⟩
          rcases List.mem_append.mp hn with hn | hn
          · exact this.num n hn
          · rw [List.mem_singleton.mp hn]; exact cutF_small _
theorem small_fold : ∀ (l : List Int) (k : Nat) (st), Small k st → Small (k + l.length) (l.foldl stepP st)
  | [], _, _, h => h
  | x :: l, k, st, h => by
    have := small_fold l (k + 1) (stepP st x) (h.step x)
    simp only [List.foldl_cons, List.length_cons]
    rw [show k + (l.length + 1) = k + 1 + l.length from by lia]
    exact this
theorem small_zero : Small 0 ([], []) := ⟨Nat.le_refl _, fun _ h => (nomatch h), ⟨Nat.le_refl _, fun _ h => (nomatch h)⟩⟩
theorem off_new {own nx nx' : List (Addr × Obj)} {N : Addr} (h : OwnOff own (nx.map (·.1))) (l1 : ∀ p ∈ nx ++ own, p.1 < N) (hs : ∀ q ∈ nx'.map (·.1), q = N ∨ q ∈ nx.map (·.1)) : OwnOff own (nx'.map (·.1)) := by
  intro p hp b hb e
  rcases hs b hb with rfl | hb
  · exact absurd (l1 p (List.mem_append.mpr (.inr hp))) (e ▸ Nat.lt_irrefl _)
  · exact h p hp b hb e
theorem allLt_all {d : Nat} {l : List (Addr × Obj)} (h : AllLt d l) : ∀ p ∈ l, @LT.lt Nat _ p.1 d := by
  induction l with
  | nil => exact fun _ hp => absurd hp List.not_mem_nil
  | cons q r ih =>
    intro p hp
    rcases List.mem_cons.mp hp with e | hp
    · rw [e]; exact h.1
    · exact ih h.2 p hp
theorem fmod4 (x : Int) : x.fmod 4 = x % 4 := Int.fmod_eq_emod_of_nonneg _ (by decide)
theorem fdiv4 (x : Int) : x.fdiv 4 = x / 4 := Int.fdiv_eq_ediv_of_nonneg _ (by decide)
theorem grow_mk {h₀ h' : Heap} {L : Addr} {J : (Str → Option Value) → List (Addr × Obj) → Prop} {own : List (Addr × Obj)} {s₁ : Shared} {tk : Nat} {m' : Str → Option Value} (nx : List (Addr × Obj)) (F : Fr h₀ L h' m') (N : News h₀ L h' (nx ++ own)) (ho : OwnOff own (nx.map (·.1))) (hJ : J m' nx) :
    GrowEnd h₀ L J own s₁ { s₁ with heap := h', toks := tk } := ⟨h', tk, m', nx, rfl, F, N, ho, hJ⟩
local macro_rules | `(tactic| walk_at $k:str) => if ["subscriptTail", "call builtin:list.append", "compareOp Eq ref ref"].contains k.getString then `(tactic| walk_at "HALT") else Lean.Macro.throwUnsupported
theorem rc_any_nil {prog : Program} {A : Around} {E : Value → Shared → Prop} {s : Shared} {R N : Addr} {pre : List Value} {v : Value} {Q : Value → Shared → Prop} (hR : s.heap.IsList R (pre ++ [v]).toArray) (hN : s.heap.IsList N (List.toArray [])) (hu : A.units < cLine) (h : Q (.bool false) s) :
    wpAny (model prog w) A (compareOp .Eq (.ref R) (.ref N)) Q E s :=
  RcAt.lists_lengths hR hN (by simp) hu prog w E Q h
theorem in_sw {α : Type} {p a b : α} {l r : List α} (h : p ∈ (a :: b :: l) ++ r) : p ∈ b :: a :: l.append r := by
  rcases List.mem_cons.mp h with h | h
  · exact .tail _ (h ▸ .head _)
  · exact (List.mem_cons.mp h).elim (fun h => h ▸ .head _) fun h => .tail _ (.tail _ h)
theorem in_rot {α : Type} {p a b c : α} {l r : List α} (h : p ∈ (a :: b :: c :: l) ++ r) : p ∈ c :: a :: b :: l.append r := by
  rcases List.mem_cons.mp h with h | h
  · exact .tail _ (h ▸ .head _)
  · exact (List.mem_cons.mp (in_sw h)).elim (fun h => h ▸ .head _) fun h => .tail _ (.tail _ h)
theorem in_rotx {α : Type} {p a b c x : α} {l r : List α} (h : p ∈ (a :: b :: c :: l) ++ r) : p ∈ c :: x :: a :: b :: l.append r :=
  (List.mem_cons.mp (in_rot h)).elim (fun h => h ▸ .head _) fun h => .tail _ (.tail _ h)
theorem off_one {α : Type} {q s n : α} {m : List α} (h : q ∈ s :: n :: m) : q = n ∨ q ∈ s :: m := List.mem_cons.mp (in_sw (r := []) ((List.append_nil _).symm ▸ h)) |>.imp id fun h => List.append_nil m ▸ h
theorem off_two {α : Type} {q s r n : α} {m : List α} (h : q ∈ s :: r :: n :: m) : q = n ∨ q ∈ s :: r :: m := List.mem_cons.mp (in_rot (r := []) ((List.append_nil _).symm ▸ h)) |>.imp id fun h => List.append_nil m ▸ h
theorem shelf_call {s : Shared} {Q E : Value → Shared → Prop} {x : List Int} {a : Addr} {vs : List Value} (hl : s.heap.IsList a vs.toArray) (hi : IntsAre vs x) (lx : vs.length ≤ 1000000) (Y : Rdy w mean mg mb dp un gd outer s.heap) (hd : dp + 2 < recursionLimit) (hu : un + 30 < cLine)
    (hret : Ret s Q fun v h' => ShelfAt h' v (shelfOf x)) : wpAny (model PySem.Challenge.rw_ny0140_01.row.prog w) (Am dp un gd outer) (call (.ref 79) [.ref a]) Q E s := by
  (have fill : (fun w : World => _root_.Mine.hd.heap_1_1 w.params) = (fun w : World => _root_.Mine.hd.heap_1_1 w.params) ∧ PySem.Challenge.rw_ny0140_01.row.prog = PySem.Challenge.rw_ny0140_01.row.prog := (by k_fill; exact ⟨rfl, rfl⟩); clear fill)
  k_dflt ((refine wpAny_call ?_; refine' enter ?kY ?k6 ?k7 ?k8 ?k9 ?kB ?_ ?c2 ?c3 ?c4 ?c5; (case kY => assumption); (case k6 => k_is); (case k7 => k_is); (case k8 => lia); (case k9 => first | exact BindsTo.of_eq rfl | exact binds_K (Rdy.K (by assumption)) rfl (by k_is) rfl rfl rfl); (case c5 => exact rfl); (case kB => exact locs rfl); (case c2 => decide); (case c3 => exact rfl); (case c4 => exact rfl); k_whole; intro base g L' h' kG kH F' N' B' X' T'; (try dsimp only); (try k_fold)))
  have hl' := isList_keeps kG hl
  k_steps
  refine Halt.mk (for_rule g rfl rfl ?_)
  k_steps
  (with_reducible rename Fr _ _ _ _ => F₁)
  (with_reducible rename News _ _ _ _ => N₁)
  (with_reducible rename IntsAre _ _ => hI)
  rename_i R _ _ S _ lRS _ _ _ _ _ _ _ _ _ _ _ D ws _ lD
  have lws : ws.toArray.size = (scriptOf x).length := by rw [List.size_toArray, hI.length]; rfl
  have l22 : (scriptOf x).length ≤ 22 := by unfold scriptOf; rw [List.length_append, List.length_take]; show _ + 10 ≤ 22; lia
  have pI := Paired.of_ints hI
  refine Halt.mk (iter_grow (news := [(S, listOf ([] ++ [Value.ref R]).toArray 0), (R, listOf (List.toArray []) 0)]) (fun i m nx => (∀ z, z ≠ Str.ofString "x" → m z = (fun y => if y = Str.ofString "shelf" then some (Value.ref S) else List.lookup y [(Str.ofString "script", Value.ref a)]) z) ∧ ShLed S (((scriptOf x).take i).foldl stepP ([], [])) nx) rfl (N₁ _ (.head _)).1 (N₁ _ (.head _)).2.2 (N₁ _ (.head _)).2.1 F₁ ?_ ?_ ⟨?_, ?_⟩ ?_ ?_)
  · intro p hp
    rcases List.mem_cons.mp hp with rfl | hp
    · exact N₁ _ (by simp)
    · rw [List.mem_singleton.mp hp]; exact N₁ _ (by simp)
  · intro p hp
    rcases List.mem_cons.mp hp with rfl | hp
    · exact Nat.ne_of_lt lD.2.2.1
    · rw [List.mem_singleton.mp hp]; exact Nat.ne_of_lt lD.2.2.2
  · intro z _; rfl
  · exact ShLed.fresh .nil (Ne.symm (Nat.ne_of_lt lRS)) (fun _ h => nomatch h)
  · rintro i v m₁ nx h₂ tk own hi hoff ⟨hm, hS⟩ F₂ N₂
    obtain ⟨xi, exi, t, rfl⟩ := Paired.get pI (by simpa using hi)
    have em : (fun y => if y = Str.ofString "x" then some (Value.int xi t) else m₁ y) = (fun y => if y = Str.ofString "x" then some (Value.int xi t) else if y = Str.ofString "shelf" then some (Value.ref S) else List.lookup y [(Str.ofString "script", Value.ref a)]) := by
      funext z
      by_cases h : z = Str.ofString "x"
      · simp [h]
      · simp only [if_neg h]; exact hm z h
    rw [em] at F₂
    clear F₁ N₁
    have hst := small_fold ((scriptOf x).take i) 0 _ small_zero
    have hil : 0 + ((scriptOf x).take i).length ≤ 22 := by rw [List.length_take]; lia
    have hnext : (((scriptOf x).take (i + 1)).foldl stepP ([], [])) = stepP (((scriptOf x).take i).foldl stepP ([], [])) xi := by
      rw [List.take_add_one, show (scriptOf x)[i]? = some xi from exi]; simp
    rw [hnext]
    clear hnext
    generalize ((scriptOf x).take i).foldl stepP ([], []) = st at hS hst ⊢
    generalize 0 + ((scriptOf x).take i).length = kk at hst hil
    cases hS with
    | @fresh done pre R nS nR rest p1 h1 h2 =>
      have lpre := p1.length
      have ldone := hst.len
      have hpS : ∀ p ∈ rest ++ own, p.1 ≠ S := fun p hp => (List.mem_append.mp hp).elim (fun h => h2 p h S (by simp)) fun h => hoff p h S (by simp)
      have hpR : ∀ p ∈ rest ++ own, p.1 ≠ R := fun p hp => (List.mem_append.mp hp).elim (fun h => h2 p h R (by simp)) fun h => hoff p h R (by simp)
      k_steps
      · rename_i a4 N h₃ F₃ N₃ l1
        have eS : N ≠ S := Ne.symm (Nat.ne_of_lt (l1 _ (.head _)))
        have eR : N ≠ R := Ne.symm (Nat.ne_of_lt (l1 _ (.tail _ (.head _))))
        refine Halt.mk (append_K F₃ N₃ (Upd.tail eS (Upd.head (fun p hp => ?_))) ?_ ?_)
        · rcases List.mem_cons.mp hp with rfl | hp
          · exact Ne.symm h1
          · exact hpS p hp
        · intro h₄ F₄ N₄
          rw [List.push_toArray] at N₄
          clear F₃ N₃
          k_steps
          refine grow_mk ((S, listOf ((pre ++ [Value.ref R]) ++ [Value.ref N]).toArray (nS + 1)) :: (N, listOf (List.toArray []) 0) :: (R, listOf (List.toArray []) nR) :: rest) F₄ (fun p hp => N₄ p ?_) (off_new hoff l1 ?_) ⟨fun z hz => by simp only [if_neg hz], ?_⟩
          · exact in_sw hp
          · exact fun q hq => off_one hq
          · rw [show stepP (done, []) xi = (done ++ [[]], []) from by unfold stepP; rw [if_pos (by rw [← fmod4]; assumption)]]
            refine ShLed.fresh (Paired.append (Paired.imp p1 fun v x _ _ q => q.mono fun p hp => .tail _ hp) (.cons ⟨R, _, [], rfl, .head _, .nil⟩ .nil)) (Ne.symm eS) ?_
            intro p hp b hb e
            rcases List.mem_cons.mp hb with rfl | hb
            · rcases List.mem_cons.mp hp with rfl | hp
              · exact h1 e.symm
              · exact h2 p hp _ (by simp) e
            · rw [List.mem_singleton.mp hb] at e
              exact absurd (l1 p (.tail _ (List.mem_cons.mpr ((List.mem_cons.mp hp).imp id fun h => List.mem_append.mpr (.inl h))))) (e ▸ Nat.lt_irrefl _)
        · rw [List.size_toArray, List.length_append, List.length_singleton, sizeLine_eq]; dsimp only at ldone; lia
      · refine Halt.mk (item_neg1 (News.isList N₂ (.head _)) (by dsimp only at ldone; lia) ?_)
        k_steps
        rename_i N h₃ F₃ N₃ l1
        have eS : N ≠ S := Ne.symm (Nat.ne_of_lt (l1 _ (.head _)))
        have eR : N ≠ R := Ne.symm (Nat.ne_of_lt (l1 _ (.tail _ (.head _))))
        refine Halt.mk (append_K F₃ N₃ (Upd.tail eR (Upd.tail h1 (Upd.head hpR))) ?_ (Nat.zero_le _))
        intro h₄ F₄ N₄
        rw [List.push_toArray] at N₄
        clear F₃ N₃
        k_steps
        refine grow_mk ((S, listOf (pre ++ [Value.ref R]).toArray nS) :: (R, listOf ([] ++ [Value.ref N]).toArray (nR + 1)) :: (N, listOf (List.toArray []) 0) :: rest) F₄ (fun p hp => N₄ p ?_) (off_new hoff l1 ?_) ⟨fun z hz => by simp only [if_neg hz], ?_⟩
        · exact in_rot hp
        · exact fun q hq => off_two hq
        · rw [show stepP (done, []) xi = (done, [] ++ [[]]) from by unfold stepP; rw [if_neg (by rw [← fmod4]; assumption), if_pos (by rw [← fmod4]; assumption)]]
          refine ShLed.under p1 .nil .nil h1 (Ne.symm eS) (Ne.symm eR) ?_
          intro p hp b hb e
          simp only [List.mem_cons, List.not_mem_nil, or_false] at hb
          rcases hb with rfl | rfl | rfl
          · exact h2 p hp _ (by simp) e
          · exact h2 p hp _ (by simp) e
          · exact absurd (l1 p (.tail _ (.tail _ (List.mem_append.mpr (.inl hp))))) (e ▸ Nat.lt_irrefl _)
      · refine Halt.mk (item_neg1 (News.isList N₂ (.head _)) (by dsimp only at ldone; lia) ?_)
        k_steps
        rename_i N0 h₃ F₃ N₃ l0
        refine Halt.mk (eq_lists (P := IntV) (x := []) (y := []) EqOk.ints ⟨R, [], rfl, News.isList N₃ (.tail _ (.tail _ (.head _))), .nil⟩ ⟨N0, [], rfl, News.isList N₃ (.head _), .nil⟩ (by show un + 3 < cLine; lia) ?_)
        rw [decide_eq_true rfl]
        k_steps
        refine Halt.mk (item_neg1 (News.isList N₃ (.tail _ (.head _))) (by dsimp only at ldone; lia) ?_)
        k_steps
        rename_i N h₄ F₄ N₄ l1
        have l1n := l1.1
        have l1 := allLt_all l1.2
        have eS : N ≠ S := Ne.symm (Nat.ne_of_lt (l1 _ (.head _)))
        have eR : N ≠ R := Ne.symm (Nat.ne_of_lt (l1 _ (.tail _ (.head _))))
        have n0 : N0 ≠ N := Nat.ne_of_lt l1n
        have n0R : N0 ≠ R := Ne.symm (Nat.ne_of_lt (l0 _ (.tail _ (.head _))))
        refine Halt.mk (append_K F₄ N₄ (Upd.tail eR (Upd.tail n0R (Upd.tail h1 (Upd.head hpR)))) ?_ (Nat.zero_le _))
        intro h₅ F₅ N₅
        rw [List.push_toArray] at N₅
        clear F₄ N₄
        k_steps
        refine Halt.mk (item_neg1 (News.isList N₅ (.tail _ (.tail _ (.head _)))) (by dsimp only at ldone; lia) ?_)
        k_steps
        refine Halt.mk (item_neg1 (items := []) (News.isList N₅ (.tail _ (.tail _ (.tail _ (.head _))))) (by simp) ?_)
        k_steps
        refine Halt.mk (cut_call (Rdy.inner B' X' T' F₅ rfl) (by show dp + 1 + 1 < recursionLimit; lia) ?_)
        rintro v₆ h₆ tk₆ st₆ ⟨t₆, rfl⟩
        have F₆ := fr_on st₆ F₅
        have N₆ := news_on st₆ N₅
        clear F₅ N₅
        k_steps
        refine Halt.mk (append_K F₆ N₆ (Upd.head (fun p hp => Nat.ne_of_lt ?_)) ?_ (Nat.zero_le _))
        · simp only [List.cons_append, List.mem_cons] at hp
          rcases hp with rfl | rfl | rfl | hp
          · exact l1n
          · exact l1 _ (.head _)
          · exact l1 (R, listOf (List.toArray []) nR) (.tail _ (.head _))
          · exact l1 _ (.tail _ (.tail _ hp))
        · intro h₇ F₇ N₇
          rw [List.push_toArray] at N₇
          clear F₆ N₆
          k_steps
          refine grow_mk ((S, listOf (pre ++ [Value.ref R]).toArray nS) :: (R, listOf ([] ++ [Value.ref N]).toArray (nR + 1)) :: (N, listOf (List.toArray ([] ++ [Value.int (cutF (xi.fdiv 4)) t₆])) (0 + 1)) :: rest) F₇ (fun p hp => N₇ p ?_) (off_new hoff l1 ?_) ⟨fun z hz => by simp only [if_neg hz], ?_⟩
          · exact in_rotx hp
          · exact fun q hq => off_two hq
          · rw [show stepP (done, []) xi = (done, [] ++ [[cutF (xi.fdiv 4)]]) from by unfold stepP; rw [if_neg (by rw [← fmod4]; assumption), if_neg (by rw [← fmod4]; assumption), fdiv4]; rfl]
            refine ShLed.under p1 .nil (.cons ⟨t₆, rfl⟩ .nil) h1 (Ne.symm eS) (Ne.symm eR) ?_
            intro p hp b hb e
            simp only [List.mem_cons, List.not_mem_nil, or_false] at hb
            rcases hb with rfl | rfl | rfl
            · exact h2 p hp _ (by simp) e
            · exact h2 p hp _ (by simp) e
            · exact absurd (l1 p (.tail _ (.tail _ (List.mem_append.mpr (.inl hp))))) (e ▸ Nat.lt_irrefl _)
    | @under done pre R nS nR rest I nI rpre vs cur last p1 p2 p3 h1 h2 h3 h4 =>
      have lpre := p1.length
      have ldone : done.length ≤ kk := hst.len
      have lrpre := p2.length
      have lcur := hst.cur.len
      simp only [List.length_append, List.length_singleton] at lcur
      have lvs := p3.length
      have llast := (hst.cur.ins last (by simp)).len
      have hpS : ∀ p ∈ rest ++ own, p.1 ≠ S := fun p hp => (List.mem_append.mp hp).elim (fun h => h4 p h S (by simp)) fun h => hoff p h S (by simp)
      have hpR : ∀ p ∈ rest ++ own, p.1 ≠ R := fun p hp => (List.mem_append.mp hp).elim (fun h => h4 p h R (by simp)) fun h => hoff p h R (by simp)
      have hpI : ∀ p ∈ rest ++ own, p.1 ≠ I := fun p hp => (List.mem_append.mp hp).elim (fun h => h4 p h I (by simp)) fun h => hoff p h I (by simp)
      k_steps
      · rename_i a4 N h₃ F₃ N₃ l1
        have eS : N ≠ S := Ne.symm (Nat.ne_of_lt (l1 _ (.head _)))
        have eR : N ≠ R := Ne.symm (Nat.ne_of_lt (l1 _ (.tail _ (.head _))))
        refine Halt.mk (append_K F₃ N₃ (Upd.tail eS (Upd.head (fun p hp => ?_))) ?_ ?_)
        · rcases List.mem_cons.mp hp with rfl | hp
          · exact Ne.symm h1
          · rcases List.mem_cons.mp hp with rfl | hp
            · exact Ne.symm h2
            · exact hpS p hp
        · intro h₄ F₄ N₄
          rw [List.push_toArray] at N₄
          clear F₃ N₃
          k_steps
          refine grow_mk ((S, listOf ((pre ++ [Value.ref R]) ++ [Value.ref N]).toArray (nS + 1)) :: (N, listOf (List.toArray []) 0) :: (R, listOf (rpre ++ [Value.ref I]).toArray nR) :: (I, listOf vs.toArray nI) :: rest) F₄ (fun p hp => N₄ p ?_) (off_new hoff l1 ?_) ⟨fun z hz => by simp only [if_neg hz], ?_⟩
          · exact in_sw hp
          · exact fun q hq => off_one hq
          · rw [show stepP (done, cur ++ [last]) xi = (done ++ [cur ++ [last]], []) from by unfold stepP; rw [if_pos (by rw [← fmod4]; assumption)]]
            have hup : ∀ p ∈ rest, p ∈ (R, listOf (rpre ++ [Value.ref I]).toArray nR) :: (I, listOf vs.toArray nI) :: rest := fun p hp => .tail _ (.tail _ hp)
            refine ShLed.fresh (Paired.append (Paired.imp p1 fun v x _ _ q => q.mono hup) (.cons ⟨R, _, _, rfl, .head _, Paired.append (Paired.imp p2 fun v x _ _ q => q.mono hup) (.cons ⟨I, nI, vs, rfl, .tail _ (.head _), p3⟩ .nil)⟩ .nil)) (Ne.symm eS) ?_
            intro p hp b hb e
            rcases List.mem_cons.mp hb with rfl | hb
            · rcases List.mem_cons.mp hp with rfl | hp
              · exact h1 e.symm
              · rcases List.mem_cons.mp hp with rfl | hp
                · exact h2 e.symm
                · exact h4 p hp _ (by simp) e
            · rw [List.mem_singleton.mp hb] at e
              refine absurd (l1 p (.tail _ ?_)) (e ▸ Nat.lt_irrefl _)
              rcases List.mem_cons.mp hp with rfl | hp
              · exact .head _
              · rcases List.mem_cons.mp hp with rfl | hp
                · exact .tail _ (.head _)
                · exact .tail _ (.tail _ (List.mem_append.mpr (.inl hp)))
        · rw [List.size_toArray, List.length_append, List.length_singleton, sizeLine_eq]; lia
      · refine Halt.mk (item_neg1 (News.isList N₂ (.head _)) (by lia) ?_)
        k_steps
        rename_i N h₃ F₃ N₃ l1
        have eS : N ≠ S := Ne.symm (Nat.ne_of_lt (l1 _ (.head _)))
        have eR : N ≠ R := Ne.symm (Nat.ne_of_lt (l1 _ (.tail _ (.head _))))
        refine Halt.mk (append_K F₃ N₃ (Upd.tail eR (Upd.tail h1 (Upd.head (fun p hp => ?_)))) ?_ ?_)
        · rcases List.mem_cons.mp hp with rfl | hp
          · exact Ne.symm h3
          · exact hpR p hp
        · intro h₄ F₄ N₄
          rw [List.push_toArray] at N₄
          clear F₃ N₃
          k_steps
          refine grow_mk ((S, listOf (pre ++ [Value.ref R]).toArray nS) :: (R, listOf ((rpre ++ [Value.ref I]) ++ [Value.ref N]).toArray (nR + 1)) :: (N, listOf (List.toArray []) 0) :: (I, listOf vs.toArray nI) :: rest) F₄ (fun p hp => N₄ p ?_) (off_new hoff l1 ?_) ⟨fun z hz => by simp only [if_neg hz], ?_⟩
          · exact in_rot hp
          · exact fun q hq => off_two hq
          · rw [show stepP (done, cur ++ [last]) xi = (done, (cur ++ [last]) ++ [[]]) from by unfold stepP; rw [if_neg (by rw [← fmod4]; assumption), if_pos (by rw [← fmod4]; assumption)]]
            have hup : ∀ p ∈ rest, p ∈ (I, listOf vs.toArray nI) :: rest := fun p hp => .tail _ hp
            refine ShLed.under (Paired.imp p1 fun v x _ _ q => q.mono hup) (Paired.append (Paired.imp p2 fun v x _ _ q => q.mono hup) (.cons ⟨I, nI, vs, rfl, .head _, p3⟩ .nil)) .nil h1 (Ne.symm eS) (Ne.symm eR) ?_
            intro p hp b hb e
            simp only [List.mem_cons, List.not_mem_nil, or_false] at hb
            rcases hb with rfl | rfl | rfl
            · rcases List.mem_cons.mp hp with rfl | hp
              · exact h2 e.symm
              · exact h4 p hp _ (by simp) e
            · rcases List.mem_cons.mp hp with rfl | hp
              · exact h3 e.symm
              · exact h4 p hp _ (by simp) e
            · refine absurd (l1 p (.tail _ (.tail _ ?_))) (e ▸ Nat.lt_irrefl _)
              rcases List.mem_cons.mp hp with rfl | hp
              · exact .head _
              · exact .tail _ (List.mem_append.mpr (.inl hp))
        · rw [List.size_toArray, List.length_append, List.length_singleton, sizeLine_eq]; lia
      · refine Halt.mk (item_neg1 (News.isList N₂ (.head _)) (by lia) ?_)
        k_steps
        rename_i N0 h₃ F₃ N₃ l0
        refine Halt.mk (rc_any_nil (News.isList N₃ (.tail _ (.tail _ (.head _)))) (News.isList N₃ (.head _)) (by show un + 3 < cLine; lia) ?_)
        k_steps
        refine Halt.mk (item_neg1 (News.isList N₃ (.tail _ (.head _))) (by lia) ?_)
        k_steps
        refine Halt.mk (item_neg1 (News.isList N₃ (.tail _ (.tail _ (.head _)))) (by lia) ?_)
        k_steps
        have eI : N0 ≠ I := Ne.symm (Nat.ne_of_lt (l0 _ (.tail _ (.tail _ (.head _)))))
        refine Halt.mk (cut_call (Rdy.inner B' X' T' F₃ rfl) (by show dp + 1 + 1 < recursionLimit; lia) ?_)
        rintro v₆ h₆ tk₆ st₆ ⟨t₆, rfl⟩
        have F₆ := fr_on st₆ F₃
        have N₆ := news_on st₆ N₃
        clear F₃ N₃
        k_steps
        refine Halt.mk (append_K F₆ N₆ (Upd.tail eI (Upd.tail h2 (Upd.tail h3 (Upd.head hpI)))) ?_ ?_)
        · intro h₇ F₇ N₇
          rw [List.push_toArray] at N₇
          clear F₆ N₆
          k_steps
          refine grow_mk ((S, listOf (pre ++ [Value.ref R]).toArray nS) :: (R, listOf (rpre ++ [Value.ref I]).toArray nR) :: (I, listOf (List.toArray (vs ++ [Value.int (cutF (xi.fdiv 4)) t₆])) (nI + 1)) :: rest) F₇ (fun p hp => N₇ p ?_) (off_new hoff l0 ?_) ⟨fun z hz => by simp only [if_neg hz], ?_⟩
          · exact .tail _ hp
          · exact fun q hq => .inr hq
          · rw [show stepP (done, cur ++ [last]) xi = (done, cur ++ [last ++ [cutF (xi.fdiv 4)]]) from by unfold stepP; rw [if_neg (by rw [← fmod4]; assumption), if_neg (by rw [← fmod4]; assumption), fdiv4]; simp]
            exact ShLed.under p1 p2 (Paired.append p3 (.cons ⟨t₆, rfl⟩ .nil)) h1 h2 h3 h4
        · rw [List.size_toArray, sizeLine_eq]; lia
  · intro m₁ nx h₂ tk ⟨hm, hS⟩ F₂ N₂
    have em : m₁ = (fun y => if y = Str.ofString "x" then m₁ y else if y = Str.ofString "shelf" then some (Value.ref S) else List.lookup y [(Str.ofString "script", Value.ref a)]) := by
      funext z
      by_cases h : z = Str.ofString "x"
      · simp [h]
      · simp only [if_neg h]; exact hm z h
    rw [em] at F₂
    rw [lws, List.take_length] at hS
    clear F₁ N₁
    k_steps
    exact hret _ _ _ (kH _ F₂.keep) (hS.at N₂)
end
theorem fl11 : True := by w_top off; first | walk1 | trivial
section
open PySem PySem.W PyProof.Rows PySem.Calls PySem.Spec PySem.SeqAt
set_option maxHeartbeats 4000000
variable {w : World} {mean : ExcName → Option Value} {mg mb : Str → Option Value} {dp un : Nat} {gd : Option (List Code)} {outer : List Env}
local macro_rules | `(tactic| walk_at $k:str) => if ["eval ListComp", "call ref", "exec For", "pyIter ref"].contains k.getString then `(tactic| walk_at "HALT") else Lean.Macro.throwUnsupported
theorem enterC {s : Shared} {R : Result → Shared → Prop} {name qual : Str} {params : Arguments} {body : List Stmt} {scope : Scope} {dV kV doc pm cdv ct oc : Value} {an od : Option Addr} {osl : Array (Option Value)} {f : Addr} {args : Args} {binds : List (Str × Value)}
    (Y : Rdy w mean mg mb dp un gd outer s.heap)
    (ho : (_root_.Mine.hd.heap_1_1 w.params).lookup f = some ⟨oc, od, .func (fnOf name qual params body scope dV kV doc pm an cdv ct), osl⟩) (hcd : codeIn (_root_.Mine.hd.heap_1_1 w.params) cdv qual = true) (hroom : dp < recursionLimit)
    (hbind : BindsTo s (fnOf name qual params body scope dV kV doc pm an cdv ct) args binds) (hkind : (binds.all fun y => scope.names.lookup y.1 == some .local || scope.names.lookup y.1 == some .cell) = true)
    (hnd : ((cellsFrom 0 scope.names []).map (·.1)).Nodup)
    (h : ∀ base g L' h₁ tk cells, s.heap.StaysIn g → (∀ h', g.StaysIn h' → s.heap.StaysIn h') → Fr g L' h₁ (bindL (envOfC qual scope L' f cdv).kindOf binds fun _ => none) → News g L' h₁ cells →
      CellsAre (bindC (envOfC qual scope L' f cdv).kindOf binds fun _ => none) (cellsFrom (L' + 1) scope.names []) cells → Below (Am dp un gd outer) base outer g →
      (_root_.Mine.hd.heap_1_1 w.params).In g → Top topProg LL mean mg mb g →
      wpAny (model PySem.Challenge.rw_ny0140_01.row.prog w) ((Am dp un gd outer).deeper (envOfC qual scope L' f cdv)) (execs body (envOfC qual scope L' f cdv))
        (fun fl s' => R (.ok (.ret (match fl with | .ret v => v | _ => .none))) s')
        (fun e s' => wpAny (model PySem.Challenge.rw_ny0140_01.row.prog w) ((Am dp un gd outer).deeper (envOfC qual scope L' f cdv)) (leaving (envOfC qual scope L' f cdv) e) (fun _ s'' => R (.error e) s'') (fun e' s'' => R (.error e') s'') s')
        { s with heap := h₁, toks := tk })
    (hco : scope.isCoroutine = false := by rfl) (hgen : scope.isGenerator = false := by rfl) (hk : scope.kind = .function := by rfl) :
    codeAny (model PySem.Challenge.rw_ny0140_01.row.prog w) (Am dp un gd outer) (.call (.ref f) args) R s := by
  obtain ⟨base, B⟩ := Y.below
  refine codeAny_call_function hroom (Y.K _ _ ho) rfl hco hgen rfl (codeRec_of Y.K hcd) (hbind _ _ _ _ ?_)
  refine wpAny_newFunctionEnv_cells hk (kindsX hkind _) fun env' he s' x => ?_
  subst he
  refine ⟨Y.top.nolimit.keeps x.toInCall.keep, codeAny_func ?_⟩
  obtain ⟨h₁, tk, rfl, _⟩ := x.done
  have hk₁ := x.toInCall.keep
  obtain ⟨cells, NC, YC⟩ := Cl.news (h₀ := s.heap) (Nat.le_refl _) fun n c hm => ⟨x.cell n c (lookup_of_mem_nodup (cellsFrom_names scope.names 0 (s.heap.objs.size + 1) [] [] rfl ▸ hnd) hm), x.above n c hm⟩
  exact h base s.heap s.heap.objs.size h₁ tk cells (fun _ _ e => e) (fun _ k => k) ⟨x.toInCall.ns, hk₁, Nat.le_refl _⟩ NC YC B Y.K Y.top
local macro_rules | `(tactic| walk_at $k:str) => if ["subscriptTail", "call builtin:list.append", "compareOp Eq ref ref", "exec Assign cons ListComp", "call builtin:len"].contains k.getString then `(tactic| walk_at "HALT") else Lean.Macro.throwUnsupported
section
variable {prog : Program} {A : Around} {s : Shared} {env : Env} {h₀ : Heap}
inductive CellFin (h₀ : Heap) (L c I : Addr) (io : Obj) (J : (Str → Option Value) → List (Addr × Obj) → Prop) (s₁ s₂ : Shared) : Prop
  | mk (h' : Heap) (tk : Nat) (m' : Str → Option Value) (nx' : List (Addr × Obj)) (o' : Obj) : s₂ = { s₁ with heap := h', toks := tk } → Fr h₀ L h' m' → News h₀ L h' ((c, o') :: (nx' ++ [(I, io)])) → (∀ p ∈ nx', p.1 ≠ c ∧ p.1 ≠ I) → (∃ v, o'.data = .cell v) → J m' nx' → CellFin h₀ L c I io J s₁ s₂
noncomputable def CellEnd (h₀ : Heap) (L c I : Addr) (io : Obj) (J : (Str → Option Value) → List (Addr × Obj) → Prop) (s₁ : Shared) (Qr : Value → Shared → Prop) (Qb : Shared → Prop) (f : Flow) (s₂ : Shared) : Prop :=
  match f with
  | .ret v => Qr v s₂
  | .brk => Qb s₂
  | _ => CellFin h₀ L c I io J s₁ s₂
inductive CellAt (s : Shared) (h₀ : Heap) (L c I : Addr) (n : Nat) (J : Nat → (Str → Option Value) → List (Addr × Obj) → Prop) (k : Nat) (s' : Shared) : Prop
  | mk (h' : Heap) (tk : Nat) (m' : Str → Option Value) (nx' : List (Addr × Obj)) (o' : Obj) (i : Nat) : s' = { s with heap := h', toks := tk } → IsRangeIter h' I (0 + (i : Nat) * 1) ((n : Int) - (i : Nat)) 1 → Fr h₀ L h' m' → News h₀ L h' ((c, o') :: nx') → (∃ v, o'.data = .cell v) → (∀ p ∈ nx', p.1 ≠ c ∧ p.1 ≠ I) → J i m' nx' → i ≤ n → k = n + 1 - i → CellAt s h₀ L c I n J k s'
theorem forLoop_cell {R : Result → Shared → Prop} {x : Str} {px : Pos} {body : List Stmt} {I c : Addr} {n : Nat} {m : Str → Option Value} {o : Obj} {nx : List (Addr × Obj)} (hh : A.handled = none)
    (hx : env.kindOf x = some .cell) (hk : env.scope.kind = .function) (hc : env.cells.lookup x = some c)
    (hst : IsRangeIter s.heap I 0 (n : Int) 1) (F : Fr h₀ env.locals s.heap m) (N : News h₀ env.locals s.heap ((c, o) :: nx)) (ho : ∃ v, o.data = .cell v) (hcI : c ≠ I) (hIL : env.locals ≠ I) (hIn : h₀.get? I = none) (hne : ∀ p ∈ nx, p.1 ≠ c ∧ p.1 ≠ I)
    (J : Nat → (Str → Option Value) → List (Addr × Obj) → Prop) (h0 : J 0 m nx)
    (step : ∀ i t m₁ nx₁ o₁ io h tk, i < n → J i m₁ nx₁ → (∀ p ∈ nx₁, p.1 ≠ c ∧ p.1 ≠ I) → o₁.data = .cell (some (.int (i : Nat) t)) → Fr h₀ env.locals h m₁ → News h₀ env.locals h ((c, o₁) :: (nx₁ ++ [(I, io)])) →
      wpAny (model prog w) A (execs body env) (CellEnd h₀ env.locals c I io (J (i + 1)) { s with heap := h, toks := tk } (fun v s' => R (.ok (.ret v)) s') fun s' => R (.ok .next) s') (notedBy (model prog w) A env fun e s' => R (.error e) s') { s with heap := h, toks := tk })
    (hR : ∀ h' tk m' nx' o', Fr h₀ env.locals h' m' → News h₀ env.locals h' ((c, o') :: nx') → J n m' nx' → R (.ok .next) { s with heap := h', toks := tk }) :
    codeAny (model prog w) A (.forLoop (.Name x px) (.ref I) body [] env) R s := by
  have W := Walks.range (prog := prog) (w := w) (A := A) hh I 0 1 n
  have old : ∀ b ob, h₀.get? b = some ob → b ≠ I := fun b ob e q => by rw [q, hIn] at e; cases e
  refine codeAny_forLoop
    (CellAt s h₀ env.locals c I n J) ?_ (n + 1)
    ⟨s.heap, s.toks, m, nx, o, 0, rfl, by simpa using hst, F, N, ho, hne, h0, Nat.zero_le _, rfl⟩
  rintro k s' ⟨h', tk, m', nx', o', i, rfl, hst', F', N', ⟨v₀, ho'⟩, hne', hJ, hi, rfl⟩
  have next : ∀ h₁ : Heap, (∀ b o, b ∉ [I] → h'.get? b = some o → h₁.get? b = some o) → Fr h₀ env.locals h₁ m' ∧ News h₀ env.locals h₁ ((c, o') :: nx') := fun h₁ hk₁ =>
    ⟨⟨F'.ns.at' fun o e => hk₁ _ o (fun q => hIL (List.mem_singleton.mp q)) e, fun b o e => hk₁ b o (fun q => old b o e (List.mem_singleton.mp q)) (F'.keep b o e), F'.above⟩, fun p hp => ⟨hk₁ _ _ (fun q => by
      have q := List.mem_singleton.mp q
      rcases List.mem_cons.mp hp with e | hp
      · rw [e] at q; exact hcI q
      · exact (hne' p hp).2 q) (N' p hp).1, (N' p hp).2⟩⟩
  by_cases hlt : i < n
  · refine W.item i _ _ _ hlt hst' fun v h₁ tk₁ hP hst₁ hk₁ => ?_
    obtain ⟨t, rfl⟩ := hP
    obtain ⟨F₁, N₁⟩ := next h₁ hk₁
    refine wpAny_assign_Name (wpAny_storeName_cell hk hx hc ⟨o', N₁.get (.head _), ho'⟩ fun h₂ hv₂ hs₂ => ?_)
    obtain ⟨o₂, e₂, d₂⟩ := hv₂
    have cfr : h₀.get? c = none := (N₁ _ (.head _)).2.2
    have F₂ : Fr h₀ env.locals h₂ m' := ⟨F₁.ns.sameBut hs₂ (Ne.symm (N₁ _ (.head _)).2.1), fun b ob e => (hs₂.2 b (fun q => by rw [q, cfr] at e; cases e)).trans (F₁.keep b ob e), F₁.above⟩
    have hst₂ := W.frame _ _ h₂ hst₁ fun b hb o e => (hs₂.2 b fun q => hcI (by rw [← q]; exact List.mem_singleton.mp hb)).trans e
    have N₂ : News h₀ env.locals h₂ ((c, o₂) :: (nx' ++ [(I, { cls := .type "range_iterator", dict := none, data := .fields #[rawInt (0 + ((i + 1 : Nat) : Int) * 1), rawInt ((n : Int) - ((i + 1 : Nat) : Int)), rawInt 1], slots := #[] })])) := by
      intro p hp
      rcases List.mem_cons.mp hp with rfl | hp
      · exact ⟨e₂, (N₁ (c, o') (.head _)).2⟩
      · rcases List.mem_append.mp hp with hp | hp
        · exact ⟨(hs₂.2 _ (hne' p hp).1).trans (N₁ p (.tail _ hp)).1, (N₁ p (.tail _ hp)).2⟩
        · rw [List.mem_singleton.mp hp]
          exact ⟨hst₂, Ne.symm hIL, hIn⟩
    rw [Int.mul_one, Int.zero_add] at d₂
    refine wpAny_mono (step i t m' nx' o₂ _ h₂ tk₁ hlt hJ hne' d₂ F₂ N₂) (fun f s₃ h₃ => ?_) fun _ _ e => e
    cases f with
    | ret v => exact h₃
    | brk => exact h₃
    | cont =>
      obtain ⟨h₃', tk₃, m₂, nx₂, o₃, rfl, F₃, N₃, ha₃, hv₃, hJ₃⟩ := h₃
      exact ⟨n + 1 - (i + 1), by lia, h₃', tk₃, m₂, nx₂, o₃, i + 1, rfl, (N₃ (I, _) (List.mem_cons.mpr (.inr (List.mem_append.mpr (.inr (List.mem_singleton.mpr rfl)))))).1, F₃, fun p hp => N₃ p ((List.mem_cons.mp hp).elim (fun e => List.mem_cons.mpr (.inl e)) fun h => List.mem_cons.mpr (.inr (List.mem_append.mpr (.inl h)))), hv₃, ha₃, hJ₃, hlt, rfl⟩
    | next =>
      obtain ⟨h₃', tk₃, m₂, nx₂, o₃, rfl, F₃, N₃, ha₃, hv₃, hJ₃⟩ := h₃
      exact ⟨n + 1 - (i + 1), by lia, h₃', tk₃, m₂, nx₂, o₃, i + 1, rfl, (N₃ (I, _) (List.mem_cons.mpr (.inr (List.mem_append.mpr (.inr (List.mem_singleton.mpr rfl)))))).1, F₃, fun p hp => N₃ p ((List.mem_cons.mp hp).elim (fun e => List.mem_cons.mpr (.inl e)) fun h => List.mem_cons.mpr (.inr (List.mem_append.mpr (.inl h)))), hv₃, ha₃, hJ₃, hlt, rfl⟩
  · have hin : i = n := by lia
    subst hin
    refine W.done _ _ _ hst' fun h₁ tk₁ hk₁ => wpAny_execs_nil ?_
    obtain ⟨F₁, N₁⟩ := next h₁ hk₁
    exact hR h₁ tk₁ m' nx' o' F₁ N₁ hJ
noncomputable def CellLoop (prog : Program) (w : World) (A : Around) (h₀ : Heap) (env : Env) (c : Addr) (body : List Stmt) (Q : Flow → Shared → Prop) (xv : Value) (s₁ : Shared) : Prop :=
  ∃ (r : Addr) (t u v : Tok) (n : Nat) (m : Str → Option Value) (o : Obj) (nx : List (Addr × Obj)) (J : Nat → (Str → Option Value) → List (Addr × Obj) → Prop), xv = .ref r ∧ IsRange s₁.heap r 0 (n : Int) 1 t u v ∧ n < 1000000 ∧
      Fr h₀ env.locals s₁.heap m ∧ News h₀ env.locals s₁.heap ((c, o) :: nx) ∧ (∃ v, o.data = .cell v) ∧ (∀ p ∈ nx, p.1 ≠ c) ∧ J 0 m nx ∧
      (∀ I io i t m₁ nx₁ o₁ h tk, i < n → J i m₁ nx₁ → (∀ p ∈ nx₁, p.1 ≠ c ∧ p.1 ≠ I) → c ≠ I → o₁.data = .cell (some (.int (i : Nat) t)) → Fr h₀ env.locals h m₁ → News h₀ env.locals h ((c, o₁) :: (nx₁ ++ [(I, io)])) →
        wpAny (model prog w) A (execs body env) (CellEnd h₀ env.locals c I io (J (i + 1)) { s₁ with heap := h, toks := tk } (fun v s' => Q (.ret v) s') fun s' => Q .next s') never { s₁ with heap := h, toks := tk }) ∧
      (∀ h' tk m' nx' o', Fr h₀ env.locals h' m' → News h₀ env.locals h' ((c, o') :: nx') → J n m' nx' → Q .next { s₁ with heap := h', toks := tk })
theorem for_cell {E : Value → Shared → Prop} {Q : Flow → Shared → Prop} {x : Str} {px pos : Pos} {iter : Expr} {body : List Stmt} {c : Addr} (h₀ : Heap) (hh : A.handled = none)
    (hx : env.kindOf x = some .cell) (hk : env.scope.kind = .function) (hc : env.cells.lookup x = some c)
    (h : wpAny (model prog w) A (eval iter env) (fun xv s₁ => CellLoop prog w A h₀ env c body Q xv s₁) never s)
    (hs : ∀ x, foldedSetIterable iter env x = pure x := by intro _; rfl) : wpAny (model prog w) A (exec (.For (.Name x px) iter body [] pos) env) Q E s := by
  refine wpAny_noRaise ?_
  refine wpAny_For (wpAny_mono h (fun xv s₁ h₁ => ?_) fun _ _ e => e.elim) hs
  obtain ⟨r, t, u, v, n, m, o, nx, J, rfl, hr, hn, F, N, ho, hne, h0, step, hR⟩ := h₁
  refine wpAny_pyIter_range hr (small_one (by lia) (by lia) (by lia) (by lia)) ?_
  have hsz : Builtin.Range.rangeSize 0 (n : Int) 1 = n := by rw [rangeSize_one]; split <;> lia
  have lt : ∀ p ∈ (c, o) :: nx, p.1 ≠ s₁.heap.objs.size := fun p hp => Nat.ne_of_lt (Heap.lt_size (N p hp).1)
  refine forLoop_cell (s := { s₁ with heap := s₁.heap.push _ }) (I := s₁.heap.objs.size) (n := n) hh hx hk hc ?_ (F.push _) (fun p hp => ⟨Heap.get?_push_of_some _ (N p hp).1, (N p hp).2⟩) ho (lt _ (.head _)) (Nat.ne_of_lt F.ns.lt) (next_is_new F) (fun p hp => ⟨hne p hp, lt p (.tail _ hp)⟩) J h0 ?_ ?_
  · have : IsRangeIter (s₁.heap.push { cls := .type "range_iterator", data := .fields #[rawInt 0, rawInt (Builtin.Range.rangeSize 0 n 1), rawInt 1] }) s₁.heap.objs.size 0 (Builtin.Range.rangeSize 0 n 1) 1 := Heap.get?_push_size _ rfl
    rw [hsz] at this
    simpa [hsz] using this
  · intro i t m₁ nx₁ o₁ io h tk hi hJ hne₁ hd F₁ N₁
    exact wpAny_noRaise (step _ _ i t m₁ nx₁ o₁ h tk hi hJ hne₁ (lt _ (.head _)) hd F₁ N₁)
  · exact fun h' tk m' nx' o' F' N' hJ => hR h' tk m' nx' o' F' N' hJ
end
section
variable {α : Type} [DecidableEq α] {prog : Program} {A : Around} {E : Value → Shared → Prop} {s : Shared} {P : Value → α → Prop} {c v : Value} {xs : List α} {d : α} {Q : Value → Shared → Prop}
theorem any_mem {vs : List Value} (hi : ∀ v x y, P v x → P v y → x = y) (p : Paired P vs xs) (f : Value → Bool) (hf : ∀ y, f y = true ↔ P y d) : vs.toArray.any f = decide (d ∈ xs) := by
  rw [Bool.eq_iff_iff, decide_eq_true_iff, ← Array.any_toList, List.any_eq_true]
  constructor
  · rintro ⟨y, hy, e⟩
    obtain ⟨i, hi'⟩ := List.getElem?_of_mem (l := vs) (by simpa using hy)
    obtain ⟨x, ex, hx⟩ := Paired.get p hi'
    rw [hi _ _ _ ((hf y).mp e) hx]
    exact List.mem_of_getElem? ex
  · intro hd
    obtain ⟨i, hi'⟩ := List.getElem?_of_mem hd
    obtain ⟨y, ey, hy⟩ := Paired.get' p hi'
    exact ⟨y, by simpa using List.mem_of_getElem? ey, (hf y).mpr hy⟩
open Classical in
theorem notin_list (hP : EqOk A.in1 s P) (hi : ∀ v x y, P v x → P v y → x = y) (hl : ListAt P s.heap c xs) (hx : P v d) (h : ∀ bb : Bool, (bb = true ↔ d ∈ xs) → Q (.bool (!bb)) s) : wpAny (model prog w) A (compareOp .NotIn v c) Q E s := by
  obtain ⟨a, vs, rfl, l, p⟩ := hl
  refine notIn_listAt (fun y => decide (P y d)) l ?_ ?_
  · intro y hy
    obtain ⟨i, hi'⟩ := List.getElem?_of_mem (l := vs) (by simpa using hy)
    obtain ⟨x, ex, hx'⟩ := Paired.get p hi'
    have := hP _ _ _ _ hx' hx
    rw [show decide (P y d) = decide (x = d) from ?_]
    · exact this
    · rw [decide_eq_decide]; exact ⟨fun q => hi _ _ _ hx' q, fun q => q ▸ hx'⟩
  · refine h _ ?_
    rw [any_mem hi p _ (fun y => decide_eq_true_iff), decide_eq_true_iff]
end
noncomputable def keepsRow (mine yours : List (List (List Int))) (k : Nat) (x : List (List Int)) : Bool :=
  !decide (x ∈ yours) && ((match yours.getLast? with | none => true | some l => !decide (x < l)) || !decide (x ∈ mine.take k))
noncomputable def lackTo (mine yours : List (List (List Int))) : Nat → List (List (List Int))
  | 0 => []
  | i + 1 => lackTo mine yours i ++ (match mine[i]? with | some x => if keepsRow mine yours i x then [x] else [] | none => [])
theorem lackTo_len (mine yours : List (List (List Int))) (i : Nat) : (lackTo mine yours i).length ≤ i := by
  induction i with
  | zero => exact Nat.le_refl _
  | succ i ih =>
    show (lackTo mine yours i ++ _).length ≤ i + 1
    rw [List.length_append]
    refine Nat.add_le_add ih ?_
    cases mine[i]? with
    | none => exact Nat.zero_le _
    | some x =>
      dsimp only
      cases keepsRow mine yours i x with
      | true => exact Nat.le_refl _
      | false => exact Nat.zero_le _
theorem ordG_pos {x y : List (List Int)} : 0 < ordG x y ↔ y < x := by
  unfold ordG
  by_cases h1 : y < x
  · rw [if_pos h1]; exact ⟨fun _ => h1, fun _ => by decide⟩
  · rw [if_neg h1]
    refine ⟨fun h => ?_, fun h => absurd h h1⟩
    by_cases h2 : x < y
    · rw [if_pos h2] at h; exact absurd h (by decide)
    · rw [if_neg h2] at h; exact absurd h (by decide)
open Classical in
noncomputable def testRow (g : Heap) (xi : List (List Int)) (v : Value) : Bool := decide (∃ row, RowAt g v row ∧ xi < row)
open Classical in
theorem testRow_is {g : Heap} {xi row : List (List Int)} {v : Value} (h : RowAt g v row) : testRow g xi v = true ↔ xi < row := by
  unfold testRow
  rw [decide_eq_true_iff]
  exact ⟨fun ⟨r, h1, h2⟩ => RowAt.inj h1 h ▸ h2, fun h2 => ⟨row, h, h2⟩⟩
theorem eq_nil {prog : Program} {A : Around} {E : Value → Shared → Prop} {s : Shared} {R N : Addr} {its : Array Value} {Q : Value → Shared → Prop} (hR : s.heap.IsList R its) (hN : s.heap.IsList N (List.toArray [])) (hu : A.units < cLine) (h : ∀ bb : Bool, (bb = true ↔ its.toList = []) → Q (.bool bb) s) :
    wpAny (model prog w) A (compareOp .Eq (.ref R) (.ref N)) Q E s := by
  by_cases e : its.size = 0
  · have e' : its = #[] := Array.eq_empty_of_size_eq_zero e
    subst e'
    have := RcAt.lists (A := A) (s := s) (e := fun _ => true) hR hN rfl hu (fun j h1 _ => absurd h1 (Nat.not_lt_zero _)) prog w E Q
    exact this (h _ (by simp))
  · exact RcAt.lists_lengths hR hN (by simpa using e) hu prog w E Q (h _ (by
      constructor
      · intro q; cases q
      · intro q; exact absurd (by simpa using congrArg List.length q) e))
theorem last_filter {us : List Value} {y : List (List (List Int))} {g : Heap} {xi : List (List Int)} {ws : List Value} {ys : Array Value} (hp : Paired (RowAt g) us y) (hlen : ws.length = (us.drop (us.length - 1)).toArray.size) (hP : ∀ (j : Nat) (v : Value), ws[j]? = some v → (us.drop (us.length - 1)).toArray[j]? = some v)
    (hF : Paired (fun v y => y = v) (ws.filter (testRow g xi)) ys.toList) : ys.toList = [] ↔ ¬ ∃ l, y.getLast? = some l ∧ xi < l := by
  have e : ws = us.drop (us.length - 1) := by
    apply List.ext_getElem?
    intro j
    cases h : ws[j]? with
    | some v => have := hP j v h; rw [← this]; simp
    | none =>
      have h1 : ws.length ≤ j := List.getElem?_eq_none_iff.mp h
      rw [eq_comm, List.getElem?_eq_none_iff]
      rw [hlen, List.size_toArray] at h1
      exact h1
  subst e
  have e2 : ∀ (l m : List Value), Paired (fun v y => y = v) l m → m = l := by
    intro l m p
    induction p with
    | nil => rfl
    | cons h _ ih => rw [h, ih]
  rw [e2 _ _ hF]
  have hl := hp.length
  rcases List.eq_nil_or_concat y with rfl | ⟨y', l, rfl⟩
  · cases hp
    simp
  · have hd := Paired.drop hp (us.length - 1)
    rw [hl] at hd ⊢
    simp only [List.concat_eq_append, List.length_append, List.length_singleton, Nat.add_sub_cancel, List.drop_left] at hd ⊢
    generalize us.drop y'.length = u at hd ⊢
    cases hd with
    | cons h t =>
      cases t
      rename_i v
      simp only [List.concat_eq_append, List.getLast?_append, List.getLast?_singleton, Option.some_or, Option.some.injEq, exists_eq_left']
      have := testRow_is (xi := xi) h
      by_cases hx : xi < l
      · rw [List.filter_cons_of_pos (this.mpr hx)]; simp [hx]
      · rw [List.filter_cons_of_neg (fun q => hx (this.mp q))]; simp only [List.filter_nil, true_iff]; exact hx
theorem append_mem {prog : Program} {A : Around} {E : Value → Shared → Prop} {s : Shared} {h₀ : Heap} {L D : Addr} {m : Str → Option Value} {news : List (Addr × Obj)} {its : List Value} {n : Nat} {x : Value} {Q : Value → Shared → Prop} (F : Fr h₀ L s.heap m) (N : News h₀ L s.heap news) (hm : (D, listOf (List.toArray its) n) ∈ news)
    (hsz : its.length ≤ 100000) (h : ∀ h', Fr h₀ L h' m → (∀ nx : List (Addr × Obj), (∀ p ∈ nx, p ∈ news ∧ p.1 ≠ D) → News h₀ L h' ((D, listOf (List.toArray (its ++ [x])) (n + 1)) :: nx)) → Q .none { s with heap := h' }) : wpAny (model prog w) A (call (.builtin "list.append") [.ref D, x]) Q E s := by
  have z := N _ hm
  refine append_at (hsz := by rw [List.size_toArray, sizeLine_eq]; lia) z.1 fun h' hs ho' => h h' (F.change hs z.2.1 z.2.2) fun nx hnx p hp => ?_
  rcases List.mem_cons.mp hp with rfl | hp
  · rw [List.push_toArray] at ho'
    exact ⟨ho', z.2⟩
  · have := N p (hnx p hp).1
    exact ⟨(hs.2 _ (hnx p hp).2).trans this.1, this.2⟩
theorem keepsRow_iff {mine yours : List (List (List Int))} {k : Nat} {x : List (List Int)} : keepsRow mine yours k x = true ↔ x ∉ yours ∧ ((¬ ∃ l, yours.getLast? = some l ∧ x < l) ∨ x ∉ mine.take k) := by
  unfold keepsRow
  cases h : yours.getLast? with
  | none => simp
  | some l => simp
theorem lack_yes {mine yours : List (List (List Int))} {i : Nat} {x : List (List Int)} (e : mine[i]? = some x) (h : keepsRow mine yours i x = true) : lackTo mine yours (i + 1) = lackTo mine yours i ++ [x] := by
  show lackTo mine yours i ++ _ = _
  rw [e]; simp [h]
theorem lack_no {mine yours : List (List (List Int))} {i : Nat} {x : List (List Int)} (e : mine[i]? = some x) (h : ¬ keepsRow mine yours i x = true) : lackTo mine yours (i + 1) = lackTo mine yours i := by
  show lackTo mine yours i ++ _ = _
  rw [e]; simp [h]
theorem lacked_call {s : Shared} {Q E : Value → Shared → Prop} {x y : List (List (List Int))} {v u : Value} (hx : ShelfAt s.heap v x) (hy : ShelfAt s.heap u y) (lx : x.length ≤ 40) (ly : y.length ≤ 40) (gx : ∀ r ∈ x, GoodRow r) (gy : ∀ r ∈ y, GoodRow r) (Y : Rdy w mean mg mb dp un gd outer s.heap) (hd : dp + 5 < recursionLimit) (hu : un + 50 < cLine)
    (hret : Ret s Q fun v h' => ShelfAt h' v (lackTo x y x.length)) : wpAny (model PySem.Challenge.rw_ny0140_01.row.prog w) (Am dp un gd outer) (call (.ref 113) [v, u]) Q E s := by
  (have fill : (fun w : World => _root_.Mine.hd.heap_1_1 w.params) = (fun w : World => _root_.Mine.hd.heap_1_1 w.params) ∧ PySem.Challenge.rw_ny0140_01.row.prog = PySem.Challenge.rw_ny0140_01.row.prog := (by k_fill; exact ⟨rfl, rfl⟩); clear fill)
  obtain ⟨a, vs, rfl, hl, hp⟩ := hx
  obtain ⟨b, us, rfl, hl2, hp2⟩ := hy
  k_dflt ((refine wpAny_call ?_; refine' enterC ?kY ?k6 ?k7 ?k8 ?k9 ?kB ?kD ?_ ?c3 ?c4 ?c5; (case kY => assumption); (case k6 => k_is); (case k7 => k_is); (case k8 => lia); (case k9 => exact BindsTo.of_eq rfl); (case kB => exact rfl); (case kD => decide +kernel); (case c5 => exact rfl); (case c3 => exact rfl); (case c4 => exact rfl); k_whole; intro base g L' h' tk' cells' kG kH F' N' Y' B' X' T'; k_cells Y'; (try simp only [List.cons_append, List.nil_append] at N'); (try dsimp only); (try k_fold)))
  have hl' := isList_keeps kG hl
  have hl2' := isList_keeps kG hl2
  have lv : vs.toArray.size = x.length := by rw [List.size_toArray, hp.length]
  have lu : us.toArray.size = y.length := by rw [List.size_toArray, hp2.length]
  k_steps
  refine Halt.mk (for_cell (c := L' + 1 + 1) g rfl rfl rfl rfl ?_)
  k_steps
  (with_reducible rename Fr _ _ _ _ => F₀)
  refine Halt.mk (call_len_list (isList_keeps F₀.keep hl') (by lia) ?_)
  rw [lv]
  k_steps
  (with_reducible rename Fr _ _ _ _ => F₁)
  (with_reducible rename News _ _ _ _ => N₁)
  (with_reducible rename IsRange _ _ _ _ _ _ _ _ => hr)
  rename_i oK oM dK dM D hD lD h2 FO NO h3 tk3 t1 u1 v1 st3
  have dK' : oK.data = .cell none := dK
  have dM' : oM.data = .cell (some (.ref a)) := dM
  have F₂ : Fr g L' h3 (fun y => if y = Str.ofString "found" then some (Value.ref D) else if y = Str.ofString "yours" then some (Value.ref b) else none) := F₁
  clear F₁ FO NO dK dM
  refine ⟨_, _, _, _, x.length, _, oK, [(D, listOf (List.toArray []) 0), (L' + 1, oM)], fun i m nx => (∀ z, z ≠ Str.ofString "above" → m z = (fun y => if y = Str.ofString "found" then some (Value.ref D) else if y = Str.ofString "yours" then some (Value.ref b) else none) z) ∧ ∃ fs n, nx = [(D, listOf (List.toArray fs) n), (L' + 1, oM)] ∧ Paired (RowAt g) fs (lackTo x y i), rfl, hr, by lia, F₂, fun p hp => N₁ p ?_, ⟨_, dK'⟩, ?_, ⟨fun _ _ => rfl, [], 0, rfl, .nil⟩, ?_, ?_⟩
  · simp only [List.mem_cons, List.not_mem_nil, or_false] at hp ⊢
    rcases hp with h | h | h <;> simp [h]
  · intro p hp
    simp only [List.mem_cons, List.not_mem_nil, or_false] at hp
    rcases hp with rfl | rfl
    · exact Ne.symm (Nat.ne_of_lt lD.1)
    · exact Nat.ne_of_lt (Nat.lt_succ_self _)
  · rintro I io i t m₁ nx₁ o₁ h₄ tk₄ hi ⟨hm, fs, n, rfl, hfs⟩ hne hcI hd₁ F₄ N₄
    have em : m₁ = (fun y => if y = Str.ofString "above" then m₁ y else if y = Str.ofString "found" then some (Value.ref D) else if y = Str.ofString "yours" then some (Value.ref b) else none) := by
      funext z
      by_cases h : z = Str.ofString "above"
      · simp [h]
      · simp only [if_neg h]; exact hm z h
    rw [em] at F₄
    clear hm em F₂ N₁ hr
    obtain ⟨xi, exi⟩ : ∃ xi, x[i]? = some xi := ⟨_, List.getElem?_eq_getElem (by lia)⟩
    obtain ⟨v, ev, hv⟩ := Paired.get' hp exi
    have ev' : vs.toArray[i]? = some v := by simpa using ev
    simp only [List.cons_append, List.nil_append] at N₄
    k_steps
    refine Halt.mk (item_list (isList_keeps F₄.keep hl') ev' (by lia) ?_)
    k_steps
    have hv₄ : RowAt h₄ v xi := (hv.keeps kG).keeps F₄.keep
    have hy₄ : ShelfAt h₄ (.ref b) y := ⟨b, us, rfl, isList_keeps F₄.keep hl2', Paired.imp hp2 fun _ _ _ _ q => (q.keeps kG).keeps F₄.keep⟩
    refine notin_list (eq_row (by show un + 3 + 1 + 2 < cLine; lia)) (fun _ _ _ => RowAt.inj) hy₄ hv₄ ?_
    rintro (_ | _) hin
    · k_steps
      refine Halt.mk (comp_assign [] (fun _ => True) Stable.nil (testRow g xi) (fun _ v y => y = v) (fun _ _ _ _ _ h => h) rfl rfl (by decide) rfl (by decide) rfl rfl rfl ?_)
      k_steps
      (with_reducible rename Fr _ _ _ _ => F₅)
      (with_reducible rename News _ _ _ _ => N₅)
      have hsl : slicePick us.toArray (some (-1)) none none = (us.drop (us.length - 1)).toArray := by have := slicePick_last us.toArray 1 (by decide); simpa using this
      rw [hsl] at N₅
      have hpd := Paired.drop hp2 (us.length - 1)
      refine ⟨_, _, _, src_list rfl (News.isList N₅ (.head _)) (fun _ h => nomatch h), ?_, trivial, F₅.ns, (fun h => nomatch h), ?_, ?_, ?_⟩
      · rw [List.size_toArray, List.length_drop, sizeLine_eq]; have := hp2.length; lia
      · intro C j v' s₃ m₃ E' hv' hn hm hC hk _
        refine wpAny_tests_one ?_
        have F₆ := fr_on hk.nil F₅
        have N₆ := news_on hk.nil N₅
        obtain ⟨row, hrow, hr'⟩ := Paired.get hpd (by simpa using hv')
        clear F₅ N₅
        k_steps
        refine Halt.mk (item_list (isList_keeps F₆.keep hl') ev' (by lia) ?_)
        k_steps
        refine Halt.mk (orderR_call (x := row) (y := xi) ((hr'.keeps kG).keeps F₆.keep) ((hv.keeps kG).keeps F₆.keep) (gy _ (List.mem_of_mem_drop (List.mem_of_getElem? hrow))) (gx _ (List.mem_of_getElem? exi)) (Rdy.inner B' X' T' F₆ rfl) (by show dp + 1 + 2 < recursionLimit; lia) (by show un + 3 + 30 < cLine; lia) ?_)
        rintro v₇ h₇ tk₇ st ⟨t₇, rfl⟩
        have F₇ := fr_on st F₆
        k_steps
        refine ⟨h₇, _, rfl, ?_, Kx.of_stays st, trivial⟩
        rw [Bool.eq_iff_iff, testRow_is (hr'.keeps kG), decide_eq_true_iff]
        exact ordG_pos
      · intro C j v' s₃ m₃ E' hv' _ hn hm hC hk _
        have F₆ := fr_on hk.nil F₅
        have N₆ := news_on hk.nil N₅
        clear F₅ N₅
        k_steps
        exact ⟨[], s₃.heap, s₃.toks, rfl, rfl, fun _ h => (nomatch h), fun _ _ _ e => e, trivial⟩
      · intro D' h₇ tk₇ hdn hns
        obtain ⟨ys, l, ws, hD, ⟨nD, hD'⟩, hlen, hP, hF, _, _, hk'⟩ := hdn
        have F₇ : Fr g L' h₇ (fun y => if y = Str.ofString "above" then some (Value.ref D') else if y = Str.ofString "found" then some (Value.ref D) else if y = Str.ofString "yours" then some (Value.ref b) else none) := by
          refine ⟨?_, fun bb o e => hk' bb o (fun hm => ?_) (F₅.keep bb o e), F₅.above⟩
          · refine Eq.mp (congrArg _ (funext fun z => ?_)) hns
            by_cases hz : z = Str.ofString "above"
            · simp [hz]
            · simp only [if_neg hz]
          · rw [List.mem_singleton.mp hm] at e
            exact absurd (Nat.lt_of_lt_of_le (Heap.lt_size e) F₅.above) (Nat.lt_irrefl _)
        have N₇ : News g L' h₇ [(D', listOf ys nD), (L' + 1 + 1, o₁), (D, listOf (List.toArray fs) n), (L' + 1, oM), (I, io)] := by
          intro p hp
          rcases List.mem_cons.mp hp with rfl | hp
          · refine ⟨hD', fun q => ?_, ?_⟩
            · obtain ⟨o, _, _, ho, _⟩ := F₅.ns
              rw [show D' = L' from q] at hD
              exact absurd (hD.symm.trans ho) (by simp)
            · cases q : g.get? D' with
              | none => rfl
              | some o => exact absurd (hD.symm.trans (F₅.keep _ _ q)) (by simp)
          · have := N₅ p (.tail _ hp)
            exact ⟨hk' _ _ (fun hm => this.2.1 (List.mem_singleton.mp hm)) this.1, this.2⟩
        clear F₅ N₅
        have hys := last_filter (Paired.imp hp2 fun _ _ _ _ q => q.keeps kG) hlen hP hF
        dsimp only
        k_steps
        (with_reducible rename Fr _ _ _ _ => F₈)
        (with_reducible rename News _ _ _ _ => N₈)
        refine Halt.mk (eq_nil (News.isList N₈ (.tail _ (.head _))) (News.isList N₈ (.head _)) (by show un + 3 < cLine; lia) ?_)
        rintro (_ | _) hbb
        · k_steps
          refine Halt.mk (item_list (isList_keeps F₈.keep hl') ev' (by lia) ?_)
          k_steps
          (with_reducible rename Fr _ _ _ _ => F₉)
          (with_reducible rename News _ _ _ _ => N₉)
          have hsl : slicePick vs.toArray none (some (i : Int)) none = (vs.take i).toArray := by have := slicePick_upto' vs.toArray i; simpa using this
          rw [hsl] at N₉
          refine notin_list (eq_row (by show un + 3 + 1 + 2 < cLine; lia)) (fun _ _ _ => RowAt.inj) ⟨_, vs.take i, rfl, News.isList N₉ (.head _), Paired.imp (Paired.take hp i) fun _ _ _ _ q => (q.keeps kG).keeps F₉.keep⟩ ((hv.keeps kG).keeps F₉.keep) ?_
          rintro (_ | _) hin2
          · k_steps
            refine Halt.mk (item_list (isList_keeps F₉.keep hl') ev' (by lia) ?_)
            k_steps
            refine Halt.mk (append_mem F₉ N₉ (.tail _ (.tail _ (.tail _ (.tail _ (.head _))))) (by rw [hfs.length]; have := lackTo_len x y i; lia) ?_)
            intro h₁₀ F₁₀ N₁₀
            clear F₉ N₉
            k_steps
            refine ⟨_, _, _, [(D, listOf (List.toArray (fs ++ [v])) (n + 1)), (L' + 1, oM)], o₁, rfl, F₁₀, fun p hp => ?_, fun p hp => ?_, ⟨_, hd₁⟩, fun z hz => by simp only [if_neg hz], fs ++ [v], n + 1, rfl, ?_⟩
            · refine N₁₀ [(L' + 1 + 1, o₁), (L' + 1, oM), (I, io)] ?_ p ?_
              · intro q hq
                simp only [List.mem_cons, List.not_mem_nil, or_false] at hq
                rcases hq with rfl | rfl | rfl
                · exact ⟨by simp, Ne.symm (hne (D, _) (.head _)).1⟩
                · exact ⟨by simp, Nat.ne_of_lt lD.2⟩
                · exact ⟨by simp, Ne.symm (hne (D, _) (.head _)).2⟩
              · simp only [List.cons_append, List.nil_append, List.mem_cons, List.not_mem_nil, or_false] at hp ⊢
                rcases hp with h | h | h | h <;> simp [h]
            · simp only [List.mem_cons, List.not_mem_nil, or_false] at hp
              rcases hp with rfl | rfl
              · exact hne (D, listOf (List.toArray fs) n) (.head _)
              · exact hne _ (.tail _ (.head _))
            · rw [lack_yes exi (keepsRow_iff.mpr ⟨fun q => absurd (hin.mpr q) (by decide), .inr (fun q => absurd (hin2.mpr q) (by decide))⟩)]
              exact Paired.append hfs (.cons (hv.keeps kG) .nil)
          · k_steps
            refine ⟨_, _, _, [(D, listOf (List.toArray fs) n), (L' + 1, oM)], o₁, rfl, F₉, fun p hp => N₉ p ?_, fun p hp => ?_, ⟨_, hd₁⟩, fun z hz => by simp only [if_neg hz], fs, n, rfl, ?_⟩
            · simp only [List.cons_append, List.nil_append, List.mem_cons, List.not_mem_nil, or_false] at hp ⊢
              rcases hp with h | h | h | h <;> simp [h]
            · exact hne p hp
            · rw [lack_no exi (fun q => ?_)]
              · exact hfs
              · have q := keepsRow_iff.mp q
                rcases q.2 with q | q
                · exact absurd (hbb.mpr (hys.mpr q)) (by decide)
                · exact q (hin2.mp rfl)
        · k_steps
          refine Halt.mk (item_list (isList_keeps F₈.keep hl') ev' (by lia) ?_)
          k_steps
          refine Halt.mk (append_mem F₈ N₈ (.tail _ (.tail _ (.tail _ (.head _)))) (by rw [hfs.length]; have := lackTo_len x y i; lia) ?_)
          intro h₁₀ F₁₀ N₁₀
          clear F₈ N₈
          k_steps
          refine ⟨_, _, _, [(D, listOf (List.toArray (fs ++ [v])) (n + 1)), (L' + 1, oM)], o₁, rfl, F₁₀, fun p hp => ?_, fun p hp => ?_, ⟨_, hd₁⟩, fun z hz => by simp only [if_neg hz], fs ++ [v], n + 1, rfl, ?_⟩
          · refine N₁₀ [(L' + 1 + 1, o₁), (L' + 1, oM), (I, io)] ?_ p ?_
            · intro q hq
              simp only [List.mem_cons, List.not_mem_nil, or_false] at hq
              rcases hq with rfl | rfl | rfl
              · exact ⟨by simp, Ne.symm (hne (D, _) (.head _)).1⟩
              · exact ⟨by simp, Nat.ne_of_lt lD.2⟩
              · exact ⟨by simp, Ne.symm (hne (D, _) (.head _)).2⟩
            · simp only [List.cons_append, List.nil_append, List.mem_cons, List.not_mem_nil, or_false] at hp ⊢
              rcases hp with h | h | h | h <;> simp [h]
          · simp only [List.mem_cons, List.not_mem_nil, or_false] at hp
            rcases hp with rfl | rfl
            · exact hne (D, listOf (List.toArray fs) n) (.head _)
            · exact hne _ (.tail _ (.head _))
          · rw [lack_yes exi (keepsRow_iff.mpr ⟨fun q => absurd (hin.mpr q) (by decide), .inl (hys.mp (hbb.mp rfl))⟩)]
            exact Paired.append hfs (.cons (hv.keeps kG) .nil)
    · k_steps
      refine ⟨_, _, _, [(D, listOf (List.toArray fs) n), (L' + 1, oM)], o₁, rfl, F₄, fun p hp => N₄ p ?_, fun p hp => ?_, ⟨_, hd₁⟩, fun z hz => by simp only [if_neg hz], fs, n, rfl, ?_⟩
      · simp only [List.cons_append, List.nil_append, List.mem_cons, List.not_mem_nil, or_false] at hp ⊢
        rcases hp with h | h | h | h <;> simp [h]
      · exact hne p hp
      · rw [lack_no exi (fun q => ?_)]
        · exact hfs
        · have q := keepsRow_iff.mp q
          exact q.1 (hin.mp rfl)
  · rintro h₄ tk₄ m₁ nx₁ o₁ F₄ N₄ ⟨hm, fs, n, rfl, hfs⟩
    have em : m₁ = (fun y => if y = Str.ofString "above" then m₁ y else if y = Str.ofString "found" then some (Value.ref D) else if y = Str.ofString "yours" then some (Value.ref b) else none) := by
      funext z
      by_cases h : z = Str.ofString "above"
      · simp [h]
      · simp only [if_neg h]; exact hm z h
    rw [em] at F₄
    clear hm em F₂ N₁ hr
    k_steps
    exact hret _ _ _ (kH _ F₄.keep) ⟨D, fs, rfl, News.isList N₄ (.tail _ (.head _)), Paired.imp hfs fun v x _ _ q => q.keeps F₄.keep⟩
end
theorem fl12 : True := by w_top off; first | walk1 | trivial
section
open PySem PySem.W PyProof.Rows PySem.Calls PySem.Spec PySem.SeqAt
set_option maxHeartbeats 4000000
variable {w : World} {mean : ExcName → Option Value} {mg mb : Str → Option Value} {dp un : Nat} {gd : Option (List Code)} {outer : List Env}
local macro_rules | `(tactic| walk_at $k:str) => if ["eval ListComp", "call ref", "exec For", "pyIter ref", "subscriptTail", "call builtin:list.append", "compareOp Eq ref ref", "compareOp NotEq ref ref", "exec Assign cons ListComp", "call builtin:len", "call type:list", "exec While"].contains k.getString then `(tactic| walk_at "HALT") else Lean.Macro.throwUnsupported
section
open PySem.AutoSeq1 PySem.MeetsSeq PySem.MeetsSeq2 PySem.MeetsSeq3 PySem.SeqRoads2
theorem remove_loopAt (l : Addr) (items : Array Value) (n : Nat) (x : Value) (e : Nat → Bool) (j : Nat) (hj : j < items.size) (hit : e j = true) (k : Nat) (hs1 : items.size ≤ sizeLine) :
    ∀ i : Nat, j - i = k → i ≤ j → (∀ m (_ : m < items.size), i ≤ m → m < j → e m = false) → Meets (Builtin.«list.remove.loop» ⟨[.ref l, x, rawInt i], []⟩)
      (fun A R s => s.heap.get? l = some { cls := .type "list", dict := none, data := .seq items n, slots := #[] } ∧ (∀ m (hm : m < items.size), EqAt A.in1 s items[m] x (e m)) ∧ R (.ok (.ret .none)) { s with heap := s.heap.update l (Obj.mapSeq fun xs => xs.eraseIdxIfInBounds j) }) := by
  induction k with
  | zero =>
    intro i hk hij hno prog w A R s h
    obtain ⟨hp, g, d, tk, os⟩ := s; obtain ⟨hl, he, h⟩ := h
    have hij' : i = j := by lia
    subst hij'
    wp_walk using wpAny_loadPart' hl
    have hi : items[((i : Nat) : Int).toNat]? = some items[i] := by simp [hj]
    rw [hi]
    refine wpAny_bind (he i hj prog w _ _ ?_)
    rw [hit]
    have hz' : (items.eraseIdxIfInBounds i).size ≤ sizeLine + 1 := Nat.le_trans (size_erased items _) (Nat.le_succ_of_le hs1)
    wp_walk using (wpAny_updateSeq hl rfl (hz := hs1) (_hz' := hz')), wpAny_loadPart' hl
    simpa using h
  | succ k ih =>
    intro i hk hij hno prog w A R s h
    obtain ⟨hp, g, d, tk, os⟩ := s; obtain ⟨hl, he, h⟩ := h
    have hlt : i < items.size := by lia
    wp_walk using wpAny_loadPart' hl
    have hi : items[((i : Nat) : Int).toNat]? = some items[i] := by simp [hlt]
    have hc : ((i : Int) + 1) = ((i + 1 : Nat) : Int) := by push_cast; rfl
    rw [hi]
    refine wpAny_bind (he i hlt prog w _ _ ?_)
    rw [hno i hlt (Nat.le_refl _) (by lia)]
    wp_walk
    rw [hc]
    exact ⟨plainId_quiet plain_remove_loop _, codeAny_builtin entry_remove_loop (by
      rw [Around.under_plainId plain_remove_loop _]
      exact ih (i + 1) (by lia) (by lia) (fun m hm h1 h2 => hno m hm (by lia) h2) prog w A R _ ⟨hl, he, h⟩)⟩
theorem list_removeAt (l : Addr) (items : Array Value) (n : Nat) (x : Value) (e : Nat → Bool) (j : Nat) (hj : j < items.size)
    (hit : e j = true) (hno : ∀ m (_ : m < items.size), m < j → e m = false) (hs1 : items.size ≤ sizeLine) :
    Meets (Builtin.«list.remove» ⟨[.ref l, x], []⟩)
      (fun A R s => s.heap.get? l = some { cls := .type "list", dict := none, data := .seq items n, slots := #[] } ∧ (∀ m (hm : m < items.size), EqAt A.in1 s items[m] x (e m)) ∧ R (.ok (.ret .none)) { s with heap := s.heap.update l (Obj.mapSeq fun xs => xs.eraseIdxIfInBounds j) }) := by
  intro prog w A R s h
  obtain ⟨hp, g, d, tk, os⟩ := s; obtain ⟨hl, he, h⟩ := h
  wp_walk using wpAny_loadPart' hl
  exact ⟨plainId_quiet plain_remove_loop _, codeAny_builtin entry_remove_loop (by
    rw [Around.under_plainId plain_remove_loop _]
    exact remove_loopAt l items n x e j hj hit _ hs1 0 rfl (Nat.zero_le _) (fun m hm _ h2 => hno m hm h2) prog w A R _ ⟨hl, he, h⟩)⟩
end
section
variable {prog : Program} {A : Around} {E : Value → Shared → Prop} {s : Shared} {h₀ : Heap} {L D : Addr} {m : Str → Option Value} {news : List (Addr × Obj)} {n : Nat} {Q : Value → Shared → Prop}
theorem EqOk.mono {α : Type} [DecidableEq α] {P P' : Value → α → Prop} (h : EqOk A s P') (k : ∀ v x, P v x → P' v x) : EqOk A s P := fun v x u y hx hy => h v x u y (k _ _ hx) (k _ _ hy)
theorem Paired.eraseIdx {α : Type} {P : Value → α → Prop} {vs : List Value} {xs : List α} (p : Paired P vs xs) : ∀ j, Paired P (vs.eraseIdx j) (xs.eraseIdx j) := by
  induction p with
  | nil => intro j; exact .nil
  | cons h t ih =>
    intro j
    cases j with
    | zero => exact t
    | succ j => exact .cons h (ih j)
theorem remove_mem {α : Type} [DecidableEq α] {P : Value → α → Prop} {vs : List Value} {xs : List α} {v : Value} {x : α} (hE : EqOk A.in1 s P) (F : Fr h₀ L s.heap m) (N : News h₀ L s.heap news) (hm : (D, listOf vs.toArray n) ∈ news) (hp : Paired P vs xs) (hx : P v x) (hin : x ∈ xs) (hsz : vs.length ≤ 100000)
    (h : ∀ h' vs', Fr h₀ L h' m → Paired P vs' (xs.eraseIdx (xs.idxOf x)) → (∀ nx : List (Addr × Obj), (∀ p ∈ nx, p ∈ news ∧ p.1 ≠ D) → News h₀ L h' ((D, listOf (List.toArray vs') (n + 1)) :: nx)) → Q .none { s with heap := h' }) :
    wpAny (model prog w) A (call (.builtin "list.remove") [.ref D, v]) Q E s := by
  have z := N _ hm
  have hlen := hp.length
  have hj : xs.idxOf x < xs.length := List.idxOf_lt_length_of_mem hin
  have hz : vs.toArray.size ≤ sizeLine := by rw [List.size_toArray, sizeLine_eq]; lia
  refine call_meets PySem.F.slot_list_remove ⟨_, z.1, rfl⟩ PySem.F.entry_list_remove (PySem.F.args_list_remove_2 _ _) (list_removeAt D _ n v (fun k => decide (xs[k]? = some x)) (xs.idxOf x) (by rw [List.size_toArray]; lia) ?_ ?_ hz) ⟨z.1, ?_, h _ (vs.eraseIdx (xs.idxOf x)) (F.change (Heap.SameBut.update ..) z.2.1 z.2.2) (Paired.eraseIdx hp _) ?_⟩
  · rw [decide_eq_true_iff, List.getElem?_eq_getElem hj, List.getElem_idxOf hj]
  · intro k hk hlt
    rw [decide_eq_false_iff_not]
    intro q
    obtain ⟨hk', e⟩ := List.getElem?_eq_some_iff.mp q
    have := List.not_of_lt_findIdx (p := (· == x)) hlt
    rw [e] at this
    simp at this
  · intro k hk
    obtain ⟨x', ex, px⟩ := pair_at hp hk
    have := hE _ _ _ _ px hx
    rw [ex]
    simpa using this
  · intro nx hnx p hp'
    rcases List.mem_cons.mp hp' with rfl | hp'
    · have q := PySem.IsL.update z.1 (fun xs_1 => xs_1.eraseIdxIfInBounds (xs.idxOf x))
      refine ⟨?_, z.2⟩
      have hjv : xs.idxOf x < vs.length := by lia
      have e1 : vs.toArray.eraseIdxIfInBounds (xs.idxOf x) = (vs.eraseIdx (xs.idxOf x)).toArray := by
        unfold Array.eraseIdxIfInBounds
        rw [dif_pos (by rw [List.size_toArray]; exact hjv)]
        apply Array.toList_inj.mp
        rw [Array.toList_eraseIdx]
      have e2 : ((vs.eraseIdx (xs.idxOf x)).toArray.size == vs.toArray.size) = false := by
        rw [List.size_toArray, List.size_toArray, List.length_eraseIdx_of_lt hjv, beq_eq_false_iff_ne]
        lia
      rw [e1, e2] at q
      exact q
    · have := N p (hnx p hp').1
      exact ⟨((Heap.SameBut.update ..).2 _ (hnx p hp').2).trans this.1, this.2⟩
end
theorem pop_mem {prog : Program} {A : Around} {E : Value → Shared → Prop} {s : Shared} {h₀ : Heap} {L D : Addr} {m : Str → Option Value} {news : List (Addr × Obj)} {n : Nat} {Q : Value → Shared → Prop} {p : List Value} {y : Value} (F : Fr h₀ L s.heap m) (N : News h₀ L s.heap news) (hm : (D, listOf (List.toArray (p ++ [y])) n) ∈ news) (hsz : p.length ≤ 100000)
    (h : ∀ h', Fr h₀ L h' m → (∀ nx : List (Addr × Obj), (∀ p ∈ nx, p ∈ news ∧ p.1 ≠ D) → News h₀ L h' ((D, listOf (List.toArray p) (n + 1)) :: nx)) → Q y { s with heap := h' }) : wpAny (model prog w) A (call (.builtin "list.pop") [.ref D]) Q E s := by
  have z := N _ hm
  have hz' : (p ++ [y]).toArray.size ≤ sizeLine := by rw [List.size_toArray, List.length_append, List.length_singleton, sizeLine_eq]; lia
  have hk : (p ++ [y]).toArray.size - 1 = p.length := by rw [List.size_toArray, List.length_append]; rfl
  have hy : (p ++ [y]).toArray[(p ++ [y]).toArray.size - 1]? = some y := by rw [hk]; simp
  refine call_meets PySem.F.slot_list_pop ⟨_, z.1, rfl⟩ PySem.F.entry_list_pop (PySem.F.args_list_pop_1 _) (PySem.MeetsSeq.list_pop_last D _ n y hy hz') ⟨z.1, h _ (F.change (Heap.SameBut.update ..) z.2.1 z.2.2) fun nx hnx q hq => ?_⟩
  rcases List.mem_cons.mp hq with rfl | hq
  · refine ⟨?_, z.2⟩
    have q := PySem.IsL.update z.1 (fun xs => xs.eraseIdxIfInBounds ((p ++ [y]).toArray.size - 1))
    have e1 : (p ++ [y]).toArray.eraseIdxIfInBounds ((p ++ [y]).toArray.size - 1) = p.toArray := by rw [hk, kl_erase, List.append_nil]
    have e2 : (p.toArray.size == (p ++ [y]).toArray.size) = false := by simp
    rw [e1, e2] at q
    exact q
  · have := N q (hnx q hq).1
    exact ⟨((Heap.SameBut.update ..).2 _ (hnx q hq).2).trans this.1, this.2⟩
theorem method_mem {prog : Program} {A : Around} {E : Value → Shared → Prop} {s : Shared} {h₀ : Heap} {L D : Addr} {news : List (Addr × Obj)} {its : Array Value} {n : Nat} {pl : Sem Bool} {Q : Value × List Value → Shared → Prop} (N : News h₀ L s.heap news) (hm : (D, listOf its n) ∈ news)
    (h : Q (.builtin "list.remove", [.ref D]) s) : wpAny (model prog w) A (getMethod (.ref D) (Str.ofString "remove") pl) Q E s := listMethod_K N hm PySem.F.slot_list_remove PySem.F.type_list_remove h
theorem paired_snoc {α : Type} {P : Value → α → Prop} {vs : List Value} {v : Value} {xs : List α} (p : Paired P (vs ++ [v]) xs) : ∃ xs' x, xs = xs' ++ [x] ∧ Paired P vs xs' ∧ P v x := by
  induction vs generalizing xs with
  | nil =>
    cases p with
    | cons h t => cases t; exact ⟨[], _, rfl, .nil, h⟩
  | cons u vs ih =>
    cases p with
    | cons h t =>
      obtain ⟨xs', x, rfl, t', hx⟩ := ih t
      exact ⟨_ :: xs', x, rfl, .cons h t', hx⟩
theorem perm_step {α : Type} [DecidableEq α] {xs' ys : List α} {xe : α} (hpm : (xs' ++ [xe]).Perm ys) (hmem : xe ∈ ys) : xs'.Perm (ys.eraseIdx (ys.idxOf xe)) := by
  have e : ys.erase xe = ys.eraseIdx (ys.idxOf xe) := List.erase_eq_eraseIdx_of_idxOf rfl
  rw [← e]
  refine (List.perm_cons xe).mp ?_
  exact (List.perm_append_comm (l₁ := [xe]) (l₂ := xs')).trans (hpm.trans (List.perm_cons_erase hmem))
theorem ne_pair_nil {prog : Program} {A : Around} {E : Value → Shared → Prop} {s : Shared} {t u a b c d : Addr} {Q : Value → Shared → Prop} (ht : s.heap.IsTuple t #[.ref a, .ref b]) (hu : s.heap.IsTuple u #[.ref c, .ref d])
    (ha : s.heap.IsList a (List.toArray [])) (hb : s.heap.IsList b (List.toArray [])) (hc : s.heap.IsList c (List.toArray [])) (hd : s.heap.IsList d (List.toArray [])) (hun : A.units + 2 < cLine) (h : Q (.bool false) s) :
    wpAny (model prog w) A (compareOp .NotEq (.ref t) (.ref u)) Q E s := by
  refine RcNeAt.tuples (e := fun _ => true) ht hu (by lia) (fun j h1 h2 => ?_) prog w E Q h
  have hE : EqOk A.in1 s (InnerAt s.heap) := eq_inner (by show A.units + 1 + 1 < cLine; lia)
  have e0 := hE (.ref a) [] (.ref c) [] ⟨a, [], rfl, ha, .nil⟩ ⟨c, [], rfl, hc, .nil⟩
  have e1 := hE (.ref b) [] (.ref d) [] ⟨b, [], rfl, hb, .nil⟩ ⟨d, [], rfl, hd, .nil⟩
  rw [decide_eq_true rfl] at e0 e1
  match j, h1, h2 with
  | 0, _, _ => exact e0
  | 1, _, _ => exact e1
theorem walks_bound {prog : Program} {A : Around} {I : Addr} {fp wr : List Addr} {n : Nat} {P : Nat → Value → Prop} {St : Nat → Heap → Prop} (W : Walks prog w A I fp wr n P St) : Walks prog w A I fp wr n (fun i v => i < n ∧ P i v) St where
  sub := W.sub
  frame := W.frame
  item := fun i s Q E hi st hQ => W.item i s Q E hi st fun v h' tk hP => hQ v h' tk ⟨hi, hP⟩
  done := W.done
  self := W.self
theorem src_range {prog : Program} {A : Around} {s : Shared} {ex : List Addr} {r : Addr} {a b : Int} {t u v : Tok} {n : Nat} (hh : A.handled = none) (hr : IsRange s.heap r a b 1 t u v) (ha : -1000000 ≤ a ∧ a < 1000000 ∧ b < 1000000 ∧ -1000000 ≤ b) (hn : (if a < b then b - a else 0) = (n : Int)) (hx : ∀ b ∈ ex, b < s.heap.objs.size) :
    SrcAt prog w A ex s (.ref r) n (fun i v => i < n ∧ ∃ t, v = .int (a + (i : Nat) * 1) t) := by
  intro Q E h
  have hsz : Builtin.Range.rangeSize a b 1 = n := by rw [rangeSize_one]; exact hn
  refine wpAny_pyIter_range hr (small_one (by lia) (by lia) (by lia) (by lia)) (h s.heap.objs.size [s.heap.objs.size] [s.heap.objs.size] _ _ ⟨walks_bound (Walks.range (prog := prog) (w := w) hh s.heap.objs.size a 1 n), fun i h' st b hb => ?_⟩ ?_ ?_ ?_ (push_stays _ _) ?_)
  · obtain rfl := List.mem_singleton.mp hb
    exact ⟨_, st, fun vs q t' e => by cases e; intro q; cases q⟩
  · have : IsRangeIter (s.heap.push { cls := .type "range_iterator", data := .fields #[rawInt a, rawInt (Builtin.Range.rangeSize a b 1), rawInt 1] }) s.heap.objs.size a (Builtin.Range.rangeSize a b 1) 1 := Heap.get?_push_size _ rfl
    rw [hsz] at this
    simpa [hsz] using this
  · intro b hb
    obtain rfl := List.mem_singleton.mp hb
    rw [Heap.size_push]
    exact Nat.lt_succ_self _
  · intro b hb hm
    obtain rfl := List.mem_singleton.mp hm
    exact Nat.lt_irrefl _ (hx _ hb)
  · intro b hb
    obtain rfl := List.mem_singleton.mp hb
    exact fresh_size _
theorem call_list_led {prog : Program} {A : Around} {E : Value → Shared → Prop} {s : Shared} {h₀ : Heap} {L l : Addr} {m : Str → Option Value} {news : List (Addr × Obj)} {items : Array Value} {Q : Value → Shared → Prop} (F : Fr h₀ L s.heap m) (N : News h₀ L s.heap news) (hl : s.heap.IsList l items) (hsz : items.size ≤ 100000)
    (h : ∀ D n h', Fr h₀ L h' m → News h₀ L h' ((D, listOf items n) :: news) → (∀ p ∈ news, p.1 < D) → Q (.ref D) { s with heap := h' }) : wpAny (model prog w) A (call (.type "list") [.ref l]) Q E s := by
  obtain ⟨o, ho, hc, n, hd⟩ := hl
  refine call_list_seq l (.inl rfl) ho hc hd (fun h' c' hk hS => h _ c' h' (fr_on hk F) ?_ (fun p hp => Heap.lt_size (N p hp).1)) (by rw [sizeLine_eq]; lia)
  intro p hp
  rcases List.mem_cons.mp hp with rfl | hp
  · exact ⟨hS, Ne.symm (Nat.ne_of_lt F.ns.lt), next_is_new F⟩
  · exact ⟨hk _ _ (N p hp).1, (N p hp).2⟩
theorem while_rule {prog : Program} {A : Around} {E : Value → Shared → Prop} {Q : Flow → Shared → Prop} {s : Shared} {env : Env} {h₀ : Heap} {L : Addr} {test : Expr} {body : List Stmt} {pos : Pos} {m : Str → Option Value} {news : List (Addr × Obj)} (J : Nat → (Str → Option Value) → List (Addr × Obj) → Prop) {n₀ : Nat}
    (F : Fr h₀ L s.heap m) (N : News h₀ L s.heap news) (hJ : J n₀ m news)
    (turn : ∀ n m₁ news₁ h₁ tk₁, Fr h₀ L h₁ m₁ → News h₀ L h₁ news₁ → J n m₁ news₁ →
      wpAny (model prog w) A (isTrue test env (eval test env)) (fun b s₂ =>
        if b = true then wpAny (model prog w) A (execs body env) (WhileStep h₀ L s J n) never s₂ else Q .next s₂) never { s with heap := h₁, toks := tk₁ }) :
    wpAny (model prog w) A (exec (.While test body [] pos) env) Q E s := wpAny_noRaise (While_inv J F N hJ turn PassesOwn.never)
noncomputable def Sorted (x : List (List (List Int))) : Prop := ∀ k a b, x[k]? = some a → x[k + 1]? = some b → ¬ b < a
theorem in_order_call {s : Shared} {Q E : Value → Shared → Prop} {x y : List (List (List Int))} {v u : Value} (hx : ShelfAt s.heap v x) (hy : ShelfAt s.heap u y) (lx : x.length ≤ 40) (ly : y.length ≤ 40) (gx : ∀ r ∈ x, GoodRow r) (hperm : y.Perm x) (hsorted : Sorted x)
    (Y : Rdy w mean mg mb dp un gd outer s.heap) (hd : dp + 5 < recursionLimit) (hu : un + 50 < cLine)
    (hret : Ret s Q fun v _ => v = .bool true) : wpAny (model PySem.Challenge.rw_ny0140_01.row.prog w) (Am dp un gd outer) (call (.ref 108) [v, u]) Q E s := by
  (have fill : (fun w : World => _root_.Mine.hd.heap_1_1 w.params) = (fun w : World => _root_.Mine.hd.heap_1_1 w.params) ∧ PySem.Challenge.rw_ny0140_01.row.prog = PySem.Challenge.rw_ny0140_01.row.prog := (by k_fill; exact ⟨rfl, rfl⟩); clear fill)
  obtain ⟨a, vs, rfl, hl, hp⟩ := hx
  obtain ⟨b, us, rfl, hl2, hp2⟩ := hy
  k_dflt ((refine wpAny_call ?_; refine' enterC ?kY ?k6 ?k7 ?k8 ?k9 ?kB ?kD ?_ ?c3 ?c4 ?c5; (case kY => assumption); (case k6 => k_is); (case k7 => k_is); (case k8 => lia); (case k9 => exact BindsTo.of_eq rfl); (case kB => exact rfl); (case kD => decide +kernel); (case c5 => exact rfl); (case c3 => exact rfl); (case c4 => exact rfl); k_whole; intro base g L' h' tk' cells' kG kH F' N' Y' B' X' T'; k_cells Y'; (try simp only [List.cons_append, List.nil_append] at N'); (try dsimp only); (try k_fold)))
  rename_i oR dR
  have dR' : oR.data = .cell (some (.ref a)) := dR
  have hl' := isList_keeps kG hl
  have hl2' := isList_keeps kG hl2
  have lv : vs.toArray.size = x.length := by rw [List.size_toArray, hp.length]
  have lu : us.toArray.size = y.length := by rw [List.size_toArray, hp2.length]
  k_steps
  (with_reducible rename Fr _ _ _ _ => F₁)
  (with_reducible rename News _ _ _ _ => N₁)
  refine Halt.mk (call_list_led F₁ N₁ (isList_keeps F₁.keep hl2') (by lia) ?_)
  intro D1 n1 h₁ F₂ N₂ l1
  clear F₁ N₁
  k_steps
  refine Halt.mk (call_list_led F₂ N₂ (isList_keeps F₂.keep hl') (by lia) ?_)
  intro D2 n2 h₂ F₃ N₃ l2
  clear F₂ N₂
  k_steps
  refine Halt.mk (wpAny_call ?_)
  k_dflt ((refine' code_def ?k1 ?k2 ?k3 ?k4 ?k5 ?kA ?kF ?kK ?k6 ?k7 ?k8 ?k9 ?kB ?_ ?c2 ?c3 ?c4 ?c5; (case kA => exact rfl); (case kF => exact rfl); (case kK => exact rfl); (case k1 => k_asm); (case k2 => k_asm); (case k3 => k_asm); (case k4 => k_asm); (case k5 => k_asm); (case k6 => k_is); (case k7 => k_is); (case k8 => (show dp + 1 < recursionLimit; lia)); (case k9 => exact BindsTo.of_eq rfl); (case c5 => decide); (case kB => exact locs rfl); (case c2 => exact rfl); (case c3 => exact rfl); (case c4 => exact rfl); k_whole; intro gI LI hI FGI FI NI BI XI TI; (try dsimp only); (try k_fold)))
  k_steps
  (with_reducible rename Fr gI _ _ _ => F₄)
  (with_reducible rename News gI _ _ _ => N₄)
  rename_i M hM lM hM2
  have F₅ : Fr gI LI hM2 (fun y => if y = Str.ofString "missing" then some (Value.ref M) else List.lookup y [(Str.ofString "actual", Value.ref D2), (Str.ofString "expected", Value.ref D1)]) := F₄
  clear F₄
  refine Halt.mk (while_rule (fun n m nx => (∀ z, z ≠ Str.ofString "item" → m z = (fun y => if y = Str.ofString "missing" then some (Value.ref M) else List.lookup y [(Str.ofString "actual", Value.ref D2), (Str.ofString "expected", Value.ref D1)]) z) ∧
    ∃ es ac k1 k2 xs ys, nx = [(M, listOf (List.toArray []) 0), (D2, listOf (List.toArray ac) k2), (D1, listOf (List.toArray es) k1), (L' + 1, oR)] ∧ es.length = n ∧ Paired (RowAt g) es xs ∧ Paired (RowAt g) ac ys ∧ xs.Perm ys ∧ xs.length ≤ 40) F₅ N₄ ⟨fun _ _ => rfl, us, vs, n1, n2, y, x, rfl, rfl, Paired.imp hp2 fun _ _ _ _ q => q.keeps kG, Paired.imp hp fun _ _ _ _ q => q.keeps kG, hperm, ly⟩ ?_)
  rintro n m₁ nx h₆ tk₆ F₆ N₆ ⟨hm, es, ac, k1, k2, xs, ys, rfl, rfl, hpe, hpa, hpm, lxs⟩
  have em : m₁ = (fun y => if y = Str.ofString "item" then m₁ y else if y = Str.ofString "missing" then some (Value.ref M) else List.lookup y [(Str.ofString "actual", Value.ref D2), (Str.ofString "expected", Value.ref D1)]) := by
    funext z
    by_cases h : z = Str.ofString "item"
    · simp [h]
    · simp only [if_neg h]; exact hm z h
  rw [em] at F₆
  clear hm em F₅ N₄
  k_steps
  refine wpAny_truthy_list (News.isList N₆ (.tail _ (.tail _ (.head _)))) (by rw [List.size_toArray, hpe.length]; lia) ?_
  rcases List.eq_nil_or_concat es with rfl | ⟨es', e, rfl⟩
  · cases hpe
    have := hpm.length_eq
    cases hpa with
    | cons _ _ => simp at this
    | nil =>
    show if (false = true) then _ else _
    rw [if_neg (by decide)]
    k_steps
    (with_reducible rename Fr g _ _ _ => F₉)
    (with_reducible rename News g _ _ _ => N₉)
    refine Halt.mk (ne_pair_nil (News.isTup N₉ (.tail _ (.tail _ (.tail _ (.head _))))) (News.isTup N₉ (.head _)) (News.isList N₉ (.tail _ (.tail _ (.tail _ (.tail _ (.head _)))))) (News.isList N₉ (.tail _ (.tail _ (.tail _ (.tail _ (.tail _ (.head _))))))) (News.isList N₉ (.tail _ (.tail _ (.head _)))) (News.isList N₉ (.tail _ (.head _))) (by show un + 3 + 2 < cLine; lia) ?_)
    k_steps
    refine Halt.mk (comp_eval [] (fun _ => True) Stable.nil (fun _ => false) (fun _ v y => True) (fun _ _ _ _ _ h => h) rfl (by decide) rfl (by decide) rfl ?_)
    k_steps
    refine Halt.mk (call_len_list (isList_keeps F₉.keep hl') (by lia) ?_)
    rw [lv]
    k_steps
    (with_reducible rename Fr g _ _ _ => F₁₀)
    (with_reducible rename News g _ _ _ => N₁₀)
    (with_reducible rename IsRange _ _ _ _ _ _ _ _ => hr)
    refine ⟨x.length - 1, _, src_range rfl hr (by lia) (by lia) (fun _ h => nomatch h), by rw [sizeLine_eq]; lia, trivial, ?_, ?_, ?_⟩
    · rintro C j _ s₃ m₃ E' ⟨hj, t, rfl⟩ hn hm hC hk _
      refine wpAny_tests_one ?_
      have F₁₁ := fr_on hk.nil F₁₀
      have N₁₁ := news_on hk.nil N₁₀
      clear F₁₀ N₁₀ hr
      obtain ⟨xa, exa⟩ : ∃ xi, x[j]? = some xi := ⟨_, List.getElem?_eq_getElem (by lia)⟩
      obtain ⟨xb, exb⟩ : ∃ xi, x[j + 1]? = some xi := ⟨_, List.getElem?_eq_getElem (by lia)⟩
      obtain ⟨va, eva, hva⟩ := Paired.get' hp exa
      obtain ⟨vb, evb, hvb⟩ := Paired.get' hp exb
      have eva' : vs.toArray[j]? = some va := by simpa using eva
      have evb' : vs.toArray[j + 1]? = some vb := by simpa using evb
      have ek : (1 + (j : Int) * 1) = ((j + 1 : Nat) : Int) := by lia
      have ek1 : (((j + 1 : Nat) : Int) - 1) = ((j : Nat) : Int) := by lia
      rw [ek] at hm
      k_steps
      rw [ek1]
      refine Halt.mk (item_list (isList_keeps F₁₁.keep hl') eva' (by lia) ?_)
      k_steps
      refine Halt.mk (item_list (isList_keeps F₁₁.keep hl') evb' (by lia) ?_)
      k_steps
      refine Halt.mk (orderR_call ((hva.keeps kG).keeps F₁₁.keep) ((hvb.keeps kG).keeps F₁₁.keep) (gx _ (List.mem_of_getElem? exa)) (gx _ (List.mem_of_getElem? exb)) (Rdy.inner B' X' T' F₁₁ rfl) (by show dp + 1 + 2 < recursionLimit; lia) (by show un + 3 + 30 < cLine; lia) ?_)
      rintro v₇ h₇ tk₇ st ⟨t₇, rfl⟩
      have F₁₂ := fr_on st F₁₁
      k_steps
      refine ⟨h₇, _, rfl, ?_, Kx.of_stays st, trivial⟩
      rw [decide_eq_false_iff_not]
      exact fun q => hsorted j xa xb exa exb (ordG_pos.mp q)
    · intro C j v' s₃ m₃ E' hv' hf
      cases hf
    · intro D' h₇ tk₇ hdn
      obtain ⟨ys, l, ws, hD, ⟨nD, hD'⟩, hlen, hP, hF, _, _, hk'⟩ := hdn
      have hys : ys.toList = [] := by
        rw [show ws.filter (fun _ => false) = [] from by simp] at hF
        exact List.eq_nil_of_length_eq_zero (hF.length.symm.trans rfl)
      have F₁₁ : Fr g L' h₇ _ := fr_on hk'.nil F₁₀
      have N₁₁ : News g L' h₇ [(D', listOf ys nD)] := by
        intro p hp
        obtain rfl := List.mem_singleton.mp hp
        refine ⟨hD', fun q => ?_, ?_⟩
        · obtain ⟨o, _, _, ho, _⟩ := F₁₀.ns
          rw [show D' = L' from q] at hD
          exact absurd (hD.symm.trans ho) (by simp)
        · cases q : g.get? D' with
          | none => rfl
          | some o => exact absurd (hD.symm.trans (F₁₀.keep _ _ q)) (by simp)
      clear F₁₀ N₁₀ hr
      k_steps
      (with_reducible rename Fr g _ _ _ => F₁₂)
      (with_reducible rename News g _ _ _ => N₁₂)
      refine Halt.mk (eq_nil (News.isList N₁₂ (.tail _ (.head _))) (News.isList N₁₂ (.head _)) (by show un + 3 < cLine; lia) ?_)
      intro bb hbb
      rw [hbb.mpr hys]
      k_steps
      exact hret _ _ _ (kH _ F₁₂.keep) rfl
  · rw [List.concat_eq_append] at hpe N₆ ⊢
    have htr : (!(es' ++ [e]).toArray.isEmpty) = true := by simp
    rw [htr]
    have hle := hpe.length
    k_steps
    refine pop_mem F₆ N₆ (.tail _ (.tail _ (.head _))) (by simp at hle; lia) ?_
    intro h₇ F₇ N₇
    have N₈ : News gI LI h₇ [(D1, listOf (List.toArray es') (k1 + 1)), (M, listOf (List.toArray []) 0), (D2, listOf (List.toArray ac) k2), (L' + 1, oR)] := by
      refine N₇ _ ?_
      intro q hq
      simp only [List.mem_cons, List.not_mem_nil, or_false] at hq
      rcases hq with rfl | rfl | rfl
      · exact ⟨by simp, Ne.symm (Nat.ne_of_lt lM.2.1)⟩
      · exact ⟨by simp, Ne.symm (Nat.ne_of_lt (l2 _ (.head _)))⟩
      · exact ⟨by simp, Nat.ne_of_lt (l1 _ (.head _))⟩
    clear F₆ N₆ N₇
    obtain ⟨xs', xe, rfl, hpe', hxe⟩ := paired_snoc hpe
    k_steps
    (with_reducible rename Fr gI _ _ _ => F₉)
    (with_reducible rename News gI _ _ _ => N₉)
    have hmem : xe ∈ ys := hpm.mem_iff.mp (by simp)
    refine remove_mem (P := RowAt g) (EqOk.mono (eq_row (by show un + 3 + 3 + 1 + 2 < cLine; lia)) (fun _ _ q => (q.keeps FGI.keep).keeps F₉.keep)) F₉ N₉ (.tail _ (.tail _ (.head _))) hpa hxe hmem (by rw [hpa.length, ← hpm.length_eq]; lia) ?_
    intro h₁₀ ac' F₁₀ hpa' N₁₀
    have N₁₁ : News gI LI h₁₀ [(D2, listOf (List.toArray ac') (k2 + 1)), (M, listOf (List.toArray []) 0), (D1, listOf (List.toArray es') (k1 + 1)), (L' + 1, oR)] := by
      refine N₁₀ _ ?_
      intro q hq
      simp only [List.mem_cons, List.not_mem_nil, or_false] at hq
      rcases hq with rfl | rfl | rfl
      · exact ⟨by simp, Ne.symm (Nat.ne_of_lt lM.1)⟩
      · exact ⟨by simp, Nat.ne_of_lt (l2 (D1, listOf us.toArray n1) (.head _))⟩
      · exact ⟨by simp, Nat.ne_of_lt (l2 _ (.tail _ (.head _)))⟩
    clear F₉ N₉ N₁₀
    k_steps
    refine WhileStep.intro (news₂ := [(M, listOf (List.toArray []) 0), (D2, listOf (List.toArray ac') (k2 + 1)), (D1, listOf (List.toArray es') (k1 + 1)), (L' + 1, oR)]) F₁₀ (fun p hp => N₁₁ p ?_) (n' := es'.length) (by simp) ⟨fun z hz => by simp only [if_neg hz], es', ac', k1 + 1, k2 + 1, xs', _, rfl, rfl, hpe', hpa', ?_, ?_⟩
    · simp only [List.mem_cons, List.not_mem_nil, or_false] at hp ⊢
      rcases hp with h | h | h | h <;> simp [h]
    · exact perm_step hpm hmem
    · simp at lxs; lia
end
theorem fl13 : True := by w_top off; first | walk1 | trivial
section
open PySem PySem.W PyProof.Rows PySem.Calls PySem.Spec PySem.SeqAt
set_option maxHeartbeats 4000000
variable {w : World} {mean : ExcName → Option Value} {mg mb : Str → Option Value} {dp un : Nat} {gd : Option (List Code)} {outer : List Env}
local macro_rules | `(tactic| walk_at $k:str) => if ["eval ListComp", "call ref", "exec For", "pyIter ref"].contains k.getString then `(tactic| walk_at "HALT") else Lean.Macro.throwUnsupported
structure NewX (h h' : Heap) (e : Addr) (ctx : Value) : Prop where
  keeps : ∀ b o, h.get? b = some o → h'.get? b = some o
  new : h.get? e = none
  there : ∃ ob t, h'.get? e = some ob ∧ ob.cls = .type "IndexError" ∧ ob.data = .fields #[t, .none, ctx, .none, .bool false, .none]
theorem NewX.of {h h' : Heap} {e : Addr} (x : Heap.NewExc h h' e "IndexError") : NewX h h' e .none := by
  obtain ⟨k, n, ob, t, h1, h2, h3⟩ := x
  exact ⟨k, n, ob, t, h1, h2, h3⟩
theorem note_raw {M : Model} {A : Around} {E : Value → Shared → Prop} {s : Shared} {env cenv : Env} {L L' e : Addr} {oe o' oL : Obj} {vs : Array Value} {Q : Unit → Shared → Prop} (hfr : A.frames = some [env, cenv]) (hf : env.frame = some L') (hcf : cenv.frame = some L)
    (hk : env.scope.kind ≠ .module) (hck : cenv.scope.kind ≠ .module) (hL' : s.heap.get? L' = some o') (hd' : ∀ vs, o'.data ≠ .fields vs) (hL : s.heap.get? L = some oL) (hdL : ∀ vs, oL.data ≠ .fields vs)
    (he : s.heap.get? e = some oe) (hd : oe.data = .fields vs) (h1 : vs[1]? = some .none)
    (h : ∀ h' tb otb tvs, (∀ b o, b ≠ e → b ≠ L' → b ≠ L → s.heap.get? b = some o → h'.get? b = some o) → (∃ sl, h'.get? L' = some { o' with slots := sl }) → (∃ sl, h'.get? L = some { oL with slots := sl }) →
      h'.get? e = some (oe.mapFields (·.setIfInBounds 1 (.ref tb))) → s.heap.get? tb = none → h'.get? tb = some otb → otb.data = .fields tvs → tvs[3]? = some (rawInt L') → Q () { s with heap := h' }) :
    wpAny M A (noteFrame (.ref e) env) Q E s := by
  have hl : s.heap.FunFrames (hideAll s.heap [L', L]) [env, cenv] :=
    ⟨hk, ⟨L', o', hf, hideAll_none _ (by simp), hL', hd'⟩, hck, ⟨L, oL, hcf, hideAll_none _ (by simp), hL, hdL⟩, trivial⟩
  have hsz : 1 < vs.size := (Array.getElem?_eq_some_iff.mp h1).1
  have heL' : e ≠ L' := fun q => by rw [q, hL'] at he; cases he; exact hd' _ hd
  have heL : e ≠ L := fun q => by rw [q, hL] at he; cases he; exact hdL _ hd
  unfold noteFrame
  simp only [hf]
  refine wpAny_bind (wpAny_field he hd h1 ?_)
  rw [if_neg (by decide)]
  refine wpAny_bind (wpAny_frameOf_fun hfr hl hf fun h₁ hs₁ => ?_)
  have hfs : ([env, cenv].filterMap (·.frame)) = [L', L] := by simp [hf, hcf]
  rw [hfs] at hs₁
  refine wpAny_bind (wpAny_entryPlaceOf fun pl hpl => ?_)
  unfold EntryCells.newEntry newFields
  refine wpAny_bind (wpAny_newObj_type ?_ (hpl.sizeOk5 _ _ _ _ _))
  have he₁ : h₁.get? e = some oe := (hs₁.2.1 e (by simp [heL', heL])).trans he
  have he₂ := Heap.get?_push_of_some (h := h₁) { cls := .type "traceback", dict := none, data := .fields ([Value.none, .ref L', .none, rawInt L', .none] ++ (if pl.isEmpty then List.replicate 6 Value.none else pl)).toArray } he₁
  refine wpAny_setField he₂ hd hsz ?_
  have hTe : h₁.objs.size ≠ e := Nat.ne_of_gt (Heap.lt_size he₁)
  have hd₃ := Obj.data_mapFields hd (·.setIfInBounds 1 (Value.ref h₁.objs.size))
  have keep : ∀ b o, b ≠ e → h₁.get? b = some o →
      ((h₁.push { cls := .type "traceback", dict := none, data := .fields ([Value.none, .ref L', .none, rawInt L', .none] ++ (if pl.isEmpty then List.replicate 6 Value.none else pl)).toArray }).update e (Obj.mapFields (·.setIfInBounds 1 (Value.ref h₁.objs.size)))).get? b = some o :=
    fun b o hbe hb => by
      rw [Heap.get?_update_other _ _ (Ne.symm hbe)]
      exact Heap.get?_push_of_some _ hb
  have hT₃ := (Heap.get?_update_other (h₁.push { cls := .type "traceback", dict := none, data := .fields ([Value.none, .ref L', .none, rawInt L', .none] ++ (if pl.isEmpty then List.replicate 6 Value.none else pl)).toArray })
    (Obj.mapFields (·.setIfInBounds 1 (Value.ref h₁.objs.size))) (Ne.symm hTe)).trans (Heap.get?_push_size h₁ rfl)
  refine h _ h₁.objs.size _ _ (fun b o hbe hb1 hb2 hb => keep b o hbe ((hs₁.2.1 b (by simp [hb1, hb2])).trans hb)) ?_ ?_ (Heap.get?_update_self _ he₂ (Obj.isFreed_of_fields hd₃)) (Heap.get?_none_of_le (by rw [hs₁.1]; exact Nat.le_refl _)) hT₃ rfl ?_
  · obtain ⟨sl, q⟩ := hs₁.2.2 L' o' hL'
    exact ⟨sl, keep _ _ (Ne.symm heL') q⟩
  · obtain ⟨sl, q⟩ := hs₁.2.2 L oL hL
    exact ⟨sl, keep _ _ (Ne.symm heL) q⟩
  · first | (simp; done) | (rcases hpl with rfl | ⟨_, _, _, _, _, _, _, rfl⟩ <;> simp)
theorem entry_unchain : entryFor table "proto.unchain" = some Builtin.«proto.unchain» := entryFor_of_fast (by kernel_rfl)
noncomputable def HandledOk (hd : Option Value) (h : Heap) (ctx : Value) : Prop :=
  (hd = none ∧ ctx = .none) ∨ ∃ (e0 : Addr) (o0 : Obj) (vs0 : Array Value), hd = some (.ref e0) ∧ ctx = .ref e0 ∧ h.get? e0 = some o0 ∧ o0.data = .fields vs0 ∧ vs0[2]? = some .none
theorem raiseNew_any {α : Type} {prog : Program} {A : Around} {E : Value → Shared → Prop} {s : Shared} {h : Heap} {e : Addr} {ctx t : Value} {ob : Obj} {Q : α → Shared → Prop} (hh : HandledOk A.handled h ctx) (hk : h.StaysIn s.heap) (hn : h.get? e = none) (he : s.heap.get? e = some ob) (hc : ob.cls = .type "IndexError") (hd : ob.data = .fields #[t, .none, .none, .none, .bool false, .none])
    (hE : ∀ h', NewX h h' e ctx → E (.ref e) { s with heap := h' }) : wpAny (model prog w) A (raiseNew (.ref e) : Sem α) Q E s := by
  unfold raiseNew
  refine wpAny_bind (wpAny_handled ?_)
  rcases hh with ⟨h1, rfl⟩ | ⟨e0, o0, vs0, h1, rfl, g0, d0, c0⟩
  · rw [h1]
    exact wpAny_throw (hE s.heap ⟨hk, hn, ob, t, he, hc, hd⟩)
  · rw [h1]
    have hne : e0 ≠ e := fun q => by rw [q, hn] at g0; cases g0
    show wpAny _ _ (if (Value.ref e0 != Value.ref e) = true then _ else _) _ _ _
    rw [if_pos (by simp [hne])]
    refine wpAny_bind (wpAny_holding (wpAny_runValue (codeAny_builtin entry_unchain ?_)))
    show wpAny _ _ (field (.ref e0) 2 >>= _) _ _ _
    refine wpAny_bind (wpAny_field (hk _ _ g0) d0 c0 ?_)
    refine wpAny_pure (show wpAny _ _ _ _ _ _ from ?_)
    refine wpAny_bind (show wpAny _ _ (setField (.ref e) 2 (.ref e0)) _ _ _ from wpAny_setField he hd (by simp) ?_)
    have hd₃ := Obj.data_mapFields hd (·.setIfInBounds 2 (Value.ref e0))
    refine wpAny_throw (hE _ ⟨fun b o q => ?_, hn, _, t, Heap.get?_update_self _ he (Obj.isFreed_of_fields hd₃), ?_, ?_⟩)
    · rw [Heap.get?_update_other _ _ (fun z => by rw [← z, hn] at q; cases q)]
      exact hk _ _ q
    · rw [Obj.cls_mapFields]; exact hc
    · rw [hd₃]; simp
section
variable {prog : Program} {A : Around} {E : Value → Shared → Prop} {s : Shared} {ctx : Value}
theorem raise_words {α : Type} {msg : String} {Q : α → Shared → Prop} (hh : HandledOk A.handled s.heap ctx) (hE : ∀ h' tk e, NewX s.heap h' e ctx → E (.ref e) { s with heap := h', toks := tk }) : wpAny (model prog w) A (raiseErrorWords "IndexError" msg : Sem α) Q E s := by
  unfold raiseErrorWords
  refine wpAny_bind (wpAny_mkText (wpAny_bind ?_))
  unfold newExc newTuple
  refine wpAny_bind (wpAny_newObj_type ?_)
  refine wpAny_bind (m := firstArgMember _ _) (wpAny_of_eq (a := Value.none) (by simp only [firstArgMember, plainExc_IndexError.first]; rfl) ?_)
  rw [plainExc_IndexError.own]
  refine wpAny_newObj_type ?_
  refine raiseNew_any hh (fun b o q => Heap.get?_push_of_some _ (Heap.get?_push_of_some _ q)) (Heap.get?_none_of_le (by simp)) (Heap.get?_push_size _ rfl) rfl (t := .ref s.heap.objs.size) (by simp) ?_
  intro h' x
  exact hE _ _ _ x
theorem raise_made {α : Type} {msg : String} {Q : α → Shared → Prop} (hh : HandledOk A.handled s.heap ctx) (hE : ∀ h' tk e, NewX s.heap h' e ctx → E (.ref e) { s with heap := h', toks := tk }) (hm : (msg : Str).length ≤ sizeLine := by size_fits) : wpAny (model prog w) A (raiseErrorMade "IndexError" msg : Sem α) Q E s := by
  unfold raiseErrorMade
  refine wpAny_bind (wpAny_mkStr (wpAny_bind ?_) hm)
  unfold newExc newTuple
  refine wpAny_bind (wpAny_newObj_type ?_)
  refine wpAny_bind (m := firstArgMember _ _) (wpAny_of_eq (a := Value.none) (by simp only [firstArgMember, plainExc_IndexError.first]; rfl) ?_)
  rw [plainExc_IndexError.own]
  refine wpAny_newObj_type ?_
  refine raiseNew_any hh (fun b o q => Heap.get?_push_of_some _ (Heap.get?_push_of_some _ q)) (Heap.get?_none_of_le (by simp)) (Heap.get?_push_size _ rfl) rfl (t := .ref s.heap.objs.size) (by simp) ?_
  intro h' x
  exact hE _ _ _ x
theorem get_out {l : Addr} {items : Array Value} {k : Int} {t : Tok} {Q : Value → Shared → Prop} (hh : HandledOk A.handled s.heap ctx) (hl : s.heap.IsList l items) (h0 : 0 ≤ k) (hi : (items.size : Int) ≤ k) (hfit : k < 2 ^ 63)
    (hE : ∀ h' tk e, NewX s.heap h' e ctx → E (.ref e) { s with heap := h', toks := tk }) : wpAny (model prog w) A (getItem (.ref l) (.int k t)) Q E s := by
  obtain ⟨o, ho, hc, ne, hd⟩ := id hl
  unfold getItem
  try with_reducible refine wpAny_holding ?_
  first | refine wpAny_bind (wpAny_pure ?_) | skip
  refine wpAny_bind (wpAny_sequenceKey hl.typeIs (by decide) ?_)
  refine wpAny_bind (wpAny_callSpecial?_slot (name := Str.ofString "__getitem__") hl.typeIs slot_list_getitem
    (wpAny_call_entry slot_list_getitem hl.typeIs entry_list_getitem ?_ (args_list_getitem _ _)))
  show wpAny _ _ (Builtin.List.listSubscript? (.int k t) >>= _) _ _ s
  refine wpAny_bind (wpAny_listSubscript_int (fitsIndex_of h0 hfit) ?_)
  clear hfit
  obtain ⟨j, rfl⟩ := Int.eq_ofNat_of_zero_le h0
  have hx : items[j]? = none := Array.getElem?_eq_none (by have : (items.size : Int) ≤ (j : Int) := hi; omega)
  show wpAny _ _ ((seqItemAt l j >>= fun r => pure (r.map (j, ·))) >>= _) _ _ s
  refine wpAny_bind (wpAny_bind (wpAny_seqItemAt ho hd (wpAny_pure ?_)))
  rw [hx]
  first
    | exact wpAny_bind (wpAny_rule (by first | exact raise_words hh hE | exact raise_made hh hE))
    | exact wpAny_bind (wpAny_rule (wpAny_bind (by first | exact raise_words hh hE | exact raise_made hh hE)))
    | exact wpAny_bind (wpAny_bind (wpAny_rule (by first | exact raise_words hh hE | exact raise_made hh hE)))
    | exact wpAny_rule (by first | exact raise_words hh hE | exact raise_made hh hE)
theorem item_out {value slice : Expr} {l : Addr} {items : Array Value} {i : Nat} {t : Tok} {Q : Value → Shared → Prop} (hh : HandledOk A.handled s.heap ctx) (hl : s.heap.IsList l items) (hi : items.size ≤ i) (hfit : i ≤ 1000000)
    (hE : ∀ h' tk e, NewX s.heap h' e ctx → E (.ref e) { s with heap := h', toks := tk })
    (hs : subscripted slice false (.ref l) (.int (i : Int) t) = operate [.ref l, .int (i : Int) t] (getItem (.ref l) (.int (i : Int) t)) := by with_unfolding_all rfl) : wpAny (model prog w) A (subscriptTail value slice (.ref l) (.int (i : Int) t)) Q E s :=
  subscriptTail_builtinR (x := .none) hl.typeIs slot_list_getitem.lookup (get_out hh hl (by omega) (by omega) (by omega) hE) hs
end
structure Fly (g : Heap) (L' : Addr) (h : Heap) (m : Str → Option Value) (e tb : Addr) (oe otb : Obj) (ctx : Value) (nx : List (Addr × Obj)) (fl : Value) : Prop where
  fr : Fr g L' h m
  led : News g L' h ((e, oe) :: (tb, otb) :: nx)
  cls : oe.cls = .type "IndexError"
  dat : ∃ vs, oe.data = .fields vs ∧ vs[1]? = some (.ref tb) ∧ vs[2]? = some ctx
  tdat : ∃ tvs, otb.data = .fields tvs ∧ tvs[3]? = some fl
  ne : tb ≠ e
  off : ∀ p ∈ nx, p.1 ≠ e ∧ p.1 ≠ tb
section
variable {prog : Program} {A : Around} {E : Value → Shared → Prop} {s : Shared} {g h : Heap} {L L' e tb : Addr} {m : Str → Option Value} {oe otb oL : Obj} {ctx fl : Value} {nx new : List (Addr × Obj)} {env cenv : Env} {Q : Unit → Shared → Prop}
theorem note_new (hfr : A.frames = some [env, cenv]) (hf : env.frame = some L') (hcf : cenv.frame = some L) (hk : env.scope.kind = .function) (hck : cenv.scope.kind = .function) (hx : NewX h s.heap e ctx) (F : Fr g L' h m) (N : News g L' h (new ++ [(L, oL)])) (hne : ∀ p ∈ new, p.1 ≠ L) (hLd : ∃ es ep, oL.data = .dict es ep)
    (k : ∀ h' tb oe otb sl, Fly g L' h' m e tb oe otb ctx (new ++ [(L, { oL with slots := sl })]) (rawInt L') → Q () { s with heap := h' }) : wpAny (model prog w) A (noteFrame (.ref e) env) Q E s := by
  obtain ⟨ob, t, he, hc, hd⟩ := hx.there
  obtain ⟨o', es', ep', e', d', r'⟩ := F.ns
  obtain ⟨esL, epL, hLd⟩ := hLd
  have hL := N (L, oL) (by simp)
  have hg : ∀ {b : Addr}, h.get? b = none → g.get? b = none := fun {b} q => by
    cases z : g.get? b with
    | none => rfl
    | some o => rw [F.keep _ _ z] at q; cases q
  refine note_raw hfr hf hcf (by rw [hk]; decide) (by rw [hck]; decide) (hx.keeps _ _ e') (fun vs q => by rw [d'] at q; cases q) (hx.keeps _ _ hL.1) (fun vs q => by rw [hLd] at q; cases q) he hd rfl ?_
  rintro h' tb otb tvs keep ⟨sl', hL'⟩ ⟨sl, hLL⟩ hee htn htb htd h3
  have htn' : h.get? tb = none := by
    cases z : h.get? tb with
    | none => rfl
    | some o => rw [hx.keeps _ _ z] at htn; cases htn
  have heL' : e ≠ L' := fun q => by have := hx.new; rw [q, e'] at this; cases this
  have htL' : tb ≠ L' := fun q => by rw [q, e'] at htn'; cases htn'
  refine k h' tb _ otb sl ⟨⟨⟨_, es', ep', hL', d', r'⟩, fun b o q => keep b o (fun z => by have := hx.new; rw [← z, F.keep _ _ q] at this; cases this) (fun z => by rw [z] at q; exact absurd (Nat.lt_of_lt_of_le (Heap.lt_size q) F.above) (Nat.lt_irrefl _)) (fun z => by rw [z, hL.2.2] at q; cases q) (hx.keeps _ _ (F.keep _ _ q)), F.above⟩, ?_, ?_, ⟨_, Obj.data_mapFields hd (·.setIfInBounds 1 (Value.ref tb)), rfl, rfl⟩, ⟨tvs, htd, h3⟩, ?_, ?_⟩
  · intro p hp
    rcases List.mem_cons.mp hp with rfl | hp
    · exact ⟨hee, heL', hg hx.new⟩
    · rcases List.mem_cons.mp hp with rfl | hp
      · exact ⟨htb, htL', hg htn'⟩
      · rcases List.mem_append.mp hp with hp | hp
        · have := N p (List.mem_append.mpr (.inl hp))
          exact ⟨keep _ _ (fun z => by have q := hx.new; rw [← z, this.1] at q; cases q) this.2.1 (hne p hp) (hx.keeps _ _ this.1), this.2⟩
        · rw [List.mem_singleton.mp hp]
          exact ⟨hLL, hL.2⟩
  · rw [Obj.cls_mapFields]; exact hc
  · intro q; rw [q, he] at htn; cases htn
  · intro p hp
    have alive : ∃ o, h.get? p.1 = some o := by
      rcases List.mem_append.mp hp with hp | hp
      · exact ⟨_, (N p (List.mem_append.mpr (.inl hp))).1⟩
      · rw [List.mem_singleton.mp hp]; exact ⟨_, hL.1⟩
    obtain ⟨o, ho⟩ := alive
    refine ⟨fun q => ?_, fun q => ?_⟩
    · have := hx.new
      rw [← q, ho] at this; cases this
    · rw [← q, ho] at htn'; cases htn'
theorem Fly.again (H : Fly g L' s.heap m e tb oe otb ctx nx (rawInt L')) (hf : env.frame = some L') (k : Q () s) : wpAny (model prog w) A (noteFrame (.ref e) env) Q E s := by
  obtain ⟨vs, d, h1, _⟩ := H.dat
  obtain ⟨tvs, td, h3⟩ := H.tdat
  exact wpAny_noteFrame_inFlight hf (H.led _ (.head _)).1 d h1 (H.led _ (.tail _ (.head _))).1 td h3 k
theorem Fly.set (H : Fly g L' s.heap m e tb oe otb ctx nx fl) (f : Option Addr) (k : ∀ h' otb', Fly g L' h' m e tb oe otb' ctx nx (f.elim .none fun f => rawInt f) → Q () { s with heap := h' }) : wpAny (model prog w) A (setFlight (.ref e) f) Q E s := by
  obtain ⟨vs, d, h1, h2⟩ := H.dat
  obtain ⟨tvs, td, h3⟩ := H.tdat
  have hsz : 3 < tvs.size := (Array.getElem?_eq_some_iff.mp h3).1
  have htb := H.led (tb, otb) (.tail _ (.head _))
  have hd₃ := Obj.data_mapFields td (·.setIfInBounds 3 (f.elim Value.none fun f => rawInt f))
  unfold setFlight
  refine wpAny_bind (wpAny_field (H.led _ (.head _)).1 d h1 ?_)
  rw [if_pos (show (Value.ref tb != Value.none) = true from by simp)]
  refine wpAny_setField htb.1 td hsz (k _ _ ⟨H.fr.change (Heap.SameBut.update ..) htb.2.1 htb.2.2, ?_, H.cls, H.dat, ⟨_, hd₃, by simp [Array.getElem?_setIfInBounds, hsz]⟩, H.ne, H.off⟩)
  intro p hp
  rcases List.mem_cons.mp hp with rfl | hp
  · have := H.led (e, oe) (.head _)
    exact ⟨((Heap.SameBut.update ..).2 _ (Ne.symm H.ne)).trans this.1, this.2⟩
  · rcases List.mem_cons.mp hp with rfl | hp
    · exact ⟨Heap.get?_update_self _ htb.1 (Obj.isFreed_of_fields hd₃), htb.2⟩
    · have := H.led p (.tail _ (.tail _ hp))
      exact ⟨((Heap.SameBut.update ..).2 _ (H.off p hp).2).trans this.1, this.2⟩
theorem Fly.back {E' : Value → Shared → Prop} (H : Fly g L' s.heap m e tb oe otb ctx nx fl) (hf : env.frame = some L') (k : ∀ h' otb', Fly g L' h' m e tb oe otb' ctx nx (rawInt L') → E' (.ref e) { s with heap := h' }) : cameBackBy (model prog w) A env E' (.ref e) s := by
  obtain ⟨vs, d, h1, h2⟩ := H.dat
  unfold cameBackBy
  refine wpAny_bind (wpAny_field (H.led _ (.head _)).1 d h1 ?_)
  rw [if_neg (by simp)]
  rw [hf]
  first
    | exact H.set (some L') k
    | exact wpAny_bind (wpAny_pure (H.set (some L') k))
theorem Fly.pass {α : Type} {what : String} {Q' : α → Shared → Prop} (H : Fly g L' s.heap m e tb oe otb ctx nx fl) (hf : env.frame = some L') (k : ∀ h' otb', Fly g L' h' m e tb oe otb' ctx nx (rawInt L') → E (.ref e) { s with heap := h' }) : wpAny (model prog w) A (PySem.passOn what (.ref e) env : Sem α) Q' E s := by
  obtain ⟨vs, d, h1, h2⟩ := H.dat
  unfold PySem.passOn
  refine wpAny_bind (wpAny_field (H.led _ (.head _)).1 d h1 ?_)
  rw [if_neg (by simp)]
  rw [hf]
  first
    | exact wpAny_bind (H.set (some L') fun h' otb' x => wpAny_throw (k h' otb' x))
    | exact wpAny_bind (wpAny_pure (wpAny_bind (H.set (some L') fun h' otb' x => wpAny_throw (k h' otb' x))))
end
inductive Thr (g : Heap) (L' L : Addr) (oL : Obj) (s₀ : Shared) (S : Value → (Str → Option Value) → List (Addr × Obj) → Prop) : Value → Shared → Prop
  | new {h h' e ctx m new sl tk} : NewX h h' e ctx → Fr g L' h m → News g L' h (new ++ [(L, { oL with slots := sl })]) → (∀ p ∈ new, p.1 ≠ L) → S ctx m new → Thr g L' L oL s₀ S (.ref e) { s₀ with heap := h', toks := tk }
  | fly {h' e tb oe otb ctx m new sl tk} : Fly g L' h' m e tb oe otb ctx (new ++ [(L, { oL with slots := sl })]) (rawInt L') → (∀ p ∈ new, p.1 ≠ L) → S ctx m new → Thr g L' L oL s₀ S (.ref e) { s₀ with heap := h', toks := tk }
theorem Thr.noted {prog : Program} {A : Around} {E : Value → Shared → Prop} {g : Heap} {L' L : Addr} {oL : Obj} {s₀ : Shared} {S : Value → (Str → Option Value) → List (Addr × Obj) → Prop} {env cenv : Env} {e : Value} {s : Shared} {Q : Unit → Shared → Prop} (H : Thr g L' L oL s₀ S e s) (hfr : A.frames = some [env, cenv]) (hf : env.frame = some L') (hcf : cenv.frame = some L) (hk : env.scope.kind = .function) (hck : cenv.scope.kind = .function) (hLd : ∃ es ep, oL.data = .dict es ep)
    (k : ∀ h' tk e' tb oe otb ctx m new sl, e = .ref e' → Fly g L' h' m e' tb oe otb ctx (new ++ [(L, { oL with slots := sl })]) (rawInt L') → (∀ p ∈ new, p.1 ≠ L) → S ctx m new → Q () { s₀ with heap := h', toks := tk }) : wpAny (model prog w) A (noteFrame e env) Q E s := by
  cases H with
  | new hx F N hne hS =>
    refine note_new hfr hf hcf hk hck hx F N hne (by obtain ⟨es, ep, q⟩ := hLd; exact ⟨es, ep, q⟩) ?_
    intro h' tb oe otb sl H
    exact k _ _ _ _ _ _ _ _ _ _ rfl H hne hS
  | fly H hne hS => exact H.again hf (k _ _ _ _ _ _ _ _ _ _ rfl H hne hS)
theorem Thr.passes {prog : Program} {A A' : Around} {g : Heap} {L' L : Addr} {oL : Obj} {s₀ : Shared} {S : Value → (Str → Option Value) → List (Addr × Obj) → Prop} {env cenv : Env} (hfr : A'.frames = some [env, cenv]) (hf : env.frame = some L') (hcf : cenv.frame = some L) (hk : env.scope.kind = .function) (hck : cenv.scope.kind = .function) (hLd : ∃ es ep, oL.data = .dict es ep) :
    PassesOwnAt (model prog w) A' A env (Thr g L' L oL s₀ S) := by
  intro e s H
  unfold notedBy
  refine Thr.noted H hfr hf hcf hk hck hLd ?_
  rintro h' tk e' tb oe otb ctx m new sl rfl H hne hS
  exact H.back hf fun h'' otb' H' => .fly H' hne hS
theorem extend_mem {prog : Program} {A : Around} {E : Value → Shared → Prop} {s : Shared} {h₀ : Heap} {L D b : Addr} {m : Str → Option Value} {news : List (Addr × Obj)} {its its2 : List Value} {n n2 : Nat} {Q : Value → Shared → Prop} (F : Fr h₀ L s.heap m) (N : News h₀ L s.heap news) (hm : (D, listOf (List.toArray its) n) ∈ news) (hb : (b, listOf (List.toArray its2) n2) ∈ news)
    (hsz : its.length ≤ 1000 ∧ its2.length ≤ 1000) (h : ∀ h' n', Fr h₀ L h' m → (∀ nx : List (Addr × Obj), (∀ p ∈ nx, p ∈ news ∧ p.1 ≠ D) → News h₀ L h' ((D, listOf (List.toArray (its ++ its2)) n') :: nx)) → Q .none { s with heap := h' }) : wpAny (model prog w) A (call (.builtin "list.extend") [.ref D, .ref b]) Q E s := by
  have z := N _ hm
  have hs : its.toArray.size + its2.toArray.size ≤ sizeLine := by rw [List.size_toArray, List.size_toArray, sizeLine_eq]; omega
  refine call_meets PySem.F.slot_list_extend ⟨_, z.1, rfl⟩ PySem.F.entry_list_extend (PySem.F.args_list_extend_2 _ _) (AutoSeq1.list_extend_list_list_0 D its.toArray n b its2.toArray n2 (extend_door hs) (Nat.le_trans (Nat.le_add_right _ _) hs) (Nat.le_succ_of_le hs)) ⟨z.1, (N _ hb).1, h _ (if (its.toArray ++ its2.toArray).size == its.toArray.size then n else n + 1) (F.change (Heap.SameBut.update ..) z.2.1 z.2.2) fun nx hnx p hp => ?_⟩
  rcases List.mem_cons.mp hp with rfl | hp
  · refine ⟨?_, z.2⟩
    have q := PySem.IsL.update z.1 (fun x => x ++ its2.toArray)
    simp only [List.append_toArray] at q ⊢
    exact q
  · have := N p (hnx p hp).1
    exact ⟨((Heap.SameBut.update ..).2 _ (hnx p hp).2).trans this.1, this.2⟩
end
theorem fl14 : True := by w_top off; first | walk1 | trivial
section
open PySem PySem.W PyProof.Rows PySem.Calls PySem.Spec PySem.SeqAt
set_option maxHeartbeats 4000000
variable {w : World} {mean : ExcName → Option Value} {mg mb : Str → Option Value} {dp un : Nat} {gd : Option (List Code)} {outer : List Env}
local macro_rules | `(tactic| walk_at $k:str) => if ["eval ListComp", "call ref", "exec For", "pyIter ref", "subscriptTail", "exec While"].contains k.getString then `(tactic| walk_at "HALT") else Lean.Macro.throwUnsupported
noncomputable def RcOk {α : Type} [DecidableEq α] (A : Around) (s : Shared) (P : Value → α → Prop) : Prop := ∀ v x u y, P v x → P u y → RcAt A s v u (decide (x = y))
section
variable {α : Type} [DecidableEq α]
theorem drop_at {x : List α} {i : Nat} {xi : α} (h : x[i]? = some xi) : x.drop i = xi :: x.drop (i + 1) := by
  obtain ⟨hi, rfl⟩ := List.getElem?_eq_some_iff.mp h
  exact List.drop_eq_getElem_cons hi
theorem drop_out {x : List α} {i : Nat} (h : x[i]? = none) : x.drop i = [] := List.drop_eq_nil_of_le (List.getElem?_eq_none_iff.mp h)
noncomputable def Scan (x : List α) (i k : Nat) (xi : α) : Prop := i + 1 ≤ k ∧ k ≤ x.length ∧ (x.drop k).dropWhile (· == xi) = (x.drop (i + 1)).dropWhile (· == xi)
theorem Scan.start {x : List α} {i : Nat} {xi : α} (h : x[i]? = some xi) : Scan x i (i + 1) xi := by
  obtain ⟨hi, _⟩ := List.getElem?_eq_some_iff.mp h
  exact ⟨Nat.le_refl _, hi, rfl⟩
theorem Scan.step {x : List α} {i k : Nat} {xi z : α} (h : Scan x i k xi) (hz : x[k]? = some z) (e : z = xi) : Scan x i (k + 1) xi := by
  subst e
  obtain ⟨hk, _⟩ := List.getElem?_eq_some_iff.mp hz
  refine ⟨by have := h.1; lia, hk, ?_⟩
  rw [← h.2.2, drop_at hz, List.dropWhile_cons]
  simp
theorem Scan.stop {x : List α} {i k : Nat} {xi z : α} (h : Scan x i k xi) (hz : x[k]? = some z) (e : z ≠ xi) : (x.drop (i + 1)).dropWhile (· == xi) = x.drop k := by
  rw [← h.2.2, drop_at hz, List.dropWhile_cons]
  simp [e]
theorem Scan.out {x : List α} {i k : Nat} {xi : α} (h : Scan x i k xi) (hz : x[k]? = none) : (x.drop (i + 1)).dropWhile (· == xi) = x.drop k := by
  rw [← h.2.2, drop_out hz]
  rfl
end
noncomputable abbrev sldScope : Scope := { kind := ScopeKind.function, names := [(Str.ofString "expected", NameKind.local), (Str.ofString "actual", NameKind.local), (Str.ofString "i", NameKind.local), (Str.ofString "j", NameKind.local), (Str.ofString "missing", NameKind.local), (Str.ofString "unexpected", NameKind.local), (Str.ofString "e", NameKind.local), (Str.ofString "a", NameKind.local), (Str.ofString "IndexError", NameKind.globalImplicit)], isGenerator := false, isCoroutine := false }
noncomputable abbrev sldEnv (L' : Addr) : Env := envOf (Str.ofString "sorted_list_difference") sldScope L' 51 (Value.ref 50)
inductive ScanJ_x {α : Type} [DecidableEq α] (x : List α) (i : Nat) (xi : α) (vi : Value) (a : Addr) (m0 : Str → Option Value) (nx0 : List (Addr × Obj)) (n : Nat) (m : Str → Option Value) (nx : List (Addr × Obj)) : Prop
  | mk (k : Nat) (t : Tok) : n = x.length - k → Scan x i k xi → (∀ z, m z = (fun z => if z = Str.ofString "i" then some (Value.int (k : Nat) t) else if z = Str.ofString "e" then some vi else if z = Str.ofString "expected" then some (Value.ref a) else m0 z) z) → nx = nx0 → ScanJ_x x i xi vi a m0 nx0 n m nx
theorem scan_x {α : Type} [DecidableEq α] {P : Value → α → Prop} {A : Around} {s : Shared} {Q : Flow → Shared → Prop} {E : Value → Shared → Prop} {g : Heap} {L' a : Addr} {x : List α} {vs : List Value} {xi : α} {vi ctx : Value} {i k0 : Nat} {t0 : Tok} {m0 : Str → Option Value} {nx : List (Addr × Obj)}
    {p1 p2 p3 p4 p5 p6 p7 p8 p9 : Pos} (hl : g.IsList a vs.toArray) (hp : Paired P vs x) (lx : vs.length ≤ 40) (hvi : P vi xi) (hE : ∀ s' : Shared, g.StaysIn s'.heap → RcOk A s' P)
    (F : Fr g L' s.heap (fun z => if z = Str.ofString "i" then some (Value.int (k0 : Nat) t0) else if z = Str.ofString "e" then some vi else if z = Str.ofString "expected" then some (Value.ref a) else m0 z)) (N : News g L' s.heap nx) (hsc : Scan x i k0 xi)
    (hctx : ∀ h, News g L' h nx → HandledOk A.handled h ctx)
    (out : ∀ (k : Nat) (t : Tok) (h : Heap), x[k]? = none → Scan x i k xi → Fr g L' h (fun z => if z = Str.ofString "i" then some (Value.int (k : Nat) t) else if z = Str.ofString "e" then some vi else if z = Str.ofString "expected" then some (Value.ref a) else m0 z) → News g L' h nx →
      ∀ (h' : Heap) (tk' : Nat) (e : Addr), NewX h h' e ctx → E (.ref e) { s with heap := h', toks := tk' })
    (stop : ∀ (k : Nat) (t : Tok) (h : Heap) (tk : Nat) (z : α), x[k]? = some z → z ≠ xi → Scan x i k xi → Fr g L' h (fun z => if z = Str.ofString "i" then some (Value.int (k : Nat) t) else if z = Str.ofString "e" then some vi else if z = Str.ofString "expected" then some (Value.ref a) else m0 z) → News g L' h nx →
      Q .next { s with heap := h, toks := tk })
    (hpass : PassesOwn (model PySem.Challenge.rw_ny0140_01.row.prog w) A (sldEnv L') E) :
    wpAny (model PySem.Challenge.rw_ny0140_01.row.prog w) A (exec (.While (.Compare (.Subscript (.Name (Str.ofString "expected") p1) (.Name (Str.ofString "i") p2) p3) [.Eq] [.Name (Str.ofString "e") p4] p5) [.AugAssign (.Name (Str.ofString "i") p6) .Add (.Constant (.int 1) 0 p7) p8] [] p9) (sldEnv L')) Q E s := by
  (have fill : (fun w : World => _root_.Mine.hd.heap_1_1 w.params) = (fun w : World => _root_.Mine.hd.heap_1_1 w.params) ∧ PySem.Challenge.rw_ny0140_01.row.prog = PySem.Challenge.rw_ny0140_01.row.prog := (by k_fill; exact ⟨rfl, rfl⟩); clear fill)
  have lv : vs.toArray.size = x.length := by rw [List.size_toArray, hp.length]
  have lx' : x.length ≤ 40 := by rw [← hp.length]; exact lx
  refine While_inv (ScanJ_x x i xi vi a m0 nx) F N (.mk k0 t0 rfl hsc (fun _ => rfl) rfl) ?_ hpass
  rintro n m₂ nx₂ h₉ tk₉ F₉' N₉ ⟨k, t, rfl, hsck, hm, rfl⟩
  have F₉ : Fr g L' h₉ (fun z => if z = Str.ofString "i" then some (Value.int (k : Nat) t) else if z = Str.ofString "e" then some vi else if z = Str.ofString "expected" then some (Value.ref a) else m0 z) := by rw [← funext hm]; exact F₉'
  clear F₉' hm
  k_steps
  cases exk : x[k]? with
  | none =>
    have hkk := List.getElem?_eq_none_iff.mp exk
    have hcck := hsck.2.1
    refine Halt.mk (item_out (hctx _ N₉) (isList_keeps F₉.keep hl) (by omega) (by omega) ?_)
    intro h₁₁ tk₁₁ e₁₁ x₁₁
    exact out k t _ exk hsck F₉ N₉ _ _ _ x₁₁
  | some zz =>
    obtain ⟨vz, evz, hvz⟩ := Paired.get' hp exk
    have evz' : vs.toArray[k]? = some vz := by simpa using evz
    refine Halt.mk (item_list (isList_keeps F₉.keep hl) evz' (by omega) ?_)
    clear evz evz'
    k_steps
    refine hE _ (by exact F₉.keep) _ _ _ _ hvz hvi _ _ _ _ ?_
    by_cases hzk : zz = xi
    · rw [decide_eq_true hzk]
      k_steps
      (with_reducible rename Fr g _ _ _ => F₁₀)
      (with_reducible rename News g _ _ _ => N₁₀)
      obtain ⟨hk9, _⟩ := List.getElem?_eq_some_iff.mp exk
      exact WhileStep.intro F₁₀ N₁₀ (n' := x.length - (k + 1)) (by omega) (.mk (k + 1) _ rfl (hsck.step exk hzk) (by intro z; by_cases h1 : z = Str.ofString "i"; (subst h1; rfl); (simp only [if_neg h1])) rfl)
    · rw [decide_eq_false hzk]
      k_steps
      exact stop k t _ tk₉ zz exk hzk hsck F₉ N₉
inductive ScanJ_y {α : Type} [DecidableEq α] (x : List α) (i : Nat) (xi : α) (vi : Value) (a : Addr) (m0 : Str → Option Value) (nx0 : List (Addr × Obj)) (n : Nat) (m : Str → Option Value) (nx : List (Addr × Obj)) : Prop
  | mk (k : Nat) (t : Tok) : n = x.length - k → Scan x i k xi → (∀ z, m z = (fun z => if z = Str.ofString "j" then some (Value.int (k : Nat) t) else if z = Str.ofString "a" then some vi else if z = Str.ofString "actual" then some (Value.ref a) else m0 z) z) → nx = nx0 → ScanJ_y x i xi vi a m0 nx0 n m nx
theorem scan_y {α : Type} [DecidableEq α] {P : Value → α → Prop} {A : Around} {s : Shared} {Q : Flow → Shared → Prop} {E : Value → Shared → Prop} {g : Heap} {L' a : Addr} {x : List α} {vs : List Value} {xi : α} {vi ctx : Value} {i k0 : Nat} {t0 : Tok} {m0 : Str → Option Value} {nx : List (Addr × Obj)}
    {p1 p2 p3 p4 p5 p6 p7 p8 p9 : Pos} (hl : g.IsList a vs.toArray) (hp : Paired P vs x) (lx : vs.length ≤ 40) (hvi : P vi xi) (hE : ∀ s' : Shared, g.StaysIn s'.heap → RcOk A s' P)
    (F : Fr g L' s.heap (fun z => if z = Str.ofString "j" then some (Value.int (k0 : Nat) t0) else if z = Str.ofString "a" then some vi else if z = Str.ofString "actual" then some (Value.ref a) else m0 z)) (N : News g L' s.heap nx) (hsc : Scan x i k0 xi)
    (hctx : ∀ h, News g L' h nx → HandledOk A.handled h ctx)
    (out : ∀ (k : Nat) (t : Tok) (h : Heap), x[k]? = none → Scan x i k xi → Fr g L' h (fun z => if z = Str.ofString "j" then some (Value.int (k : Nat) t) else if z = Str.ofString "a" then some vi else if z = Str.ofString "actual" then some (Value.ref a) else m0 z) → News g L' h nx →
      ∀ (h' : Heap) (tk' : Nat) (e : Addr), NewX h h' e ctx → E (.ref e) { s with heap := h', toks := tk' })
    (stop : ∀ (k : Nat) (t : Tok) (h : Heap) (tk : Nat) (z : α), x[k]? = some z → z ≠ xi → Scan x i k xi → Fr g L' h (fun z => if z = Str.ofString "j" then some (Value.int (k : Nat) t) else if z = Str.ofString "a" then some vi else if z = Str.ofString "actual" then some (Value.ref a) else m0 z) → News g L' h nx →
      Q .next { s with heap := h, toks := tk })
    (hpass : PassesOwn (model PySem.Challenge.rw_ny0140_01.row.prog w) A (sldEnv L') E) :
    wpAny (model PySem.Challenge.rw_ny0140_01.row.prog w) A (exec (.While (.Compare (.Subscript (.Name (Str.ofString "actual") p1) (.Name (Str.ofString "j") p2) p3) [.Eq] [.Name (Str.ofString "a") p4] p5) [.AugAssign (.Name (Str.ofString "j") p6) .Add (.Constant (.int 1) 0 p7) p8] [] p9) (sldEnv L')) Q E s := by
  (have fill : (fun w : World => _root_.Mine.hd.heap_1_1 w.params) = (fun w : World => _root_.Mine.hd.heap_1_1 w.params) ∧ PySem.Challenge.rw_ny0140_01.row.prog = PySem.Challenge.rw_ny0140_01.row.prog := (by k_fill; exact ⟨rfl, rfl⟩); clear fill)
  have lv : vs.toArray.size = x.length := by rw [List.size_toArray, hp.length]
  have lx' : x.length ≤ 40 := by rw [← hp.length]; exact lx
  refine While_inv (ScanJ_y x i xi vi a m0 nx) F N (.mk k0 t0 rfl hsc (fun _ => rfl) rfl) ?_ hpass
  rintro n m₂ nx₂ h₉ tk₉ F₉' N₉ ⟨k, t, rfl, hsck, hm, rfl⟩
  have F₉ : Fr g L' h₉ (fun z => if z = Str.ofString "j" then some (Value.int (k : Nat) t) else if z = Str.ofString "a" then some vi else if z = Str.ofString "actual" then some (Value.ref a) else m0 z) := by rw [← funext hm]; exact F₉'
  clear F₉' hm
  k_steps
  cases exk : x[k]? with
  | none =>
    have hkk := List.getElem?_eq_none_iff.mp exk
    have hcck := hsck.2.1
    refine Halt.mk (item_out (hctx _ N₉) (isList_keeps F₉.keep hl) (by omega) (by omega) ?_)
    intro h₁₁ tk₁₁ e₁₁ x₁₁
    exact out k t _ exk hsck F₉ N₉ _ _ _ x₁₁
  | some zz =>
    obtain ⟨vz, evz, hvz⟩ := Paired.get' hp exk
    have evz' : vs.toArray[k]? = some vz := by simpa using evz
    refine Halt.mk (item_list (isList_keeps F₉.keep hl) evz' (by omega) ?_)
    clear evz evz'
    k_steps
    refine hE _ (by exact F₉.keep) _ _ _ _ hvz hvi _ _ _ _ ?_
    by_cases hzk : zz = xi
    · rw [decide_eq_true hzk]
      k_steps
      (with_reducible rename Fr g _ _ _ => F₁₀)
      (with_reducible rename News g _ _ _ => N₁₀)
      obtain ⟨hk9, _⟩ := List.getElem?_eq_some_iff.mp exk
      exact WhileStep.intro F₁₀ N₁₀ (n' := x.length - (k + 1)) (by omega) (.mk (k + 1) _ rfl (hsck.step exk hzk) (by intro z; by_cases h1 : z = Str.ofString "j"; (subst h1; rfl); (simp only [if_neg h1])) rfl)
    · rw [decide_eq_false hzk]
      k_steps
      exact stop k t _ tk₉ zz exk hzk hsck F₉ N₉
noncomputable def C6 (a b M U : Addr) (vi uj : Value) (k : Nat) (t : Tok) (l : Nat) (u : Tok) : Str → Option Value := fun z => if z = Str.ofString "e" then some vi else if z = Str.ofString "a" then some uj else if z = Str.ofString "i" then some (Value.int (k : Nat) t) else if z = Str.ofString "j" then some (Value.int (l : Nat) u) else if z = Str.ofString "unexpected" then some (Value.ref U) else if z = Str.ofString "missing" then some (Value.ref M) else List.lookup z [(Str.ofString "actual", Value.ref b), (Str.ofString "expected", Value.ref a)]
theorem c6_x {a b M U : Addr} {vi uj : Value} {k k' : Nat} {t t' : Tok} {l : Nat} {u : Tok} (z : Str) : (if z = Str.ofString "i" then some (Value.int (k : Nat) t) else if z = Str.ofString "e" then some vi else if z = Str.ofString "expected" then some (Value.ref a) else C6 a b M U vi uj k' t' l u z) = C6 a b M U vi uj k t l u z := by
  by_cases h1 : z = Str.ofString "i"
  · subst h1; rfl
  · by_cases h2 : z = Str.ofString "e"
    · subst h2; rfl
    · by_cases h3 : z = Str.ofString "expected"
      · subst h3; rfl
      · unfold C6
        simp only [if_neg h1, if_neg h2, if_neg h3]
theorem c6_y {a b M U : Addr} {vi uj : Value} {k : Nat} {t : Tok} {l l' : Nat} {u u' : Tok} (z : Str) : (if z = Str.ofString "j" then some (Value.int (l : Nat) u) else if z = Str.ofString "a" then some uj else if z = Str.ofString "actual" then some (Value.ref b) else C6 a b M U vi uj k t l' u' z) = C6 a b M U vi uj k t l u z := by
  by_cases h1 : z = Str.ofString "j"
  · subst h1; rfl
  · by_cases h2 : z = Str.ofString "a"
    · subst h2; rfl
    · by_cases h3 : z = Str.ofString "actual"
      · subst h3; rfl
      · unfold C6
        simp only [if_neg h1, if_neg h2, if_neg h3]
end
theorem fl15 : True := by w_top off; first | walk1 | trivial
section
open PySem PySem.W PyProof.Rows PySem.Calls PySem.Spec PySem.SeqAt
set_option maxHeartbeats 4000000
variable {w : World} {mean : ExcName → Option Value} {mg mb : Str → Option Value} {dp un : Nat} {gd : Option (List Code)} {outer : List Env}
local macro_rules | `(tactic| walk_at $k:str) => if ["eval ListComp", "call ref", "exec For", "pyIter ref", "subscriptTail", "call builtin:list.append", "call builtin:list.extend", "compareOp Eq ref ref", "exec While", "exec Try", "noteFrame ref"].contains k.getString then `(tactic| walk_at "HALT") else Lean.Macro.throwUnsupported
theorem fr_as {g : Heap} {L : Addr} {h : Heap} {m m' : Str → Option Value} (F : Fr g L h m) (e : ∀ z, m z = m' z) : Fr g L h m' := by
  rw [show m' = m from (funext e).symm]; exact F
inductive BrkMore (h₀ : Heap) (L : Addr) (s : Shared) (J : Nat → (Str → Option Value) → List (Addr × Obj) → Prop) (n : Nat) (s₃ : Shared) : Prop
  | mk (h' : Heap) (tk : Nat) (m₂ : Str → Option Value) (news₂ : List (Addr × Obj)) (n' : Nat) : s₃ = { s with heap := h', toks := tk } → Fr h₀ L h' m₂ → News h₀ L h' news₂ → n' < n → J n' m₂ news₂ → BrkMore h₀ L s J n s₃
noncomputable def BrkStep (h₀ : Heap) (L : Addr) (s : Shared) (J : Nat → (Str → Option Value) → List (Addr × Obj) → Prop) (n : Nat) (Q : Flow → Shared → Prop) (f : Flow) (s₃ : Shared) : Prop :=
  match f with
  | .brk => Q .next s₃
  | .ret v => Q (.ret v) s₃
  | _ => BrkMore h₀ L s J n s₃
theorem while_brk {prog : Program} {A : Around} {E : Value → Shared → Prop} {Q : Flow → Shared → Prop} {s : Shared} {env : Env} {h₀ : Heap} {L : Addr} {test : Expr} {body : List Stmt} {pos : Pos} {m : Str → Option Value} {news : List (Addr × Obj)} (J : Nat → (Str → Option Value) → List (Addr × Obj) → Prop) {n₀ : Nat}
    (F : Fr h₀ L s.heap m) (N : News h₀ L s.heap news) (hJ : J n₀ m news)
    (turn : ∀ n m₁ news₁ h₁ tk₁, Fr h₀ L h₁ m₁ → News h₀ L h₁ news₁ → J n m₁ news₁ →
      wpAny (model prog w) A (isTrue test env (eval test env)) (fun b s₂ =>
        if b = true then wpAny (model prog w) A (execs body env) (BrkStep h₀ L s J n Q) never s₂ else Q .next s₂) never { s with heap := h₁, toks := tk₁ }) :
    wpAny (model prog w) A (exec (.While test body [] pos) env) Q E s := by
  refine wpAny_noRaise ?_
  refine wpAny_While (codeAny_whileLoop (fun n s' => ∃ h₁ tk₁ m₁ news₁, s' = { s with heap := h₁, toks := tk₁ } ∧ Fr h₀ L h₁ m₁ ∧ News h₀ L h₁ news₁ ∧ J n m₁ news₁) ?_ n₀ ⟨s.heap, s.toks, m, news, rfl, F, N, hJ⟩)
  rintro n s' ⟨h₁, tk₁, m₁, news₁, rfl, F₁, N₁, J₁⟩
  refine wpAny_mono (turn n m₁ news₁ h₁ tk₁ F₁ N₁ J₁) (fun b s₂ h₂ => ?_) fun _ _ q => q.elim
  cases b with
  | false =>
    simp only [Bool.false_eq_true, if_false] at h₂ ⊢
    exact wpAny_execs_nil h₂
  | true =>
    simp only [if_true] at h₂ ⊢
    refine wpAny_mono h₂ (fun f s₃ h₃ => ?_) fun _ _ q => q.elim
    cases f with
    | ret v => exact h₃
    | brk => exact h₃
    | next =>
      obtain ⟨h', tk, m₂, news₂, n', rfl, F₂, N₂, hn, J₂⟩ := h₃
      exact ⟨n', hn, h', tk, m₂, news₂, rfl, F₂, N₂, J₂⟩
    | cont =>
      obtain ⟨h', tk, m₂, news₂, n', rfl, F₂, N₂, hn, J₂⟩ := h₃
      exact ⟨n', hn, h', tk, m₂, news₂, rfl, F₂, N₂, J₂⟩
section
variable {α : Type} [DecidableEq α] [LT α] [DecidableLT α]
noncomputable def sldN : Nat → List α → List α → List α × List α
  | 0, xs, ys => (xs, ys)
  | n + 1, x :: xs, y :: ys =>
    if x < y then (x :: (sldN n (xs.dropWhile (· == x)) (y :: ys)).1, (sldN n (xs.dropWhile (· == x)) (y :: ys)).2)
    else if y < x then ((sldN n (x :: xs) (ys.dropWhile (· == y))).1, y :: (sldN n (x :: xs) (ys.dropWhile (· == y))).2)
    else sldN n (xs.dropWhile (· == x)) (ys.dropWhile (· == y))
  | _ + 1, xs, ys => (xs, ys)
theorem dropWhile_len (p : α → Bool) (l : List α) : (l.dropWhile p).length ≤ l.length := (List.dropWhile_sublist p).length_le
theorem sldN_fuel : ∀ (n k : Nat) (xs ys : List α), xs.length + ys.length ≤ n → xs.length + ys.length ≤ k → sldN n xs ys = sldN k xs ys := by
  intro n
  induction n with
  | zero =>
    intro k xs ys h _
    have h1 : xs = [] := List.eq_nil_of_length_eq_zero (by lia)
    have h2 : ys = [] := List.eq_nil_of_length_eq_zero (by lia)
    subst h1 h2
    cases k <;> rfl
  | succ n ih =>
    intro k xs ys h hk
    cases xs with
    | nil => cases k <;> cases ys <;> rfl
    | cons x xs =>
      cases ys with
      | nil => cases k <;> rfl
      | cons y ys =>
        cases k with
        | zero => simp at hk
        | succ k =>
          have hx := dropWhile_len (· == x) xs
          have hy := dropWhile_len (· == y) ys
          simp only [List.length_cons] at h hk
          unfold sldN
          rw [ih k _ (y :: ys) (by simp only [List.length_cons]; lia) (by simp only [List.length_cons]; lia), ih k (x :: xs) _ (by simp only [List.length_cons]; lia) (by simp only [List.length_cons]; lia), ih k _ _ (by lia) (by lia)]
noncomputable def sldL (xs ys : List α) : List α × List α := sldN (xs.length + ys.length) xs ys
theorem sldL_cons (x y : α) (xs ys : List α) : sldL (x :: xs) (y :: ys) = if x < y then (x :: (sldL (xs.dropWhile (· == x)) (y :: ys)).1, (sldL (xs.dropWhile (· == x)) (y :: ys)).2)
    else if y < x then ((sldL (x :: xs) (ys.dropWhile (· == y))).1, y :: (sldL (x :: xs) (ys.dropWhile (· == y))).2)
    else sldL (xs.dropWhile (· == x)) (ys.dropWhile (· == y)) := by
  have hx := dropWhile_len (· == x) xs
  have hy := dropWhile_len (· == y) ys
  unfold sldL
  rw [show (x :: xs).length + (y :: ys).length = (xs.length + ys.length + 1) + 1 from by simp only [List.length_cons]; lia]
  rw [sldN_fuel _ (xs.length + ys.length + 1) (xs.dropWhile (· == x)) (y :: ys) (Nat.le_refl _) (by simp only [List.length_cons]; lia), sldN_fuel _ (xs.length + ys.length + 1) (x :: xs) (ys.dropWhile (· == y)) (Nat.le_refl _) (by simp only [List.length_cons]; lia), sldN_fuel _ (xs.length + ys.length + 1) (xs.dropWhile (· == x)) (ys.dropWhile (· == y)) (Nat.le_refl _) (by lia)]
  rfl
theorem sldN_len : ∀ (n : Nat) (xs ys : List α), (sldN n xs ys).1.length ≤ xs.length ∧ (sldN n xs ys).2.length ≤ ys.length := by
  intro n
  induction n with
  | zero => intro xs ys; exact ⟨Nat.le_refl _, Nat.le_refl _⟩
  | succ n ih =>
    intro xs ys
    cases xs with
    | nil => cases ys <;> exact ⟨Nat.le_refl _, Nat.le_refl _⟩
    | cons x xs =>
      cases ys with
      | nil => exact ⟨Nat.le_refl _, Nat.le_refl _⟩
      | cons y ys =>
        have hx := dropWhile_len (· == x) xs
        have hy := dropWhile_len (· == y) ys
        unfold sldN
        split
        · have := ih (xs.dropWhile (· == x)) (y :: ys)
          simp only [List.length_cons] at this ⊢
          lia
        · split
          · have := ih (x :: xs) (ys.dropWhile (· == y))
            simp only [List.length_cons] at this ⊢
            lia
          · have := ih (xs.dropWhile (· == x)) (ys.dropWhile (· == y))
            simp only [List.length_cons]
            lia
theorem sldL_len (xs ys : List α) : (sldL xs ys).1.length ≤ xs.length ∧ (sldL xs ys).2.length ≤ ys.length := sldN_len _ _ _
theorem sldL_nil_left (ys : List α) : sldL [] ys = ([], ys) := by
  unfold sldL
  cases ys <;> rfl
theorem sldL_nil_right (xs : List α) : sldL xs [] = (xs, []) := by
  unfold sldL
  cases xs <;> rfl
end
noncomputable def SldM (a b M U : Addr) (i j : Nat) (ti tj : Tok) (m : Str → Option Value) : Prop :=
  ∀ z, z ≠ Str.ofString "e" → z ≠ Str.ofString "a" → m z = (fun z => if z = Str.ofString "i" then some (Value.int (i : Nat) ti) else if z = Str.ofString "j" then some (Value.int (j : Nat) tj) else if z = Str.ofString "unexpected" then some (Value.ref U) else if z = Str.ofString "missing" then some (Value.ref M) else List.lookup z [(Str.ofString "actual", Value.ref b), (Str.ofString "expected", Value.ref a)]) z
theorem SldM.is {a b M U : Addr} {i j : Nat} {ti tj : Tok} {m : Str → Option Value} (hm : SldM a b M U i j ti tj m) : m = (fun z => if z = Str.ofString "e" then m z else if z = Str.ofString "a" then m z else if z = Str.ofString "i" then some (Value.int (i : Nat) ti) else if z = Str.ofString "j" then some (Value.int (j : Nat) tj) else if z = Str.ofString "unexpected" then some (Value.ref U) else if z = Str.ofString "missing" then some (Value.ref M) else List.lookup z [(Str.ofString "actual", Value.ref b), (Str.ofString "expected", Value.ref a)]) := by
  funext z
  by_cases h1 : z = Str.ofString "e"
  · simp [h1]
  · by_cases h2 : z = Str.ofString "a"
    · simp only [if_neg h1, if_pos h2]
    · simp only [if_neg h1, if_neg h2]; exact hm z h1 h2
inductive SldS {α : Type} [DecidableEq α] [LT α] [DecidableLT α] (P : Value → α → Prop) (x y : List α) (a b M U : Addr) (ctx : Value) (m : Str → Option Value) (new : List (Addr × Obj)) : Prop
  | mk (i j : Nat) (ti tj : Tok) (ms us' : List Value) (kM kU : Nat) (mx ux : List α) : SldM a b M U i j ti tj m → new = [(U, listOf (List.toArray us') kU), (M, listOf (List.toArray ms) kM)] → i ≤ x.length → j ≤ y.length → Paired P ms mx → Paired P us' ux →
    mx ++ x.drop i = (sldL x y).1 → ux ++ y.drop j = (sldL x y).2 → SldS P x y a b M U ctx m new
inductive SldJ {α : Type} [DecidableEq α] [LT α] [DecidableLT α] (P : Value → α → Prop) (x y : List α) (a b M U L : Addr) (oL : Obj) (n : Nat) (m : Str → Option Value) (nx : List (Addr × Obj)) : Prop
  | mk (i j : Nat) (ti tj : Tok) (sl : Array (Option Value)) (ms us' : List Value) (kM kU : Nat) (mx ux : List α) : SldM a b M U i j ti tj m → nx = [(U, listOf (List.toArray us') kU), (M, listOf (List.toArray ms) kM), (L, { oL with slots := sl })] → i ≤ x.length → j ≤ y.length →
    n = (x.length - i) + (y.length - j) → Paired P ms mx → Paired P us' ux → mx ++ (sldL (x.drop i) (y.drop j)).1 = (sldL x y).1 → ux ++ (sldL (x.drop i) (y.drop j)).2 = (sldL x y).2 → SldJ P x y a b M U L oL n m nx
theorem c6_i {a b M U : Addr} {vi uj : Value} {k : Nat} {t t' : Tok} {l : Nat} {u : Tok} {z : Str} : (if z = Str.ofString "i" then some (Value.int ((k : Nat) + 1) t) else C6 a b M U vi uj k t' l u z) = C6 a b M U vi uj (k + 1) t l u z := by
  revert z
  (intro z; unfold C6; by_cases h1 : z = Str.ofString "e"; (subst h1; rfl); (by_cases h2 : z = Str.ofString "a"; (subst h2; rfl); (by_cases h3 : z = Str.ofString "i"; (subst h3; rfl); (by_cases h4 : z = Str.ofString "j"; (subst h4; rfl); (simp only [if_neg h1, if_neg h2, if_neg h3, if_neg h4])))))
theorem c6_j {a b M U : Addr} {vi uj : Value} {k : Nat} {t : Tok} {l : Nat} {u u' : Tok} {z : Str} : (if z = Str.ofString "j" then some (Value.int ((l : Nat) + 1) u) else C6 a b M U vi uj k t l u' z) = C6 a b M U vi uj k t (l + 1) u z := by
  revert z
  (intro z; unfold C6; by_cases h1 : z = Str.ofString "e"; (subst h1; rfl); (by_cases h2 : z = Str.ofString "a"; (subst h2; rfl); (by_cases h3 : z = Str.ofString "i"; (subst h3; rfl); (by_cases h4 : z = Str.ofString "j"; (subst h4; rfl); (simp only [if_neg h1, if_neg h2, if_neg h3, if_neg h4])))))
theorem map_off {α : Type} {a b z : Str} {va vb x : α} (h1 : z ≠ a) (h2 : z ≠ b) : (if z = a then va else if z = b then vb else x) = x := (if_neg h1).trans (if_neg h2)
theorem sld_call {α : Type} [DecidableEq α] [LT α] [DecidableLT α] {P : Value → α → Prop} {s : Shared} {Q E : Value → Shared → Prop} {x y : List α} {v u : Value} {cenv : Env} {L : Addr} {oL : Obj}
    (hL : s.heap.get? L = some oL) (hLd : ∃ es ep, oL.data = .dict es ep) (hcf : cenv.frame = some L) (hck : cenv.scope.kind = .function)
    (hE : ∀ (A : Around) (s' : Shared), (s.heap.hide L).StaysIn s'.heap → A.units + 3 < cLine → RcOk A s' P) (hLt : ∀ (A : Around) (s' : Shared), (s.heap.hide L).StaysIn s'.heap → A.units + 3 < cLine → LtOk A s' P) (hGt : ∀ (A : Around) (s' : Shared), (s.heap.hide L).StaysIn s'.heap → A.units + 3 < cLine → GtOk A s' P)
    (hx : ListAt P (s.heap.hide L) v x) (hy : ListAt P (s.heap.hide L) u y) (lx : x.length ≤ 40) (ly : y.length ≤ 40)
    (Y : Rdy w mean mg mb dp un gd [cenv] s.heap) (X' : (_root_.Mine.hd.heap_1_1 w.params).In (s.heap.hide L)) (T' : Top topProg LL mean mg mb (s.heap.hide L)) (hd : dp + 5 < recursionLimit) (hu : un + 50 < cLine)
    (hret : ∀ t mm uu h' tk sl, (s.heap.hide L).StaysIn h' → h'.get? L = some { oL with slots := sl } → IsTup h' t #[.ref mm, .ref uu] → ListAt P h' (.ref mm) (sldL x y).1 → ListAt P h' (.ref uu) (sldL x y).2 → Q (.ref t) { s with heap := h', toks := tk }) : wpAny (model PySem.Challenge.rw_ny0140_01.row.prog w) (Am dp un gd [cenv]) (call (.ref 51) [v, u]) Q E s := by
  (have fill : (fun w : World => _root_.Mine.hd.heap_1_1 w.params) = (fun w : World => _root_.Mine.hd.heap_1_1 w.params) ∧ PySem.Challenge.rw_ny0140_01.row.prog = PySem.Challenge.rw_ny0140_01.row.prog := (by k_fill; exact ⟨rfl, rfl⟩); clear fill)
  obtain ⟨a, vs, rfl, hl, hp⟩ := hx
  obtain ⟨b, us, rfl, hl2, hp2⟩ := hy
  have dn : ∀ b o, (s.heap.hide L).get? b = some o → s.heap.get? b = some o := fun b o e => Heap.of_hide e
  generalize hgd : s.heap.hide L = g at *
  have hgL : g.get? L = none := by rw [← hgd]; exact Heap.hide_self _ _
  have hsz : g.objs.size = s.heap.objs.size := by rw [← hgd]; exact Heap.hide_size _ _
  refine wpAny_call ?_
  refine' enterG Y dn hsz ?k6 ?k7 ?k8 ?k9 ?kB ?_ ?c2 ?c3 ?c4 ?c5
  (case k6 => k_is)
  (case k7 => k_is)
  (case k8 => lia)
  (case k9 => exact BindsTo.of_eq rfl)
  (case c5 => exact rfl)
  (case kB => exact locs rfl)
  (case c2 => decide)
  (case c3 => exact rfl)
  (case c4 => exact rfl)
  intro L' h₁ hk₁ hlt F'
  have lL := hlt _ _ hL
  have N' : News g L' h₁ [(L, oL)] := fun p hp => by
    obtain rfl := List.mem_singleton.mp hp
    exact ⟨hk₁ _ _ hL, Nat.ne_of_lt lL, hgL⟩
  have lv : vs.toArray.size = x.length := by rw [List.size_toArray, hp.length]
  have lu : us.toArray.size = y.length := by rw [List.size_toArray, hp2.length]
  dsimp only
  k_unmd
  k_fold
  k_steps
  (with_reducible rename Fr g _ _ _ => F₁)
  (with_reducible rename News g _ _ _ => N₁)
  rename_i tk0 hi0 hj0 M hM lM hM2 tkM U hU lU hU2
  have F₂ : Fr g L' hU2 (fun z => if z = Str.ofString "unexpected" then some (Value.ref U) else if z = Str.ofString "missing" then some (Value.ref M) else if z = Str.ofString "j" then some (Value.int 0 tk0) else if z = Str.ofString "i" then some (Value.int 0 tk0) else List.lookup z [(Str.ofString "actual", Value.ref b), (Str.ofString "expected", Value.ref a)]) := F₁
  clear F₁
  refine Halt.mk (while_brk (SldJ P x y a b M U L oL) F₂ N₁ ⟨0, 0, tk0, tk0, oL.slots, [], [], 0, 0, [], [], ?_, rfl, Nat.zero_le _, Nat.zero_le _, rfl, .nil, .nil, rfl, rfl⟩ ?_)
  · intro z _ _
    by_cases h1 : z = Str.ofString "i"
    · subst h1; rfl
    · simp only [if_neg h1]
      by_cases h2 : z = Str.ofString "j"
      · subst h2; rfl
      · simp only [if_neg h2]
  · rintro n m₁ nx h₃ tk₃ F₃ N₃ ⟨i, j, ti, tj, sl, ms, us', kM, kU, mx, ux, hm, rfl, hi, hj, rfl, hpm, hpu, hr1, hr2⟩
    rw [hm.is] at F₃
    clear hm F₂ N₁
    k_steps
    refine Halt.mk (wpAny_Try_except (wpAny_mono (E := Thr g L' L oL s (SldS P x y a b M U)) ?_ (fun _ _ q => q) ?_))
    · k_steps -- BODY
      have hne : ∀ (o1 o2 : Obj), ∀ p ∈ [(U, o1), (M, o2)], p.1 ≠ L := by
        intro o1 o2 p hp
        simp only [List.mem_cons, List.not_mem_nil, or_false] at hp
        rcases hp with rfl | rfl
        · exact Ne.symm (Nat.ne_of_lt lU.2)
        · exact Ne.symm (Nat.ne_of_lt lM)
      cases exi : x[i]? with
      | none =>
        have hix := List.getElem?_eq_none_iff.mp exi
        refine Halt.mk (item_out (.inl ⟨rfl, rfl⟩) (isList_keeps F₃.keep hl) (by lia) (by lia) ?_)
        intro h₄ tk₄ e₄ x₄
        refine .new (new := [(U, listOf (List.toArray us') kU), (M, listOf (List.toArray ms) kM)]) x₄ F₃ N₃ (hne _ _) ⟨i, j, ti, tj, ms, us', kM, kU, mx, ux, (fun _ => map_off), rfl, hi, hj, hpm, hpu, ?_, ?_⟩
        · rw [← hr1, drop_out exi, sldL_nil_left]
        · rw [← hr2, drop_out exi, sldL_nil_left]
      | some xi =>
        obtain ⟨vi, evi, hvi⟩ := Paired.get' hp exi
        have evi' : vs.toArray[i]? = some vi := by simpa using evi
        refine Halt.mk (item_list (isList_keeps F₃.keep hl) evi' (by lia) ?_)
        clear evi evi'
        k_steps
        (with_reducible rename Fr g _ _ _ => F₄)
        (with_reducible rename News g _ _ _ => N₄)
        (try clear F₃)
        (try clear N₃)
        cases eyj : y[j]? with
        | none =>
          have hjy := List.getElem?_eq_none_iff.mp eyj
          refine Halt.mk (item_out (.inl ⟨rfl, rfl⟩) (isList_keeps F₄.keep hl2) (by lia) (by lia) ?_)
          intro h₅ tk₅ e₅ x₅
          refine .new (new := [(U, listOf (List.toArray us') kU), (M, listOf (List.toArray ms) kM)]) x₅ F₄ N₄ (hne _ _) ⟨i, j, ti, tj, ms, us', kM, kU, mx, ux, (by intro z h1 h2; simp only [if_neg h1, if_neg h2]), rfl, hi, hj, hpm, hpu, ?_, ?_⟩
          · rw [← hr1, drop_out eyj, sldL_nil_right]
          · rw [← hr2, drop_out eyj, sldL_nil_right]
        | some yj =>
          obtain ⟨uj, euj, huj⟩ := Paired.get' hp2 eyj
          have euj' : us.toArray[j]? = some uj := by simpa using euj
          refine Halt.mk (item_list (isList_keeps F₄.keep hl2) euj' (by lia) ?_)
          clear euj euj'
          k_steps
          (with_reducible rename Fr g _ _ _ => F₅)
          (with_reducible rename News g _ _ _ => N₅)
          (try clear F₄)
          (try clear N₄)
          have F₆ := fr_as (m' := (fun z => if z = Str.ofString "e" then some vi else if z = Str.ofString "a" then some uj else if z = Str.ofString "i" then some (Value.int (i : Nat) ti) else if z = Str.ofString "j" then some (Value.int (j : Nat) tj) else if z = Str.ofString "unexpected" then some (Value.ref U) else if z = Str.ofString "missing" then some (Value.ref M) else List.lookup z [(Str.ofString "actual", Value.ref b), (Str.ofString "expected", Value.ref a)])) F₅ (by (intro z; by_cases h1 : z = Str.ofString "e"; (subst h1; rfl); (by_cases h2 : z = Str.ofString "a"; (subst h2; rfl); (by_cases h3 : z = Str.ofString "i"; (subst h3; rfl); (by_cases h4 : z = Str.ofString "j"; (subst h4; rfl); (simp only [if_neg h1, if_neg h2, if_neg h3, if_neg h4]))))))
          clear F₅
          have lms : ms.length ≤ 40 := by
            have h1 := congrArg List.length hr1
            rw [List.length_append] at h1
            have h2 := (sldL_len x y).1
            have h3 := hpm.length
            lia
          have lus : us'.length ≤ 40 := by
            have h1 := congrArg List.length hr2
            rw [List.length_append] at h1
            have h2 := (sldL_len x y).2
            have h3 := hpu.length
            lia
          rw [drop_at exi, drop_at eyj, sldL_cons] at hr1 hr2
          refine cmp_ofLt (hLt _ _ (by exact F₆.keep) (by show un + 3 + 3 < cLine; lia) _ _ _ _ hvi huj _ _ _ _ ?_)
          by_cases hlt : xi < yj
          · rw [decide_eq_true hlt]
            simp only [if_pos hlt] at hr1 hr2
            k_steps
            refine Halt.mk (append_mem F₆ N₅ (.tail _ (.head _)) (by lia) ?_)
            intro h₇ F₇ N₇
            have N₈ : News g L' h₇ [(U, listOf (List.toArray us') kU), (M, listOf (List.toArray (ms ++ [vi])) (kM + 1)), (L, { oL with slots := sl })] := by
              intro q hq
              refine N₇ [(U, listOf (List.toArray us') kU), (L, { oL with slots := sl })] ?_ q ?_
              · intro p hp
                simp only [List.mem_cons, List.not_mem_nil, or_false] at hp
                rcases hp with rfl | rfl
                · exact ⟨by simp, Ne.symm (Nat.ne_of_lt lU.1)⟩
                · exact ⟨by simp, Nat.ne_of_lt lM⟩
              · simp only [List.mem_cons, List.not_mem_nil, or_false] at hq ⊢
                rcases hq with h | h | h <;> simp [h]
            clear N₇ N₅ F₆
            k_steps
            (with_reducible rename Fr g _ _ _ => Fa)
            (with_reducible rename News g _ _ _ => Na)
            refine Halt.mk ?_
            obtain ⟨tq, Fq⟩ : ∃ tq, Fr g L' _ (C6 a b M U vi uj (i + 1) tq j tj) := ⟨_, fr_as Fa (fun _ => c6_i)⟩
            refine scan_x (a := a) (x := x) (xi := xi) (vi := vi) (i := i) (m0 := C6 a b M U vi uj 0 tq j tj) (ctx := .none) hl hp (by have := hp.length; omega) hvi (fun s' q => hE _ _ q (by show un + 3 + 3 < cLine; omega)) (fr_as Fq fun z => (c6_x z).symm) Na (Scan.start exi) (fun _ _ => .inl ⟨rfl, rfl⟩) ?_ ?_ (Thr.passes rfl rfl hcf rfl hck hLd)
            · intro k t h₉ exk hsck F₉' N₉ h₁₁ tk₁₁ e₁₁ x₁₁
              have hcck := hsck.2.1
              have F₉ := fr_as F₉' (m' := (fun z => if z = Str.ofString "e" then some vi else if z = Str.ofString "a" then some uj else if z = Str.ofString "i" then some (Value.int (k : Nat) t) else if z = Str.ofString "j" then some (Value.int (j : Nat) tj) else if z = Str.ofString "unexpected" then some (Value.ref U) else if z = Str.ofString "missing" then some (Value.ref M) else List.lookup z [(Str.ofString "actual", Value.ref b), (Str.ofString "expected", Value.ref a)])) (fun z => c6_x z)
              refine .new (new := [(U, listOf (List.toArray us') kU), (M, listOf (List.toArray (ms ++ [vi])) (kM + 1))]) x₁₁ F₉ N₉ (hne _ _) ⟨k, j, t, tj, (ms ++ [vi]), us', (kM + 1), kU, (mx ++ [xi]), ux, (fun _ => map_off), rfl, (by lia), hj, (Paired.append hpm (.cons hvi .nil)), hpu, ?_, ?_⟩
              · rw [← hr1, hsck.out exk, drop_out exk, sldL_nil_left]; simp
              · rw [← hr2, hsck.out exk, drop_out exk, sldL_nil_left, drop_at eyj]
            · intro k t h₉ tk₉ zz exk hzk hsck F₉' N₉
              have F₉ := fr_as F₉' (m' := (fun z => if z = Str.ofString "e" then some vi else if z = Str.ofString "a" then some uj else if z = Str.ofString "i" then some (Value.int (k : Nat) t) else if z = Str.ofString "j" then some (Value.int (j : Nat) tj) else if z = Str.ofString "unexpected" then some (Value.ref U) else if z = Str.ofString "missing" then some (Value.ref M) else List.lookup z [(Str.ofString "actual", Value.ref b), (Str.ofString "expected", Value.ref a)])) (fun z => c6_x z)
              clear F₉'
              have hstk := hsck.stop exk hzk
              have hlek := hsck.2.1
              have hgek := hsck.1
              k_steps
              dsimp only [BrkStep]
              refine ⟨_, _, _, _, (x.length - k) + (y.length - j), rfl, F₉, N₉, by lia, k, j, t, tj, sl, (ms ++ [vi]), us', (kM + 1), kU, (mx ++ [xi]), ux, (fun _ => map_off), rfl, hlek, hj, rfl, (Paired.append hpm (.cons hvi .nil)), hpu, ?_, ?_⟩
              · rw [← hr1, hstk, drop_at eyj, List.append_assoc]; rfl
              · rw [← hr2, hstk, drop_at eyj]
          · rw [decide_eq_false hlt]
            simp only [if_neg hlt] at hr1 hr2
            k_steps
            refine cmp_ofGt (hGt _ _ (by exact F₆.keep) (by show un + 3 + 3 < cLine; lia) _ _ _ _ hvi huj _ _ _ _ ?_)
            by_cases hgt : yj < xi
            · rw [decide_eq_true hgt]
              simp only [if_pos hgt] at hr1 hr2
              k_steps
              refine Halt.mk (append_mem F₆ N₅ (.head _) (by lia) ?_)
              intro h₇ F₇ N₇
              have N₈ : News g L' h₇ [(U, listOf (List.toArray (us' ++ [uj])) (kU + 1)), (M, listOf (List.toArray ms) kM), (L, { oL with slots := sl })] := by
                intro q hq
                refine N₇ [(M, listOf (List.toArray ms) kM), (L, { oL with slots := sl })] ?_ q ?_
                · intro p hp
                  simp only [List.mem_cons, List.not_mem_nil, or_false] at hp
                  rcases hp with rfl | rfl
                  · exact ⟨by simp, Nat.ne_of_lt lU.1⟩
                  · exact ⟨by simp, Nat.ne_of_lt lU.2⟩
                · simp only [List.mem_cons, List.not_mem_nil, or_false] at hq ⊢
                  rcases hq with h | h | h <;> simp [h]
              clear N₇ N₅ F₆
              k_steps
              (with_reducible rename Fr g _ _ _ => Fa)
              (with_reducible rename News g _ _ _ => Na)
              refine Halt.mk ?_
              obtain ⟨tq, Fq⟩ : ∃ tq, Fr g L' _ (C6 a b M U vi uj i ti (j + 1) tq) := ⟨_, fr_as Fa (fun _ => c6_j)⟩
              refine scan_y (a := b) (x := y) (xi := yj) (vi := uj) (i := j) (m0 := C6 a b M U vi uj i ti 0 tq) (ctx := .none) hl2 hp2 (by have := hp2.length; omega) huj (fun s' q => hE _ _ q (by show un + 3 + 3 < cLine; omega)) (fr_as Fq fun z => (c6_y z).symm) Na (Scan.start eyj) (fun _ _ => .inl ⟨rfl, rfl⟩) ?_ ?_ (Thr.passes rfl rfl hcf rfl hck hLd)
              · intro k t h₉ exk hsck F₉' N₉ h₁₁ tk₁₁ e₁₁ x₁₁
                have hcck := hsck.2.1
                have F₉ := fr_as F₉' (m' := (fun z => if z = Str.ofString "e" then some vi else if z = Str.ofString "a" then some uj else if z = Str.ofString "i" then some (Value.int (i : Nat) ti) else if z = Str.ofString "j" then some (Value.int (k : Nat) t) else if z = Str.ofString "unexpected" then some (Value.ref U) else if z = Str.ofString "missing" then some (Value.ref M) else List.lookup z [(Str.ofString "actual", Value.ref b), (Str.ofString "expected", Value.ref a)])) (fun z => c6_y z)
                refine .new (new := [(U, listOf (List.toArray (us' ++ [uj])) (kU + 1)), (M, listOf (List.toArray ms) kM)]) x₁₁ F₉ N₉ (hne _ _) ⟨i, k, ti, t, ms, (us' ++ [uj]), kM, (kU + 1), mx, (ux ++ [yj]), (fun _ => map_off), rfl, hi, (by lia), hpm, (Paired.append hpu (.cons huj .nil)), ?_, ?_⟩
                · rw [← hr1, hsck.out exk, drop_out exk, ← drop_at exi, sldL_nil_right]
                · rw [← hr2, hsck.out exk, drop_out exk, sldL_nil_right]; simp
              · intro k t h₉ tk₉ zz exk hzk hsck F₉' N₉
                have F₉ := fr_as F₉' (m' := (fun z => if z = Str.ofString "e" then some vi else if z = Str.ofString "a" then some uj else if z = Str.ofString "i" then some (Value.int (i : Nat) ti) else if z = Str.ofString "j" then some (Value.int (k : Nat) t) else if z = Str.ofString "unexpected" then some (Value.ref U) else if z = Str.ofString "missing" then some (Value.ref M) else List.lookup z [(Str.ofString "actual", Value.ref b), (Str.ofString "expected", Value.ref a)])) (fun z => c6_y z)
                clear F₉'
                have hstk := hsck.stop exk hzk
                have hlek := hsck.2.1
                have hgek := hsck.1
                k_steps
                dsimp only [BrkStep]
                refine ⟨_, _, _, _, (x.length - i) + (y.length - k), rfl, F₉, N₉, by lia, i, k, ti, t, sl, ms, (us' ++ [uj]), kM, (kU + 1), mx, (ux ++ [yj]), (fun _ => map_off), rfl, hi, hlek, rfl, hpm, (Paired.append hpu (.cons huj .nil)), ?_, ?_⟩
                · rw [← hr1, hstk, drop_at exi]
                · rw [← hr2, hstk, drop_at exi, List.append_assoc]; rfl
            · rw [decide_eq_false hgt]
              simp only [if_neg hgt] at hr1 hr2
              k_steps
              (with_reducible rename Fr g _ _ _ => Fa)
              (with_reducible rename News g _ _ _ => Na)
              refine Halt.mk (wpAny_mono (E := Thr g L' L oL s (fun ctx m new => ctx = .none ∧ ∃ (k : Nat) (t : Tok), x[k]? = none ∧ Scan x i k xi ∧ (∀ z, m z = (fun z => if z = Str.ofString "e" then some vi else if z = Str.ofString "a" then some uj else if z = Str.ofString "i" then some (Value.int (k : Nat) t) else if z = Str.ofString "j" then some (Value.int (j : Nat) tj) else if z = Str.ofString "unexpected" then some (Value.ref U) else if z = Str.ofString "missing" then some (Value.ref M) else List.lookup z [(Str.ofString "actual", Value.ref b), (Str.ofString "expected", Value.ref a)]) z) ∧ new = [(U, listOf (List.toArray us') kU), (M, listOf (List.toArray ms) kM)])) ?_ (fun _ _ q => q) ?_)
              · refine Halt.go ?_
                refine Halt.mk ?_
                obtain ⟨tq, Fq⟩ : ∃ tq, Fr g L' _ (C6 a b M U vi uj (i + 1) tq j tj) := ⟨_, fr_as Fa (fun _ => c6_i)⟩
                refine scan_x (a := a) (x := x) (xi := xi) (vi := vi) (i := i) (m0 := C6 a b M U vi uj 0 tq j tj) (ctx := .none) hl hp (by have := hp.length; omega) hvi (fun s' q => hE _ _ q (by show un + 3 + 3 < cLine; omega)) (fr_as Fq fun z => (c6_x z).symm) Na (Scan.start exi) (fun _ _ => .inl ⟨rfl, rfl⟩) ?_ ?_ (Thr.passes rfl rfl hcf rfl hck hLd)
                · intro k t h₉ exk hsck F₉' N₉ h₁₁ tk₁₁ e₁₁ x₁₁
                  have hcck := hsck.2.1
                  have F₉ := fr_as F₉' (m' := (fun z => if z = Str.ofString "e" then some vi else if z = Str.ofString "a" then some uj else if z = Str.ofString "i" then some (Value.int (k : Nat) t) else if z = Str.ofString "j" then some (Value.int (j : Nat) tj) else if z = Str.ofString "unexpected" then some (Value.ref U) else if z = Str.ofString "missing" then some (Value.ref M) else List.lookup z [(Str.ofString "actual", Value.ref b), (Str.ofString "expected", Value.ref a)])) (fun z => c6_x z)
                  exact .new (new := [(U, listOf (List.toArray us') kU), (M, listOf (List.toArray ms) kM)]) x₁₁ F₉ N₉ (hne _ _) ⟨rfl, k, t, exk, hsck, fun _ => rfl, rfl⟩
                · intro k t h₉ tk₉ zz exk hzk hsck F₉' N₉
                  have F₉ := fr_as F₉' (m' := (fun z => if z = Str.ofString "e" then some vi else if z = Str.ofString "a" then some uj else if z = Str.ofString "i" then some (Value.int (k : Nat) t) else if z = Str.ofString "j" then some (Value.int (j : Nat) tj) else if z = Str.ofString "unexpected" then some (Value.ref U) else if z = Str.ofString "missing" then some (Value.ref M) else List.lookup z [(Str.ofString "actual", Value.ref b), (Str.ofString "expected", Value.ref a)])) (fun z => c6_x z)
                  clear F₉'
                  have hstk := hsck.stop exk hzk
                  have hlek := hsck.2.1
                  have hgek := hsck.1
                  k_steps
                  (with_reducible rename Fr g _ _ _ => Fb)
                  (with_reducible rename News g _ _ _ => Nb)
                  refine Halt.mk ?_
                  refine wpAny_passesOwn (Thr.passes rfl rfl hcf rfl hck hLd) ?_
                  obtain ⟨tq, Fq⟩ : ∃ tq, Fr g L' _ (C6 a b M U vi uj k t (j + 1) tq) := ⟨_, fr_as Fb (fun _ => c6_j)⟩
                  refine scan_y (a := b) (x := y) (xi := yj) (vi := uj) (i := j) (m0 := C6 a b M U vi uj k t 0 tq) (ctx := .none) hl2 hp2 (by have := hp2.length; omega) huj (fun s' q => hE _ _ q (by show un + 3 + 3 < cLine; omega)) (fr_as Fq fun z => (c6_y z).symm) Nb (Scan.start eyj) (fun _ _ => .inl ⟨rfl, rfl⟩) ?_ ?_ (Thr.passes rfl rfl hcf rfl hck hLd)
                  · intro l u h₉ exl hscl F₉' N₉ h₁₁ tk₁₁ e₁₁ x₁₁
                    have hccl := hscl.2.1
                    have F₉ := fr_as F₉' (m' := (fun z => if z = Str.ofString "e" then some vi else if z = Str.ofString "a" then some uj else if z = Str.ofString "i" then some (Value.int (k : Nat) t) else if z = Str.ofString "j" then some (Value.int (l : Nat) u) else if z = Str.ofString "unexpected" then some (Value.ref U) else if z = Str.ofString "missing" then some (Value.ref M) else List.lookup z [(Str.ofString "actual", Value.ref b), (Str.ofString "expected", Value.ref a)])) (fun z => c6_y z)
                    refine .new (new := [(U, listOf (List.toArray us') kU), (M, listOf (List.toArray ms) kM)]) x₁₁ F₉ N₉ (hne _ _) ⟨k, l, t, u, ms, us', kM, kU, mx, ux, (fun _ => map_off), rfl, hlek, (by lia), hpm, hpu, ?_, ?_⟩
                    · rw [← hr1, hstk, hscl.out exl, drop_out exl, sldL_nil_right]
                    · rw [← hr2, hstk, hscl.out exl, drop_out exl, sldL_nil_right]
                  · intro l u h₉ tk₉ zz exl hzl hscl F₉' N₉
                    have F₉ := fr_as F₉' (m' := (fun z => if z = Str.ofString "e" then some vi else if z = Str.ofString "a" then some uj else if z = Str.ofString "i" then some (Value.int (k : Nat) t) else if z = Str.ofString "j" then some (Value.int (l : Nat) u) else if z = Str.ofString "unexpected" then some (Value.ref U) else if z = Str.ofString "missing" then some (Value.ref M) else List.lookup z [(Str.ofString "actual", Value.ref b), (Str.ofString "expected", Value.ref a)])) (fun z => c6_y z)
                    clear F₉'
                    have hstl := hscl.stop exl hzl
                    have hlel := hscl.2.1
                    have hgel := hscl.1
                    k_steps
                    dsimp only [BrkStep]
                    refine ⟨_, _, _, _, (x.length - k) + (y.length - l), rfl, F₉, N₉, by lia, k, l, t, u, sl, ms, us', kM, kU, mx, ux, (fun _ => map_off), rfl, hlek, hlel, rfl, hpm, hpu, ?_, ?_⟩
                    · rw [← hr1, hstk, hstl]
                    · rw [← hr2, hstk, hstl]
              · intro e s₁ H
                refine Thr.noted H rfl rfl hcf rfl hck hLd ?_
                rintro h' tk e' tb oe otb ctx m new sl' rfl H hne' ⟨rfl, k, t, exk, hsck, hm, rfl⟩
                refine ⟨ref_ne_byPass _, H.again rfl ?_⟩
                refine H.set none ?_
                intro h₄ otb₄ H₄
                have Fc := fr_as (m' := (fun z => if z = Str.ofString "e" then some vi else if z = Str.ofString "a" then some uj else if z = Str.ofString "i" then some (Value.int (k : Nat) t) else if z = Str.ofString "j" then some (Value.int (j : Nat) tj) else if z = Str.ofString "unexpected" then some (Value.ref U) else if z = Str.ofString "missing" then some (Value.ref M) else List.lookup z [(Str.ofString "actual", Value.ref b), (Str.ofString "expected", Value.ref a)])) H₄.fr hm
                have Nc := H₄.led
                simp only [List.cons_append, List.nil_append] at Nc
                obtain ⟨vs0, d0, d1, c0⟩ := H₄.dat
                have hcck := hsck.2.1
                clear Fa Na
                k_steps
                (with_reducible rename Fr g _ _ _ => Fb)
                (with_reducible rename News g _ _ _ => Nb)
                refine Halt.mk ?_
                refine wpAny_passesOwnAt (Thr.passes rfl rfl hcf rfl hck hLd) ?_
                obtain ⟨tq, Fq⟩ : ∃ tq, Fr g L' _ (C6 a b M U vi uj k t (j + 1) tq) := ⟨_, fr_as Fb (fun _ => c6_j)⟩
                refine scan_y (a := b) (x := y) (xi := yj) (vi := uj) (i := j) (m0 := C6 a b M U vi uj k t 0 tq) (ctx := (.ref e')) hl2 hp2 (by have := hp2.length; omega) huj (fun s' q => hE _ _ q (by show un + 3 + 3 < cLine; omega)) (fr_as Fq fun z => (c6_y z).symm) Nb (Scan.start eyj) (fun h N => .inr ⟨e', oe, vs0, rfl, rfl, (N (e', oe) (.head _)).1, d0, c0⟩) ?_ ?_ (Thr.passes rfl rfl hcf rfl hck hLd)
                · intro l u h₉ exl hscl F₉' N₉ h₁₁ tk₁₁ e₁₁ x₁₁
                  have hccl := hscl.2.1
                  have F₉ := fr_as F₉' (m' := (fun z => if z = Str.ofString "e" then some vi else if z = Str.ofString "a" then some uj else if z = Str.ofString "i" then some (Value.int (k : Nat) t) else if z = Str.ofString "j" then some (Value.int (l : Nat) u) else if z = Str.ofString "unexpected" then some (Value.ref U) else if z = Str.ofString "missing" then some (Value.ref M) else List.lookup z [(Str.ofString "actual", Value.ref b), (Str.ofString "expected", Value.ref a)])) (fun z => c6_y z)
                  refine .new (new := [(U, listOf (List.toArray us') kU), (M, listOf (List.toArray ms) kM)]) x₁₁ F₉ (fun p hp => N₉ p (.tail _ (.tail _ hp))) (hne _ _) ⟨k, l, t, u, ms, us', kM, kU, mx, ux, (fun _ => map_off), rfl, hcck, (by lia), hpm, hpu, ?_, ?_⟩
                  · rw [← hr1, hsck.out exk, hscl.out exl, drop_out exk, drop_out exl, sldL_nil_left]
                  · rw [← hr2, hsck.out exk, hscl.out exl, drop_out exk, drop_out exl, sldL_nil_left]
                · intro l u h₉ tk₉ zz exl hzl hscl F₉' N₉
                  have F₉ := fr_as F₉' (m' := (fun z => if z = Str.ofString "e" then some vi else if z = Str.ofString "a" then some uj else if z = Str.ofString "i" then some (Value.int (k : Nat) t) else if z = Str.ofString "j" then some (Value.int (l : Nat) u) else if z = Str.ofString "unexpected" then some (Value.ref U) else if z = Str.ofString "missing" then some (Value.ref M) else List.lookup z [(Str.ofString "actual", Value.ref b), (Str.ofString "expected", Value.ref a)])) (fun z => c6_y z)
                  clear F₉'
                  have hstl := hscl.stop exl hzl
                  have hlel := hscl.2.1
                  have hgel := hscl.1
                  k_steps
                  refine Fly.pass ⟨F₉, N₉, H₄.cls, H₄.dat, H₄.tdat, H₄.ne, H₄.off⟩ rfl ?_
                  intro h₁₂ otb₁₂ H₁₂
                  refine .fly (new := [(U, listOf (List.toArray us') kU), (M, listOf (List.toArray ms) kM)]) H₁₂ (hne _ _) ⟨k, l, t, u, ms, us', kM, kU, mx, ux, (fun _ => map_off), rfl, hcck, hlel, hpm, hpu, ?_, ?_⟩
                  · rw [← hr1, hsck.out exk, hstl, drop_out exk, sldL_nil_left]
                  · rw [← hr2, hsck.out exk, hstl, drop_out exk, sldL_nil_left]
    · intro e s₁ H
      refine Thr.noted H rfl rfl hcf rfl hck hLd ?_
      rintro h' tk e' tb oe otb ctx m new sl' rfl H hne ⟨i', j', ti', tj', ms', us2, kM', kU', mx', ux', hm', rfl, hi', hj', hpm', hpu', hr1', hr2'⟩
      refine H.set none ?_
      intro h₄ otb₄ H₄
      have F₄ := H₄.fr
      have N₄ := H₄.led
      rw [hm'.is] at F₄
      clear F₃ N₃
      refine wpAny_handleBy_builtin (X := "IndexError") (T := "IndexError") (b := true) (isSubtype_of_subB (by decide +kernel)) (isSubtype_of_subB (by decide +kernel)) (isSubtype_of_subB (by decide +kernel)) ?_
      simp only [List.cons_append, List.nil_append] at N₄
      k_steps
      · exact ⟨_, (H₄.led _ (.head _)).1, H₄.cls⟩
      · refine H₄.set none ?_
        intro h₅ otb₅ H₅
        have F₅ := H₅.fr
        have N₅ := H₅.led
        rw [hm'.is] at F₅
        simp only [List.cons_append, List.nil_append] at N₅
        clear F₄ N₄
        k_steps
        (with_reducible rename Fr g _ _ _ => F₆)
        (with_reducible rename News g _ _ _ => N₆)
        have hsl : slicePick vs.toArray (some (i' : Int)) none none = (vs.drop i').toArray := by have := slicePick_from' vs.toArray i'; simpa using this
        rw [hsl] at N₆
        have lms := hpm'.length
        have lus := hpu'.length
        have lmx := congrArg List.length hr1'
        have lux := congrArg List.length hr2'
        have lR := sldL_len x y
        simp only [List.length_append] at lmx lux
        have lvs := hp.length
        have lus0 := hp2.length
        have oUM := (H₅.off _ (.head _))
        have oMM := (H₅.off _ (.tail _ (.head _)))
        refine Halt.mk (extend_mem F₆ N₆ (.tail _ (.tail _ (.tail _ (.tail _ (.head _))))) (.head _) (by rw [List.length_drop]; lia) ?_)
        intro h₇ n₇ F₇ N₇
        have N₈ : News g L' h₇ [(M, listOf (List.toArray (ms' ++ vs.drop i')) n₇), (U, listOf (List.toArray us2) kU'), (L, { oL with slots := sl' })] := by
          refine N₇ _ ?_
          intro q hq
          simp only [List.mem_cons, List.not_mem_nil, or_false] at hq
          rcases hq with rfl | rfl
          · exact ⟨by simp, Ne.symm (Nat.ne_of_lt lU.1)⟩
          · exact ⟨by simp, Nat.ne_of_lt lM⟩
        clear F₅ N₅ F₆ N₆ N₇
        k_steps
        (with_reducible rename Fr g _ _ _ => F₉)
        (with_reducible rename News g _ _ _ => N₉)
        have hsl2 : slicePick us.toArray (some (j' : Int)) none none = (us.drop j').toArray := by have := slicePick_from' us.toArray j'; simpa using this
        rw [hsl2] at N₉
        refine Halt.mk (extend_mem F₉ N₉ (.tail _ (.tail _ (.head _))) (.head _) (by rw [List.length_drop]; lia) ?_)
        intro h₁₀ n₁₀ F₁₀ N₁₀
        have N₁₁ : News g L' h₁₀ [(U, listOf (List.toArray (us2 ++ us.drop j')) n₁₀), (M, listOf (List.toArray (ms' ++ vs.drop i')) n₇), (L, { oL with slots := sl' })] := by
          refine N₁₀ _ ?_
          intro q hq
          simp only [List.mem_cons, List.not_mem_nil, or_false] at hq
          rcases hq with rfl | rfl
          · exact ⟨by simp, Nat.ne_of_lt lU.1⟩
          · exact ⟨by simp, Nat.ne_of_lt lU.2⟩
        clear F₇ N₈ F₉ N₉ N₁₀
        k_steps
        dsimp only [BrkStep]
        k_steps
        (with_reducible rename Fr g _ _ _ => F₁₂)
        (with_reducible rename News g _ _ _ => N₁₂)
        refine hret _ M U _ _ sl' F₁₂.keep (N₁₂ (L, _) (by simp)).1 (News.isTup N₁₂ (.head _)) ⟨M, _, rfl, News.isList N₁₂ (.tail _ (.tail _ (.head _))), ?_⟩ ⟨U, _, rfl, News.isList N₁₂ (.tail _ (.head _)), ?_⟩
        · rw [← hr1']; exact Paired.append hpm' (Paired.drop hp i')
        · rw [← hr2']; exact Paired.append hpu' (Paired.drop hp2 j')
end
section
open PySem PySem.W PyProof.Rows PySem.Calls PySem.Spec PySem.SeqAt
open PySem.W.X (Mem)
set_option maxHeartbeats 4000000
section
variable {M : Model} {A : Around} {E : Value → Shared → Prop} {h0 h : Heap} {g : Array GenState} {d : Drawn} {t : Nat} {os : OsState} {chg news : List (Addr × Obj)}
theorem m_alloc {o : Obj} {Q : Addr → Shared → Prop} (D : Mem h0 h chg news) (hf : o.isFreed = false) (x : ∀ a h', Mem h0 h' chg ((a, o) :: news) → Q a ⟨h', g, d, t, os⟩) : wpAny M A (alloc o) Q E ⟨h, g, d, t, os⟩ :=
  wpAny_alloc (x _ _ (D.alloc hf))
theorem m_updPart {a : Addr} {q : Option Value} {f : Obj → Obj} {o : Obj} {Q : Unit → Shared → Prop} (o' : Obj) (D : Mem h0 h chg news) (i : Nat) (hi : news[i]? = some (a, o)) (ho : f o = o') (hf : o'.isFreed = false)
    (x : ∀ h', Mem h0 h' chg (news.set i (a, o')) → Q () ⟨h', g, d, t, os⟩) : wpAny M A (updatePart a q f) Q E ⟨h, g, d, t, os⟩ := by
  subst ho
  exact wpAny_updatePart (D.at i a o hi) (x _ (D.update hi hf))
theorem m_upd {a : Addr} {f : Obj → Obj} {o : Obj} {Q : Unit → Shared → Prop} (o' : Obj) (D : Mem h0 h chg news) (i : Nat) (hi : news[i]? = some (a, o)) (ho : f o = o') (hf : o'.isFreed = false)
    (x : ∀ h', Mem h0 h' chg (news.set i (a, o')) → Q () ⟨h', g, d, t, os⟩) : wpAny M A (update a f) Q E ⟨h, g, d, t, os⟩ := by
  subst ho
  exact wpAny_update (D.at i a o hi) (x _ (D.update hi hf))
theorem m_nsGet {a : Addr} {o : Obj} {name : Str} {Q : Option Value → Shared → Prop} (v : Option Value) (ho : h.get? a = some o) (hv : nsLook name o = pure v) (hq : Q v ⟨h, g, d, t, os⟩) : wpAny M A (nsGet a name) Q E ⟨h, g, d, t, os⟩ := by
  unfold nsGet
  exact wpAny_bind (wpAny_loadPart ho (wpAny_of_eq hv hq))
theorem m_nsDel {a : Addr} {o : Obj} {name : Str} {Q : Bool → Shared → Prop} (o' : Obj) (D : Mem h0 h chg news) (i : Nat) (hi : news[i]? = some (a, o)) (hv : nsHas name o = pure true) (ho : Obj.dropName name o = o') (hf : o'.isFreed = false)
    (x : ∀ h', Mem h0 h' chg (news.set i (a, o')) → Q true ⟨h', g, d, t, os⟩) : wpAny M A (nsDel a name) Q E ⟨h, g, d, t, os⟩ := by
  unfold nsDel
  refine wpAny_bind (wpAny_loadPart (D.at i a o hi) (wpAny_bind (wpAny_of_eq hv ?_)))
  refine wpAny_bind ?_
  exact m_updPart o' D i hi ho hf fun h' D' => wpAny_pure (x h' D')
theorem m_old {b : Addr} {o : Obj} (D : Mem h0 h [] news) (e : h0.get? b = some o) : h.get? b = some o := D.keep b o e (by simp [PySem.W.X.away])
theorem m_stays (D : Mem h0 h [] news) : h0.StaysIn h := fun _ _ e => m_old D e
theorem m_drop {p : Addr × Obj} (D : Mem h0 h chg (p :: news)) : Mem h0 h chg news :=
  ⟨D.keep, D.ch, D.cd, fun q hq => D.nw q (.tail _ hq), (List.pairwise_cons.mp D.ord).2⟩
theorem m_ne_old {i : Nat} {a b : Addr} {o ob : Obj} (D : Mem h0 h chg news) (hi : news[i]? = some (a, o)) (e : h0.get? b = some ob) : a ≠ b := D.ne_old i a o hi b ob e
end
section
variable {prog : Program} {w : World} {A : Around} {E : Value → Shared → Prop} {h0 h : Heap} {g : Array GenState} {d : Drawn} {t : Nat} {os : OsState} {chg news : List (Addr × Obj)}
theorem m_nsSet {a : Addr} {o : Obj} {es : Array DictEntry} {n : Nat} {name : Str} {v : Value} {Q : Unit → Shared → Prop} (o' : Obj) (D : Mem h0 h chg news) (i : Nat) (hi : news[i]? = some (a, o)) (hd : o.data = .dict es n) (hr : aRefKeyMayBeTheName name es = false)
    (ho : Obj.putName name (PyData.keyHash w.params name) (.str name t) v o = o') (hf : o'.isFreed = false)
    (x : ∀ h', Mem h0 h' chg (news.set i (a, o')) → Q () ⟨h', g, d, t + 1, os⟩) : wpAny (model prog w) A (nsSet a name v) Q E ⟨h, g, d, t, os⟩ := by
  unfold nsSet strHash mkText
  refine wpAny_bind (wpAny_bind (wpAny_askSetting (wpAny_pure (wpAny_bind (wpAny_bind (wpAny_fresh (wpAny_pure (wpAny_bind (wpAny_loadPart (D.at i a o hi) ?_)))))))))
  rw [hd]
  show wpAny _ _ (if _ then _ else _) _ _ _
  rw [if_neg (by rw [hr]; decide)]
  exact m_updPart o' D i hi ho hf x
theorem m_collect {l : Addr} {vs : List Value} {Q : List Value → Shared → Prop} (D : Mem h0 h chg news) (hl : h.IsList l vs.toArray) (x : ∀ h', Mem h0 h' chg news → Q vs ⟨h', g, d, t, os⟩) (hsz : vs.length ≤ sizeLine := by size_fits) :
    wpAny (model prog w) A (collect (.ref l)) Q E ⟨h, g, d, t, os⟩ :=
  collect_list hl (x _ (m_drop ((D.alloc (o := seqObj "list" #[] 0) rfl).update (i := 0) rfl rfl))) hsz
end
end
section
open PySem PySem.W PyProof.Rows PySem.Calls PySem.Spec PySem.SeqAt
open PySem.W.X (Mem)
set_option maxHeartbeats 4000000
variable {w : World}
noncomputable def ent (P : Params) (n : String) (t : Tok) (v : Value) : DictEntry := { hash := PyData.keyHash P (Str.ofString n), key := .str (Str.ofString n) t, val := v }
structure KD where
  (t1 t2 t3 t4 t5 t6 t7 t8 t9 t10 t11 t12 t13 m1 m2 : Tok)
  (sl f1 f2 f3 f4 f5 f6 st : Addr)
noncomputable def kEnts (P : Params) (K : KD) : Array DictEntry := #[ent P "__module__" K.t1 (.str (Str.ofString "cpy313.functools") K.m1), ent P "__qualname__" K.t2 (.str (Str.ofString "cmp_to_key.<locals>.K") K.t3), ent P "__firstlineno__" K.t4 (.int 18 K.m2),
  ent P "__slots__" K.t5 (.ref K.sl), ent P "__init__" K.t6 (.ref K.f1), ent P "__lt__" K.t7 (.ref K.f2), ent P "__gt__" K.t8 (.ref K.f3), ent P "__eq__" K.t9 (.ref K.f4), ent P "__le__" K.t10 (.ref K.f5), ent P "__ge__" K.t11 (.ref K.f6), ent P "__hash__" K.t12 .none,
  ent P "__static_attributes__" K.t13 (.ref K.st)]
theorem isid_obj : Builtin.Slots.isIdentifier (Str.ofString "obj") = some true := by kernel_rfl
theorem q_eq {α : Type} {R : α → Shared → Prop} {a b : α} {s : Shared} (h : R a s) (e : b = a) : R b s := e ▸ h
theorem kEnts_slots (P : Params) (K : KD) : (kEnts P K).find? (fun x => x.key.isStr (Str.ofString "__slots__")) = some { hash := PyData.keyHash P (Str.ofString "__slots__"), key := .str (Str.ofString "__slots__") K.t5, val := .ref K.sl } := by kernel_rfl!
theorem mangle_K : Builtin.Slots.mangle (Str.ofString "K") (Str.ofString "obj") = Str.ofString "obj" := by kernel_rfl!
theorem slots_read {prog : Program} {A : Around} {E : Value → Shared → Prop} {h0 h : Heap} {news : List (Addr × Obj)} {g : Array GenState} {d : Drawn} {t : Nat} {os : OsState} {R : Builtin.Slots.Plan → Shared → Prop}
    {K : KD} {P : Params} {tj : Tok}
    (D : Mem h0 h [] news) (hsl : h.get? K.sl = some { cls := .type "list", data := .seq #[.str (Str.ofString "obj") tj] 0 })
    (hR : ∀ h', Mem h0 h' [] news → R { names := [Str.ofString "obj"], dict := false, weak := false, inherited := [] } ⟨h', g, d, t, os⟩) :
    wpAny (model prog w) A (Builtin.Slots.read (Str.ofString "K") [.type "object"] (kEnts P K)) R E ⟨h, g, d, t, os⟩ := by
  have hcl : h.IsList K.sl [Value.str (Str.ofString "obj") tj].toArray := ⟨_, hsl, rfl, 0, rfl⟩
  unfold Builtin.Slots.read
  rw [kEnts_slots]
  (repeat (first | with_reducible (first | refine wpAny_of_eq (t := Builtin.extendedBase _) (a := .type "object") (by kernel_rfl!) ?_ | refine wpAny_of_eq (t := Builtin.notOverATurnedClass _) (a := ()) (by kernel_rfl!) ?_ | refine wpAny_of_eq (t := Builtin.Slots.bestBase _) (a := .type "object") (by kernel_rfl!) ?_ | refine wpAny_of_eq (t := Builtin.Slots.slotNamesOf (.type _)) (a := []) (by kernel_rfl!) ?_ | refine wpAny_of_eq (t := Builtin.Slots.givesDict (.type _)) (a := false) (by kernel_rfl!) ?_ | refine wpAny_of_eq (t := Builtin.Slots.givesWeak (.type _)) (a := false) (by kernel_rfl!) ?_ | refine wpAny_of_eq (t := Builtin.Slots.varSize (.type _)) (a := false) (by kernel_rfl!) ?_ | refine wpAny_of_eq (t := isSubtype (.type _) (.type _)) (a := true) (by kernel_rfl!) ?_ | refine wpAny_of_eq (t := isType (.type _)) (a := true) (by kernel_rfl!) ?_ | refine wpAny_of_eq (t := typeOf (.type _)) (a := .type "type") (by kernel_rfl!) ?_ | refine wpAny_of_eq (t := typeLookup (.type _) _) (a := some (.builtin "dict.__iter__")) (by kernel_rfl!) ?_ | refine wpAny_of_eq (t := typeLookup (.type _) _) (a := none) (by kernel_rfl!) ?_) | with_reducible (first | refine wpAny_pure ?_ | refine wpAny_bind ?_ | refine wpAny_holding ?_ | refine wpAny_standAt ?_ | refine wpAny_point ?_ | refine wpAny_rule ?_ | refine wpAny_letGo ?_ | refine wpAny_mkInt' ?_ | refine wpAny_fresh' ?_ | refine wpAny_attempt ?_ | refine wpAny_of_eq (by assumption) ?_) | ((with_reducible refine' wpAny_mkStr' (hx := ?mX) ?_); (case mX => size_fits)) | ((with_reducible refine m_alloc ?mD ?mf ?_); (case mD => assumption); (case mf => rfl); intro _ _ _) | ((with_reducible (first | apply wpAny_load' | apply wpAny_loadPart')); focus ((first | assumption | (refine Mem.at (h := _) ?mD 0 _ _ ?me; (case mD => assumption); (case me => rfl)) | (refine Mem.at (h := _) ?mD 1 _ _ ?me; (case mD => assumption); (case me => rfl)) | (refine Mem.at (h := _) ?mD 2 _ _ ?me; (case mD => assumption); (case me => rfl)) | (refine Mem.at (h := _) ?mD 3 _ _ ?me; (case mD => assumption); (case me => rfl)) | (refine m_old ?mD ?me; (case mD => assumption); (case me => assumption))); done)) | ((with_reducible refine m_nsGet none ?mh ?mv ?_); (case mh => (first | assumption | (refine Mem.at (h := _) ?mD 0 _ _ ?me; (case mD => assumption); (case me => rfl)) | (refine Mem.at (h := _) ?mD 1 _ _ ?me; (case mD => assumption); (case me => rfl)) | (refine Mem.at (h := _) ?mD 2 _ _ ?me; (case mD => assumption); (case me => rfl)) | (refine Mem.at (h := _) ?mD 3 _ _ ?me; (case mD => assumption); (case me => rfl)) | (refine m_old ?mD ?me; (case mD => assumption); (case me => assumption)))); (case mv => kernel_rfl!)) | ((with_reducible apply wpAny_ite_false); focus (first | (simp only [List.any_toArray]; kernel_rfl!) | (simp only [sizeLine_eq]; simp; done) | kernel_rfl! | simp [*]; done)) | ((with_reducible apply wpAny_ite_true); focus (first | (simp only [List.any_toArray]; kernel_rfl!) | (simp only [sizeLine_eq]; simp; done) | kernel_rfl! | simp [*]; done)) | ((with_reducible show wpAny _ _ (collect _) _ _ _); refine m_collect (vs := [_]) (by assumption) (by assumption) ?_ (by simp [sizeLine_eq]); intro _ _) | wp_delta | with_reducible_and_instances refine wpAny_pure ?_ | with_reducible_and_instances refine wpAny_bind ?_))
  rw [isid_obj]
  (repeat (first | with_reducible (first | refine wpAny_of_eq (t := Builtin.extendedBase _) (a := .type "object") (by kernel_rfl!) ?_ | refine wpAny_of_eq (t := Builtin.notOverATurnedClass _) (a := ()) (by kernel_rfl!) ?_ | refine wpAny_of_eq (t := Builtin.Slots.bestBase _) (a := .type "object") (by kernel_rfl!) ?_ | refine wpAny_of_eq (t := Builtin.Slots.slotNamesOf (.type _)) (a := []) (by kernel_rfl!) ?_ | refine wpAny_of_eq (t := Builtin.Slots.givesDict (.type _)) (a := false) (by kernel_rfl!) ?_ | refine wpAny_of_eq (t := Builtin.Slots.givesWeak (.type _)) (a := false) (by kernel_rfl!) ?_ | refine wpAny_of_eq (t := Builtin.Slots.varSize (.type _)) (a := false) (by kernel_rfl!) ?_ | refine wpAny_of_eq (t := isSubtype (.type _) (.type _)) (a := true) (by kernel_rfl!) ?_ | refine wpAny_of_eq (t := isType (.type _)) (a := true) (by kernel_rfl!) ?_ | refine wpAny_of_eq (t := typeOf (.type _)) (a := .type "type") (by kernel_rfl!) ?_ | refine wpAny_of_eq (t := typeLookup (.type _) _) (a := some (.builtin "dict.__iter__")) (by kernel_rfl!) ?_ | refine wpAny_of_eq (t := typeLookup (.type _) _) (a := none) (by kernel_rfl!) ?_) | with_reducible (first | refine wpAny_pure ?_ | refine wpAny_bind ?_ | refine wpAny_holding ?_ | refine wpAny_standAt ?_ | refine wpAny_point ?_ | refine wpAny_rule ?_ | refine wpAny_letGo ?_ | refine wpAny_mkInt' ?_ | refine wpAny_fresh' ?_ | refine wpAny_attempt ?_ | refine wpAny_of_eq (by assumption) ?_) | ((with_reducible refine' wpAny_mkStr' (hx := ?mX) ?_); (case mX => size_fits)) | ((with_reducible refine m_alloc ?mD ?mf ?_); (case mD => assumption); (case mf => rfl); intro _ _ _) | ((with_reducible (first | apply wpAny_load' | apply wpAny_loadPart')); focus ((first | assumption | (refine Mem.at (h := _) ?mD 0 _ _ ?me; (case mD => assumption); (case me => rfl)) | (refine Mem.at (h := _) ?mD 1 _ _ ?me; (case mD => assumption); (case me => rfl)) | (refine Mem.at (h := _) ?mD 2 _ _ ?me; (case mD => assumption); (case me => rfl)) | (refine Mem.at (h := _) ?mD 3 _ _ ?me; (case mD => assumption); (case me => rfl)) | (refine m_old ?mD ?me; (case mD => assumption); (case me => assumption))); done)) | ((with_reducible refine m_nsGet none ?mh ?mv ?_); (case mh => (first | assumption | (refine Mem.at (h := _) ?mD 0 _ _ ?me; (case mD => assumption); (case me => rfl)) | (refine Mem.at (h := _) ?mD 1 _ _ ?me; (case mD => assumption); (case me => rfl)) | (refine Mem.at (h := _) ?mD 2 _ _ ?me; (case mD => assumption); (case me => rfl)) | (refine Mem.at (h := _) ?mD 3 _ _ ?me; (case mD => assumption); (case me => rfl)) | (refine m_old ?mD ?me; (case mD => assumption); (case me => assumption)))); (case mv => kernel_rfl!)) | ((with_reducible apply wpAny_ite_false); focus (first | (simp only [List.any_toArray]; kernel_rfl!) | (simp only [sizeLine_eq]; simp; done) | kernel_rfl! | simp [*]; done)) | ((with_reducible apply wpAny_ite_true); focus (first | (simp only [List.any_toArray]; kernel_rfl!) | (simp only [sizeLine_eq]; simp; done) | kernel_rfl! | simp [*]; done)) | ((with_reducible show wpAny _ _ (collect _) _ _ _); refine m_collect (vs := [_]) (by assumption) (by assumption) ?_ (by simp [sizeLine_eq]); intro _ _) | wp_delta | with_reducible_and_instances refine wpAny_pure ?_ | with_reducible_and_instances refine wpAny_bind ?_))
  refine q_eq (hR _ (by assumption)) ?_
  kernel_rfl!
end
theorem fl16 : True := by w_top off; first | walk1 | trivial
section
open PySem PySem.W PyProof.Rows PySem.Calls PySem.Spec PySem.SeqAt
open PySem.W.X (Mem)
set_option maxHeartbeats 4000000
variable {w : World}
noncomputable def Big : Around := ⟨none, 350, none, none, 80⟩
theorem any_weak {α : Type} {M : Model} {A A' : Around} {t : Sem α} {Q : α → Shared → Prop} {E : Value → Shared → Prop} {s : Shared} (hh : A.handled = A'.handled) (hd : A.depth ≤ A'.depth) (hf : ∀ l, A'.frames = some l → A.frames = some l)
    (hg : ∀ l, A'.guards = some l → A.guards = some l) (hu : A.units ≤ A'.units) (h : wpAny M A' t Q E s) : wpAny M A t Q E s :=
  fun Γ p hΓ => h Γ p ⟨hΓ.1.trans hh, Nat.le_trans hΓ.2.1 hd, fun l hl => hΓ.2.2.1 l (hf l hl), fun l hl => hΓ.2.2.2.1 l (hg l hl), Nat.le_trans hΓ.2.2.2.2 hu⟩
set_option hygiene false in
local macro_rules | `(tactic| x_close) => `(tactic| exact hq _ _ _ (by assumption))
theorem sup_call {E : Value → Shared → Prop} {h : Heap} {g : Array GenState} {d : Drawn} {t : Nat} {os : OsState} {c nd : Addr} {nm qn : Str} {sn : List Str} {sl : Array (Option Value)} {Q : Value → Shared → Prop}
    (hc : h.get? c = some { cls := .type "type", data := .cls { name := nm, bases := [.type "object"], mro := [.ref c, .type "object"], ns := nd, qualname := qn, slotNames := sn, hasDict := false }, slots := sl })
    (hq : ∀ so h' t', Mem h h' [] [(so, { cls := .type "super", data := .fields #[.ref c, .ref c, .ref c] })] → Q (.ref so) ⟨h', g, d, t', os⟩) :
    wpAny (model PySem.Challenge.rw_ny0140_01.row.prog w) Big (call (.type "super") [.ref c, .ref c]) Q E ⟨h, g, d, t, os⟩ := by
  x_run
set_option hygiene false in
local macro_rules | `(tactic| x_close) => `(tactic| exact hq _ _ _ (by assumption))
theorem init_get {E : Value → Shared → Prop} {h : Heap} {g : Array GenState} {d : Drawn} {t : Nat} {os : OsState} {c nd : Addr} {nm qn : Str} {sn : List Str} {sl : Array (Option Value)} {Q : Value → Shared → Prop}
    (hc : h.get? c = some { cls := .type "type", data := .cls { name := nm, bases := [.type "object"], mro := [.ref c, .type "object"], ns := nd, qualname := qn, slotNames := sn, hasDict := false }, slots := sl })
    (hq : ∀ b h' t', Mem h h' [] [(b, { cls := .type "builtin_function_or_method", data := .fields #[.builtin "object.__init_subclass__", .ref c] })] → Q (.ref b) ⟨h', g, d, t', os⟩) :
    wpAny (model PySem.Challenge.rw_ny0140_01.row.prog w) Big (call (.builtin "classmethod_descriptor.__get__") [.builtin "object.__init_subclass__", .none, .ref c]) Q E ⟨h, g, d, t, os⟩ := by
  x_run
theorem sup_getattr {E : Value → Shared → Prop} {A : Around} {h : Heap} {g : Array GenState} {d : Drawn} {t : Nat} {os : OsState} {so c nd : Addr} {nm qn : Str} {sn : List Str} {sl : Array (Option Value)} {Q : Value → Shared → Prop}
    (hso : h.get? so = some { cls := .type "super", data := .fields #[.ref c, .ref c, .ref c] })
    (hc : h.get? c = some { cls := .type "type", data := .cls { name := nm, bases := [.type "object"], mro := [.ref c, .type "object"], ns := nd, qualname := qn, slotNames := sn, hasDict := false }, slots := sl })
    (X : (_root_.Mine.hd.heap_1_1 w.params).In h) (hh : A.handled = none) (hd : A.depth ≤ 340) (hu : A.units ≤ 60)
    (hq : ∀ b h' t', Mem h h' [] [(b, { cls := .type "builtin_function_or_method", data := .fields #[.builtin "object.__init_subclass__", .ref c] })] → Q (.ref b) ⟨h', g, d, t', os⟩) :
    wpAny (model PySem.Challenge.rw_ny0140_01.row.prog w) A (getAttr (.ref so) (Str.ofString "__init_subclass__")) Q E ⟨h, g, d, t, os⟩ := by
  have hlk := F.ks_slot_super_ga.lookup
  have hT : ∀ t', (⟨h, g, d, t', os⟩ : Shared).TypeIs (.ref so) "super" := fun _ => ⟨_, hso, rfl⟩
  unfold getAttr getAttrBy
  refine wpAny_bind (wpAny_mkText (wpAny_holding (wpAny_bind (wpAny_typeOf (hT _) (wpAny_bind (wpAny_of_eq hlk ?_))))))
  show wpAny _ _ (getAttrByItsOwn (.ref so) (.str (Str.ofString "__init_subclass__") t) (.type "super") (.builtin "super.__getattribute__") true false) _ _ _
  unfold getAttrByItsOwn hookBefore callGetattribute boundAndCalled
  refine wpAny_bind (wpAny_of_eq (show (if onTheHeap (.type "super") then typeLookup (.type "super") "__getattr__" else pure none) = pure none from rfl) ?_)
  refine wpAny_bind (wpAny_attempt (wpAny_holding ?_))
  show wpAny _ _ (bindSpecial (.builtin "super.__getattribute__") (.ref so) >>= _) _ _ _
  refine wpAny_bind (wpAny_of_eq (F.ks_slot_super_ga.bind _) ?_)
  refine wpAny_mono (Q := fun v s' => ∃ b h' t', v = .ref b ∧ s' = (⟨h', g, d, t', os⟩ : Shared) ∧ Mem h h' [] [(b, { cls := .type "builtin_function_or_method", data := .fields #[.builtin "object.__init_subclass__", .ref c] })]) (E := fun _ _ => False)
    (wpAny_call_entry F.ks_slot_super_ga (hT _) F.ks_entry_super_ga ?_ (F.ks_gaArgs_super _ _)) (fun v s' hv => ?_) fun _ _ z => z.elim
  case refine_2 =>
    obtain ⟨b, h', t', rfl, rfl, hm⟩ := hv
    exact wpAny_pure (hq b h' t' hm)
  have hdt : ({ cls := .type "super", dict := none, data := .fields #[.ref c, .ref c, .ref c], slots := #[] } : Obj).data = .fields #[.ref c, .ref c, .ref c] := rfl
  have f0 : (#[.ref c, .ref c, .ref c] : Array Value)[0]? = some (.ref c) := rfl
  have f1 : (#[.ref c, .ref c, .ref c] : Array Value)[1]? = some (.ref c) := rfl
  have f2 : (#[.ref c, .ref c, .ref c] : Array Value)[2]? = some (.ref c) := rfl
  unfold Builtin.«super.__getattribute__»
  have hno : Looks (model PySem.Challenge.rw_ny0140_01.row.prog w) h (opaqueClassAbove (.ref c)) none := looks_opaque X (by kernel_rfl!)
  have hdw : List.drop 1 (List.dropWhile (fun x => x != Value.ref c) [Value.ref c, .type "object"]) = [.type "object"] := by simp [List.dropWhile]
  repeat (first
    | (with_reducible refine wpAny_field hso hdt f0 ?_) | (with_reducible refine wpAny_field hso hdt f1 ?_) | (with_reducible refine wpAny_field hso hdt f2 ?_)
    | (with_reducible refine ks_wpAny_notOpaque hno ?_)
    | rw [hdw]
    | wp_step
    | dsimp only)
  have hs : (toString "object" ++ toString "." ++ toString (Str.ofString "__init_subclass__").toString) = "object.__init_subclass__" := by kernel_rfl!
  refine wpAny_of_eq (a := some (.builtin "classmethod_descriptor.__get__")) (by kernel_rfl!) ?_
  rw [hs]
  simp only [beq_self_eq_true, if_true]
  refine wpAny_bind (wpAny_holding ?_)
  refine any_weak (A' := Big) hh (Nat.le_trans hd (by decide)) (fun l hl => nomatch hl) (fun l hl => nomatch hl) (Nat.le_trans (Nat.succ_le_succ hu) (by decide)) ?_
  refine init_get hc fun b h' t' hm => ?_
  repeat wp_step
  exact ⟨_, rfl, b, h', t', rfl, rfl, hm⟩
set_option hygiene false in
local macro_rules | `(tactic| x_close) => `(tactic| first | exact hq _ _ _ (m_stays (by assumption)) | exact hq _ _ _ (fun _ _ e => e))
theorem init_call {E : Value → Shared → Prop} {h : Heap} {g : Array GenState} {d : Drawn} {t : Nat} {os : OsState} {b c nd : Addr} {tk t3 : Tok} {bT : Addr} {Q : Value → Shared → Prop}
    (hb : h.get? b = some { cls := .type "builtin_function_or_method", data := .fields #[.builtin "object.__init_subclass__", .ref c] })
    (hc : h.get? c = some { cls := .type "type", data := .cls { name := Str.ofString "K", bases := [.type "object"], mro := [.ref c, .type "object"], ns := nd, qualname := Str.ofString "cmp_to_key.<locals>.K", slotNames := [Str.ofString "obj"], hasDict := false }, slots := #[some (.ref bT), none, some (.str (Str.ofString "K") tk), some (.str (Str.ofString "cmp_to_key.<locals>.K") t3), some (.builtin "object.__new__"), some (.bool false)] })
    (X : (_root_.Mine.hd.heap_1_1 w.params).In h)
    (hq : ∀ v h' t', h.StaysIn h' → Q v ⟨h', g, d, t', os⟩) :
    wpAny (model PySem.Challenge.rw_ny0140_01.row.prog w) Big (call (.ref b) []) Q E ⟨h, g, d, t, os⟩ := by
  have fill : (fun w : World => _root_.Mine.hd.heap_1_1 w.params) = (fun w : World => _root_.Mine.hd.heap_1_1 w.params) ∧ PySem.Challenge.rw_ny0140_01.row.prog = PySem.Challenge.rw_ny0140_01.row.prog := (by k_fill; exact ⟨rfl, rfl⟩)
  clear fill
  x_run
end
theorem fl17 : True := by w_top off; first | walk1 | trivial
section
open PySem PySem.W PyProof.Rows PySem.Calls PySem.Spec PySem.SeqAt
open PySem.W.X (Mem)
set_option maxHeartbeats 4000000
variable {w : World}
noncomputable def kCls (nd : Addr) (mro : List Value) (sn : List Str) (sl : Array (Option Value)) : Obj :=
  { cls := .type "type", data := .cls { name := Str.ofString "K", bases := [.type "object"], mro := mro, ns := nd, qualname := Str.ofString "cmp_to_key.<locals>.K", slotNames := sn, hasDict := sn.isEmpty }, slots := sl }
noncomputable def kOwnE (P : Params) (K : KD) (more : List DictEntry) : Array DictEntry := #[ent P "__module__" K.t1 (.str (Str.ofString "cpy313.functools") K.m1), ent P "__firstlineno__" K.t4 (.int 18 K.m2),
  ent P "__slots__" K.t5 (.ref K.sl), ent P "__init__" K.t6 (.ref K.f1), ent P "__lt__" K.t7 (.ref K.f2), ent P "__gt__" K.t8 (.ref K.f3), ent P "__eq__" K.t9 (.ref K.f4), ent P "__le__" K.t10 (.ref K.f5), ent P "__ge__" K.t11 (.ref K.f6), ent P "__hash__" K.t12 .none,
  ent P "__static_attributes__" K.t13 (.ref K.st)] ++ more.toArray
noncomputable def kOwn (P : Params) (K : KD) (more : List DictEntry) (n : Nat) : Obj := { cls := .type "dict", data := .dict (kOwnE P K more) n }
theorem m_lookupK {M : Model} {A : Around} {E : Value → Shared → Prop} {s : Shared} {c nd : Addr} {oc on : Obj} {cd : ClassData} {name : Str} {r : Option Value} {Q : Option Value → Shared → Prop}
    (hc : s.heap.get? c = some oc) (hcd : oc.data = .cls cd) (hm : cd.mro = [.ref c, .type "object"]) (hnd : cd.ns = nd) (hn : s.heap.get? nd = some on) (hv : nsLook name on = pure none) (hb : builtinOwn "object" name = r) (hq : Q r s) :
    wpAny M A (typeLookup (.ref c) name) Q E s := by
  subst hb hnd
  unfold typeLookup mroOf classData
  refine wpAny_bind (wpAny_bind (wpAny_bind (wpAny_load hc ?_)))
  rw [hcd]
  refine wpAny_pure (wpAny_pure ?_)
  rw [hm]
  have e2 : wpAny M A (classOwn (.ref c) name) (fun v s' => v = none ∧ s' = s) E s := by
    unfold classOwn classData
    refine wpAny_bind (wpAny_bind (wpAny_load hc ?_))
    rw [hcd]
    exact wpAny_pure (m_nsGet none hn hv ⟨rfl, rfl⟩)
  simp only [List.forIn_cons, List.forIn_nil]
  refine wpAny_bind (wpAny_bind (wpAny_bind (wpAny_mono e2 (fun v s' hh => ?_) fun _ _ x => x)))
  obtain ⟨rfl, rfl⟩ := hh
  refine wpAny_pure (wpAny_bind (wpAny_bind (wpAny_of_eq (t := classOwn (.type "object") name) (a := builtinOwn "object" name) rfl ?_)))
  cases hh : builtinOwn "object" name with
  | none => exact wpAny_pure (wpAny_pure (wpAny_pure (hh ▸ hq)))
  | some v => exact wpAny_pure (wpAny_pure (wpAny_pure (hh ▸ hq)))
noncomputable def kSlots (bT : Addr) (tk t3 : Tok) : Array (Option Value) := #[some (.ref bT), none, some (.str (Str.ofString "K") tk), some (.str (Str.ofString "cmp_to_key.<locals>.K") t3), some (.builtin "object.__new__"), some (.bool false)]
noncomputable def kMem (c : Addr) (t : Tok) : Obj := { cls := .type "member_descriptor", data := .fields #[.str (Str.ofString "obj") t, .ref c, .builtin "proto.slot", .builtin "proto.slot#set", rawInt 0] }
noncomputable def kOwnL (P : Params) (K : KD) (more : List DictEntry) : List DictEntry := [ent P "__module__" K.t1 (.str (Str.ofString "cpy313.functools") K.m1), ent P "__firstlineno__" K.t4 (.int 18 K.m2),
  ent P "__slots__" K.t5 (.ref K.sl), ent P "__init__" K.t6 (.ref K.f1), ent P "__lt__" K.t7 (.ref K.f2), ent P "__gt__" K.t8 (.ref K.f3), ent P "__eq__" K.t9 (.ref K.f4), ent P "__le__" K.t10 (.ref K.f5), ent P "__ge__" K.t11 (.ref K.f6), ent P "__hash__" K.t12 .none,
  ent P "__static_attributes__" K.t13 (.ref K.st)] ++ more
theorem kOwnL_ent {P : Params} {K : KD} {more : List DictEntry} (hm : ∀ e ∈ more, ∃ n t v, e = ent P n t v) {e : DictEntry} (he : e ∈ kOwnL P K more) : ∃ n t v, e = ent P n t v := by
  rcases List.mem_append.mp he with he | he
  · simp only [List.mem_cons, List.not_mem_nil, or_false] at he
    rcases he with rfl | rfl | rfl | rfl | rfl | rfl | rfl | rfl | rfl | rfl | rfl <;> exact ⟨_, _, _, rfl⟩
  · exact hm e he
theorem loop_arr {β : Type} {M : Model} {A : Around} {E : Value → Shared → Prop} {s : Shared} {Q : β → Shared → Prop} {f : DictEntry → β → Sem (ForInStep β)} {b : β} {es : Array DictEntry} (l : List DictEntry) (hl : es.toList = l)
    (hf : ∀ e ∈ l, ∀ Q' : ForInStep β → Shared → Prop, Q' (.yield b) s → wpAny M A (f e b) Q' E s) (hq : Q b s) : wpAny M A (forIn es b f) Q E s := by
  subst hl
  rw [← Array.forIn_toList]
  generalize es.toList = l at hf
  induction l with
  | nil => exact wpAny_pure hq
  | cons e l ih =>
    rw [List.forIn_cons]
    exact wpAny_bind (hf e (.head _) _ (ih fun e' he' => hf e' (.tail _ he')))
theorem setname_type {T : String} (h : typeLookup (.type T) "__set_name__" = pure none) : typeLookup (.type T) (Str.ofString "__set_name__") = pure none := h
set_option maxHeartbeats 40000000 in
theorem tn {A : Around} {E : Value → Shared → Prop} {R : PySem.Fin → Shared → Prop} {h : Heap} {g : Array GenState} {d : Drawn} {t : Nat} {os : OsState} {bT ns : Addr} {tk tj : Tok} {n1 : Nat} {K : KD}
    (hb : h.get? bT = some { cls := .type "tuple", data := .seq #[.type "object"] 0 })
    (hn : h.get? ns = some { cls := .type "dict", data := .dict (kEnts w.params K) n1 })
    (X : (_root_.Mine.hd.heap_1_1 w.params).In h) (hh : A.handled = none) (hd : A.depth ≤ 340) (hu : A.units ≤ 60)
    (hfs : ∀ f ∈ [K.f1, K.f2, K.f3, K.f4, K.f5, K.f6], ∃ o, h.get? f = some o ∧ o.cls = .type "function") (hst : ∃ o, h.get? K.st = some o ∧ o.cls = .type "tuple")
    (hR : ∀ c nd md h1 h2 t', Mem h h1 [] [(md, kMem c t), (c, kCls nd [.ref c, .type "object"] [Str.ofString "obj"] (kSlots bT tk K.t3)), (nd, kOwn w.params K [ent w.params "obj" (t + 1) (.ref md), ent w.params "__doc__" (t + 2) .none] 3)] → h1.StaysIn h2 → R (.done (.ret (.ref c))) ⟨h2, g, d, t', os⟩)
    (hne : ns ≠ 1) (hsl : h.get? K.sl = some { cls := .type "list", data := .seq #[.str (Str.ofString "obj") tj] 0 }) :
    wpAny (model PySem.Challenge.rw_ny0140_01.row.prog w) A (Builtin.«type.__new__» ⟨[.type "type", .str (Str.ofString "K") tk, .ref bT, .ref ns], []⟩) R E ⟨h, g, d, t, os⟩ := by
  have hns : (ns == sysModules) = false := by simp [sysModules, hne]
  have D0 := Mem.start h
  unfold Builtin.«type.__new__»
  (repeat (first | (first | with_reducible (first | refine wpAny_of_eq (t := Builtin.extendedBase _) (a := .type "object") (by kernel_rfl!) ?_ | refine wpAny_of_eq (t := Bind.madeBy (.type _)) (a := some "object.__new__") (by kernel_rfl!) ?_ | refine wpAny_of_eq (t := Builtin.notOverATurnedClass _) (a := ()) (by kernel_rfl!) ?_ | refine wpAny_of_eq (t := Builtin.Slots.bestBase _) (a := .type "object") (by kernel_rfl!) ?_ | refine wpAny_of_eq (t := Builtin.Slots.slotNamesOf (.type _)) (a := []) (by kernel_rfl!) ?_ | refine wpAny_of_eq (t := Builtin.Slots.givesDict (.type _)) (a := false) (by kernel_rfl!) ?_ | refine wpAny_of_eq (t := Builtin.Slots.givesWeak (.type _)) (a := false) (by kernel_rfl!) ?_ | refine wpAny_of_eq (t := Builtin.Slots.varSize (.type _)) (a := false) (by kernel_rfl!) ?_ | refine wpAny_of_eq (t := isSubtype (.type _) (.type _)) (a := true) (by kernel_rfl!) ?_ | refine wpAny_of_eq (t := isType (.type _)) (a := true) (by kernel_rfl!) ?_ | refine wpAny_of_eq (t := typeOf (.type _)) (a := .type "type") (by kernel_rfl!) ?_ | refine wpAny_of_eq (t := typeLookup (.type _) _) (a := some (.builtin "dict.__iter__")) (by kernel_rfl!) ?_ | refine wpAny_of_eq (t := typeLookup (.type _) _) (a := none) (by kernel_rfl!) ?_) | with_reducible (first | refine wpAny_pure ?_ | refine wpAny_bind ?_ | refine wpAny_holding ?_ | refine wpAny_standAt ?_ | refine wpAny_point ?_ | refine wpAny_rule ?_ | refine wpAny_letGo ?_ | refine wpAny_tryCatch ?_ | refine wpAny_mkInt' ?_ | refine wpAny_fresh' ?_ | refine wpAny_attempt ?_ | refine wpAny_of_eq (by assumption) ?_) | ((with_reducible refine' wpAny_mkStr' (hx := ?mX) ?_); (case mX => size_fits)) | ((with_reducible refine' m_alloc ?mD ?mf ?_); (case mD => assumption); (case mf => rfl); intro _ _ _) | ((with_reducible (first | apply wpAny_load' | apply wpAny_loadPart')); focus ((first | assumption | (refine' Mem.at (h := _) ?mD 0 _ _ ?me; (case mD => assumption); (case me => rfl)) | (refine' Mem.at (h := _) ?mD 1 _ _ ?me; (case mD => assumption); (case me => rfl)) | (refine' Mem.at (h := _) ?mD 2 _ _ ?me; (case mD => assumption); (case me => rfl)) | (refine' Mem.at (h := _) ?mD 3 _ _ ?me; (case mD => assumption); (case me => rfl)) | (refine' m_old ?mD ?me; (case mD => assumption); (case me => assumption))); done)) | ((with_reducible refine' m_nsGet none ?mh ?mv ?_); (case mh => (first | assumption | (refine' Mem.at (h := _) ?mD 0 _ _ ?me; (case mD => assumption); (case me => rfl)) | (refine' Mem.at (h := _) ?mD 1 _ _ ?me; (case mD => assumption); (case me => rfl)) | (refine' Mem.at (h := _) ?mD 2 _ _ ?me; (case mD => assumption); (case me => rfl)) | (refine' Mem.at (h := _) ?mD 3 _ _ ?me; (case mD => assumption); (case me => rfl)) | (refine' m_old ?mD ?me; (case mD => assumption); (case me => assumption)))); (case mv => kernel_rfl!)) | ((with_reducible apply wpAny_ite_false); focus (first | (simp only [List.any_toArray]; kernel_rfl!) | (simp only [sizeLine_eq]; simp; done) | kernel_rfl! | simp [*]; done)) | ((with_reducible apply wpAny_ite_true); focus (first | (simp only [List.any_toArray]; kernel_rfl!) | (simp only [sizeLine_eq]; simp; done) | kernel_rfl! | simp [*]; done)) | ((with_reducible show wpAny _ _ (collect _) _ _ _); refine m_collect (vs := [_]) (by assumption) (by assumption) ?_ (by simp [sizeLine_eq]); intro _ _) | with_reducible_and_instances refine wpAny_pure ?_ | with_reducible_and_instances refine wpAny_bind ?_) | ((with_reducible show wpAny _ _ (Builtin.Slots.read _ _ _) _ _ _); refine' slots_read (h := _) (K := _) ?mD ?mS ?_; (case mD => assumption); (case mS => (first | assumption | (refine' Mem.at (h := _) ?mD 0 _ _ ?me; (case mD => assumption); (case me => rfl)) | (refine' Mem.at (h := _) ?mD 1 _ _ ?me; (case mD => assumption); (case me => rfl)) | (refine' Mem.at (h := _) ?mD 2 _ _ ?me; (case mD => assumption); (case me => rfl)) | (refine' Mem.at (h := _) ?mD 3 _ _ ?me; (case mD => assumption); (case me => rfl)) | (refine' m_old ?mD ?me; (case mD => assumption); (case me => assumption)))); intro _ _) | ((fail_if_success (first | (with_reducible show wpAny _ _ (Builtin.Slots.read _ _ _) _ _ _) | (with_reducible show wpAny _ _ (nsGet _ _) _ _ _) | (with_reducible show wpAny _ _ (nsSet _ _ _) _ _ _) | (with_reducible show wpAny _ _ (nsDel _ _) _ _ _) | (with_reducible show wpAny _ _ (Builtin.linearize _ _) _ _ _) | (with_reducible show wpAny _ _ (List.anyM _ _) _ _ _) | (with_reducible show wpAny _ _ (Bind.madeBy _) _ _ _) | (with_reducible show wpAny _ _ (typeLookup _ _) _ _ _) | (with_reducible show wpAny _ _ (Sem.tryCatch _ _) _ _ _))); wp_delta)))
  have hbs : (if (List.isEmpty ((some #[Value.type "object"]).getD #[]).toList) = true then [Value.type "object"] else ((some #[Value.type "object"]).getD #[]).toList) = [Value.type "object"] := rfl
  rw [hbs]
  (repeat (first | (first | with_reducible (first | refine wpAny_of_eq (t := Builtin.extendedBase _) (a := .type "object") (by kernel_rfl!) ?_ | refine wpAny_of_eq (t := Bind.madeBy (.type _)) (a := some "object.__new__") (by kernel_rfl!) ?_ | refine wpAny_of_eq (t := Builtin.notOverATurnedClass _) (a := ()) (by kernel_rfl!) ?_ | refine wpAny_of_eq (t := Builtin.Slots.bestBase _) (a := .type "object") (by kernel_rfl!) ?_ | refine wpAny_of_eq (t := Builtin.Slots.slotNamesOf (.type _)) (a := []) (by kernel_rfl!) ?_ | refine wpAny_of_eq (t := Builtin.Slots.givesDict (.type _)) (a := false) (by kernel_rfl!) ?_ | refine wpAny_of_eq (t := Builtin.Slots.givesWeak (.type _)) (a := false) (by kernel_rfl!) ?_ | refine wpAny_of_eq (t := Builtin.Slots.varSize (.type _)) (a := false) (by kernel_rfl!) ?_ | refine wpAny_of_eq (t := isSubtype (.type _) (.type _)) (a := true) (by kernel_rfl!) ?_ | refine wpAny_of_eq (t := isType (.type _)) (a := true) (by kernel_rfl!) ?_ | refine wpAny_of_eq (t := typeOf (.type _)) (a := .type "type") (by kernel_rfl!) ?_ | refine wpAny_of_eq (t := typeLookup (.type _) _) (a := some (.builtin "dict.__iter__")) (by kernel_rfl!) ?_ | refine wpAny_of_eq (t := typeLookup (.type _) _) (a := none) (by kernel_rfl!) ?_) | with_reducible (first | refine wpAny_pure ?_ | refine wpAny_bind ?_ | refine wpAny_holding ?_ | refine wpAny_standAt ?_ | refine wpAny_point ?_ | refine wpAny_rule ?_ | refine wpAny_letGo ?_ | refine wpAny_tryCatch ?_ | refine wpAny_mkInt' ?_ | refine wpAny_fresh' ?_ | refine wpAny_attempt ?_ | refine wpAny_of_eq (by assumption) ?_) | ((with_reducible refine' wpAny_mkStr' (hx := ?mX) ?_); (case mX => size_fits)) | ((with_reducible refine' m_alloc ?mD ?mf ?_); (case mD => assumption); (case mf => rfl); intro _ _ _) | ((with_reducible (first | apply wpAny_load' | apply wpAny_loadPart')); focus ((first | assumption | (refine' Mem.at (h := _) ?mD 0 _ _ ?me; (case mD => assumption); (case me => rfl)) | (refine' Mem.at (h := _) ?mD 1 _ _ ?me; (case mD => assumption); (case me => rfl)) | (refine' Mem.at (h := _) ?mD 2 _ _ ?me; (case mD => assumption); (case me => rfl)) | (refine' Mem.at (h := _) ?mD 3 _ _ ?me; (case mD => assumption); (case me => rfl)) | (refine' m_old ?mD ?me; (case mD => assumption); (case me => assumption))); done)) | ((with_reducible refine' m_nsGet none ?mh ?mv ?_); (case mh => (first | assumption | (refine' Mem.at (h := _) ?mD 0 _ _ ?me; (case mD => assumption); (case me => rfl)) | (refine' Mem.at (h := _) ?mD 1 _ _ ?me; (case mD => assumption); (case me => rfl)) | (refine' Mem.at (h := _) ?mD 2 _ _ ?me; (case mD => assumption); (case me => rfl)) | (refine' Mem.at (h := _) ?mD 3 _ _ ?me; (case mD => assumption); (case me => rfl)) | (refine' m_old ?mD ?me; (case mD => assumption); (case me => assumption)))); (case mv => kernel_rfl!)) | ((with_reducible apply wpAny_ite_false); focus (first | (simp only [List.any_toArray]; kernel_rfl!) | (simp only [sizeLine_eq]; simp; done) | kernel_rfl! | simp [*]; done)) | ((with_reducible apply wpAny_ite_true); focus (first | (simp only [List.any_toArray]; kernel_rfl!) | (simp only [sizeLine_eq]; simp; done) | kernel_rfl! | simp [*]; done)) | ((with_reducible show wpAny _ _ (collect _) _ _ _); refine m_collect (vs := [_]) (by assumption) (by assumption) ?_ (by simp [sizeLine_eq]); intro _ _) | with_reducible_and_instances refine wpAny_pure ?_ | with_reducible_and_instances refine wpAny_bind ?_) | ((with_reducible show wpAny _ _ (Builtin.Slots.read _ _ _) _ _ _); refine' slots_read (h := _) (K := _) ?mD ?mS ?_; (case mD => assumption); (case mS => (first | assumption | (refine' Mem.at (h := _) ?mD 0 _ _ ?me; (case mD => assumption); (case me => rfl)) | (refine' Mem.at (h := _) ?mD 1 _ _ ?me; (case mD => assumption); (case me => rfl)) | (refine' Mem.at (h := _) ?mD 2 _ _ ?me; (case mD => assumption); (case me => rfl)) | (refine' Mem.at (h := _) ?mD 3 _ _ ?me; (case mD => assumption); (case me => rfl)) | (refine' m_old ?mD ?me; (case mD => assumption); (case me => assumption)))); intro _ _) | ((fail_if_success (first | (with_reducible show wpAny _ _ (Builtin.Slots.read _ _ _) _ _ _) | (with_reducible show wpAny _ _ (nsGet _ _) _ _ _) | (with_reducible show wpAny _ _ (nsSet _ _ _) _ _ _) | (with_reducible show wpAny _ _ (nsDel _ _) _ _ _) | (with_reducible show wpAny _ _ (Builtin.linearize _ _) _ _ _) | (with_reducible show wpAny _ _ (List.anyM _ _) _ _ _) | (with_reducible show wpAny _ _ (Bind.madeBy _) _ _ _) | (with_reducible show wpAny _ _ (typeLookup _ _) _ _ _) | (with_reducible show wpAny _ _ (Sem.tryCatch _ _) _ _ _))); wp_delta)))
  refine m_nsGet (some (.str (Str.ofString "cmp_to_key.<locals>.K") K.t3)) (by (first | assumption | (refine' Mem.at (h := _) ?mD 0 _ _ ?me; (case mD => assumption); (case me => rfl)) | (refine' Mem.at (h := _) ?mD 1 _ _ ?me; (case mD => assumption); (case me => rfl)) | (refine' Mem.at (h := _) ?mD 2 _ _ ?me; (case mD => assumption); (case me => rfl)) | (refine' Mem.at (h := _) ?mD 3 _ _ ?me; (case mD => assumption); (case me => rfl)) | (refine' m_old ?mD ?me; (case mD => assumption); (case me => assumption)))) (by kernel_rfl!) ?_
  (repeat (first | (first | with_reducible (first | refine wpAny_of_eq (t := Builtin.extendedBase _) (a := .type "object") (by kernel_rfl!) ?_ | refine wpAny_of_eq (t := Bind.madeBy (.type _)) (a := some "object.__new__") (by kernel_rfl!) ?_ | refine wpAny_of_eq (t := Builtin.notOverATurnedClass _) (a := ()) (by kernel_rfl!) ?_ | refine wpAny_of_eq (t := Builtin.Slots.bestBase _) (a := .type "object") (by kernel_rfl!) ?_ | refine wpAny_of_eq (t := Builtin.Slots.slotNamesOf (.type _)) (a := []) (by kernel_rfl!) ?_ | refine wpAny_of_eq (t := Builtin.Slots.givesDict (.type _)) (a := false) (by kernel_rfl!) ?_ | refine wpAny_of_eq (t := Builtin.Slots.givesWeak (.type _)) (a := false) (by kernel_rfl!) ?_ | refine wpAny_of_eq (t := Builtin.Slots.varSize (.type _)) (a := false) (by kernel_rfl!) ?_ | refine wpAny_of_eq (t := isSubtype (.type _) (.type _)) (a := true) (by kernel_rfl!) ?_ | refine wpAny_of_eq (t := isType (.type _)) (a := true) (by kernel_rfl!) ?_ | refine wpAny_of_eq (t := typeOf (.type _)) (a := .type "type") (by kernel_rfl!) ?_ | refine wpAny_of_eq (t := typeLookup (.type _) _) (a := some (.builtin "dict.__iter__")) (by kernel_rfl!) ?_ | refine wpAny_of_eq (t := typeLookup (.type _) _) (a := none) (by kernel_rfl!) ?_) | with_reducible (first | refine wpAny_pure ?_ | refine wpAny_bind ?_ | refine wpAny_holding ?_ | refine wpAny_standAt ?_ | refine wpAny_point ?_ | refine wpAny_rule ?_ | refine wpAny_letGo ?_ | refine wpAny_tryCatch ?_ | refine wpAny_mkInt' ?_ | refine wpAny_fresh' ?_ | refine wpAny_attempt ?_ | refine wpAny_of_eq (by assumption) ?_) | ((with_reducible refine' wpAny_mkStr' (hx := ?mX) ?_); (case mX => size_fits)) | ((with_reducible refine' m_alloc ?mD ?mf ?_); (case mD => assumption); (case mf => rfl); intro _ _ _) | ((with_reducible (first | apply wpAny_load' | apply wpAny_loadPart')); focus ((first | assumption | (refine' Mem.at (h := _) ?mD 0 _ _ ?me; (case mD => assumption); (case me => rfl)) | (refine' Mem.at (h := _) ?mD 1 _ _ ?me; (case mD => assumption); (case me => rfl)) | (refine' Mem.at (h := _) ?mD 2 _ _ ?me; (case mD => assumption); (case me => rfl)) | (refine' Mem.at (h := _) ?mD 3 _ _ ?me; (case mD => assumption); (case me => rfl)) | (refine' m_old ?mD ?me; (case mD => assumption); (case me => assumption))); done)) | ((with_reducible refine' m_nsGet none ?mh ?mv ?_); (case mh => (first | assumption | (refine' Mem.at (h := _) ?mD 0 _ _ ?me; (case mD => assumption); (case me => rfl)) | (refine' Mem.at (h := _) ?mD 1 _ _ ?me; (case mD => assumption); (case me => rfl)) | (refine' Mem.at (h := _) ?mD 2 _ _ ?me; (case mD => assumption); (case me => rfl)) | (refine' Mem.at (h := _) ?mD 3 _ _ ?me; (case mD => assumption); (case me => rfl)) | (refine' m_old ?mD ?me; (case mD => assumption); (case me => assumption)))); (case mv => kernel_rfl!)) | ((with_reducible apply wpAny_ite_false); focus (first | (simp only [List.any_toArray]; kernel_rfl!) | (simp only [sizeLine_eq]; simp; done) | kernel_rfl! | simp [*]; done)) | ((with_reducible apply wpAny_ite_true); focus (first | (simp only [List.any_toArray]; kernel_rfl!) | (simp only [sizeLine_eq]; simp; done) | kernel_rfl! | simp [*]; done)) | ((with_reducible show wpAny _ _ (collect _) _ _ _); refine m_collect (vs := [_]) (by assumption) (by assumption) ?_ (by simp [sizeLine_eq]); intro _ _) | with_reducible_and_instances refine wpAny_pure ?_ | with_reducible_and_instances refine wpAny_bind ?_) | ((with_reducible show wpAny _ _ (Builtin.Slots.read _ _ _) _ _ _); refine' slots_read (h := _) (K := _) ?mD ?mS ?_; (case mD => assumption); (case mS => (first | assumption | (refine' Mem.at (h := _) ?mD 0 _ _ ?me; (case mD => assumption); (case me => rfl)) | (refine' Mem.at (h := _) ?mD 1 _ _ ?me; (case mD => assumption); (case me => rfl)) | (refine' Mem.at (h := _) ?mD 2 _ _ ?me; (case mD => assumption); (case me => rfl)) | (refine' Mem.at (h := _) ?mD 3 _ _ ?me; (case mD => assumption); (case me => rfl)) | (refine' m_old ?mD ?me; (case mD => assumption); (case me => assumption)))); intro _ _) | ((fail_if_success (first | (with_reducible show wpAny _ _ (Builtin.Slots.read _ _ _) _ _ _) | (with_reducible show wpAny _ _ (nsGet _ _) _ _ _) | (with_reducible show wpAny _ _ (nsSet _ _ _) _ _ _) | (with_reducible show wpAny _ _ (nsDel _ _) _ _ _) | (with_reducible show wpAny _ _ (Builtin.linearize _ _) _ _ _) | (with_reducible show wpAny _ _ (List.anyM _ _) _ _ _) | (with_reducible show wpAny _ _ (Bind.madeBy _) _ _ _) | (with_reducible show wpAny _ _ (typeLookup _ _) _ _ _) | (with_reducible show wpAny _ _ (Sem.tryCatch _ _) _ _ _))); wp_delta)))
  refine m_nsGet (some (.str (Str.ofString "cmp_to_key.<locals>.K") K.t3)) (by (first | assumption | (refine' Mem.at (h := _) ?mD 0 _ _ ?me; (case mD => assumption); (case me => rfl)) | (refine' Mem.at (h := _) ?mD 1 _ _ ?me; (case mD => assumption); (case me => rfl)) | (refine' Mem.at (h := _) ?mD 2 _ _ ?me; (case mD => assumption); (case me => rfl)) | (refine' Mem.at (h := _) ?mD 3 _ _ ?me; (case mD => assumption); (case me => rfl)) | (refine' m_old ?mD ?me; (case mD => assumption); (case me => assumption)))) (by kernel_rfl!) ?_
  (repeat (first | (first | with_reducible (first | refine wpAny_of_eq (t := Builtin.extendedBase _) (a := .type "object") (by kernel_rfl!) ?_ | refine wpAny_of_eq (t := Bind.madeBy (.type _)) (a := some "object.__new__") (by kernel_rfl!) ?_ | refine wpAny_of_eq (t := Builtin.notOverATurnedClass _) (a := ()) (by kernel_rfl!) ?_ | refine wpAny_of_eq (t := Builtin.Slots.bestBase _) (a := .type "object") (by kernel_rfl!) ?_ | refine wpAny_of_eq (t := Builtin.Slots.slotNamesOf (.type _)) (a := []) (by kernel_rfl!) ?_ | refine wpAny_of_eq (t := Builtin.Slots.givesDict (.type _)) (a := false) (by kernel_rfl!) ?_ | refine wpAny_of_eq (t := Builtin.Slots.givesWeak (.type _)) (a := false) (by kernel_rfl!) ?_ | refine wpAny_of_eq (t := Builtin.Slots.varSize (.type _)) (a := false) (by kernel_rfl!) ?_ | refine wpAny_of_eq (t := isSubtype (.type _) (.type _)) (a := true) (by kernel_rfl!) ?_ | refine wpAny_of_eq (t := isType (.type _)) (a := true) (by kernel_rfl!) ?_ | refine wpAny_of_eq (t := typeOf (.type _)) (a := .type "type") (by kernel_rfl!) ?_ | refine wpAny_of_eq (t := typeLookup (.type _) _) (a := some (.builtin "dict.__iter__")) (by kernel_rfl!) ?_ | refine wpAny_of_eq (t := typeLookup (.type _) _) (a := none) (by kernel_rfl!) ?_) | with_reducible (first | refine wpAny_pure ?_ | refine wpAny_bind ?_ | refine wpAny_holding ?_ | refine wpAny_standAt ?_ | refine wpAny_point ?_ | refine wpAny_rule ?_ | refine wpAny_letGo ?_ | refine wpAny_tryCatch ?_ | refine wpAny_mkInt' ?_ | refine wpAny_fresh' ?_ | refine wpAny_attempt ?_ | refine wpAny_of_eq (by assumption) ?_) | ((with_reducible refine' wpAny_mkStr' (hx := ?mX) ?_); (case mX => size_fits)) | ((with_reducible refine' m_alloc ?mD ?mf ?_); (case mD => assumption); (case mf => rfl); intro _ _ _) | ((with_reducible (first | apply wpAny_load' | apply wpAny_loadPart')); focus ((first | assumption | (refine' Mem.at (h := _) ?mD 0 _ _ ?me; (case mD => assumption); (case me => rfl)) | (refine' Mem.at (h := _) ?mD 1 _ _ ?me; (case mD => assumption); (case me => rfl)) | (refine' Mem.at (h := _) ?mD 2 _ _ ?me; (case mD => assumption); (case me => rfl)) | (refine' Mem.at (h := _) ?mD 3 _ _ ?me; (case mD => assumption); (case me => rfl)) | (refine' m_old ?mD ?me; (case mD => assumption); (case me => assumption))); done)) | ((with_reducible refine' m_nsGet none ?mh ?mv ?_); (case mh => (first | assumption | (refine' Mem.at (h := _) ?mD 0 _ _ ?me; (case mD => assumption); (case me => rfl)) | (refine' Mem.at (h := _) ?mD 1 _ _ ?me; (case mD => assumption); (case me => rfl)) | (refine' Mem.at (h := _) ?mD 2 _ _ ?me; (case mD => assumption); (case me => rfl)) | (refine' Mem.at (h := _) ?mD 3 _ _ ?me; (case mD => assumption); (case me => rfl)) | (refine' m_old ?mD ?me; (case mD => assumption); (case me => assumption)))); (case mv => kernel_rfl!)) | ((with_reducible apply wpAny_ite_false); focus (first | (simp only [List.any_toArray]; kernel_rfl!) | (simp only [sizeLine_eq]; simp; done) | kernel_rfl! | simp [*]; done)) | ((with_reducible apply wpAny_ite_true); focus (first | (simp only [List.any_toArray]; kernel_rfl!) | (simp only [sizeLine_eq]; simp; done) | kernel_rfl! | simp [*]; done)) | ((with_reducible show wpAny _ _ (collect _) _ _ _); refine m_collect (vs := [_]) (by assumption) (by assumption) ?_ (by simp [sizeLine_eq]); intro _ _) | with_reducible_and_instances refine wpAny_pure ?_ | with_reducible_and_instances refine wpAny_bind ?_) | ((with_reducible show wpAny _ _ (Builtin.Slots.read _ _ _) _ _ _); refine' slots_read (h := _) (K := _) ?mD ?mS ?_; (case mD => assumption); (case mS => (first | assumption | (refine' Mem.at (h := _) ?mD 0 _ _ ?me; (case mD => assumption); (case me => rfl)) | (refine' Mem.at (h := _) ?mD 1 _ _ ?me; (case mD => assumption); (case me => rfl)) | (refine' Mem.at (h := _) ?mD 2 _ _ ?me; (case mD => assumption); (case me => rfl)) | (refine' Mem.at (h := _) ?mD 3 _ _ ?me; (case mD => assumption); (case me => rfl)) | (refine' m_old ?mD ?me; (case mD => assumption); (case me => assumption)))); intro _ _) | ((fail_if_success (first | (with_reducible show wpAny _ _ (Builtin.Slots.read _ _ _) _ _ _) | (with_reducible show wpAny _ _ (nsGet _ _) _ _ _) | (with_reducible show wpAny _ _ (nsSet _ _ _) _ _ _) | (with_reducible show wpAny _ _ (nsDel _ _) _ _ _) | (with_reducible show wpAny _ _ (Builtin.linearize _ _) _ _ _) | (with_reducible show wpAny _ _ (List.anyM _ _) _ _ _) | (with_reducible show wpAny _ _ (Bind.madeBy _) _ _ _) | (with_reducible show wpAny _ _ (typeLookup _ _) _ _ _) | (with_reducible show wpAny _ _ (Sem.tryCatch _ _) _ _ _))); wp_delta)))
  rename_i nd h2 D2 c h3 D3
  refine m_updPart (kCls nd [] [] #[some (.ref bT)]) D3 0 rfl (by kernel_rfl!) rfl ?_
  intro h4 D4
  (repeat (first | (first | with_reducible (first | refine wpAny_of_eq (t := Builtin.extendedBase _) (a := .type "object") (by kernel_rfl!) ?_ | refine wpAny_of_eq (t := Bind.madeBy (.type _)) (a := some "object.__new__") (by kernel_rfl!) ?_ | refine wpAny_of_eq (t := Builtin.notOverATurnedClass _) (a := ()) (by kernel_rfl!) ?_ | refine wpAny_of_eq (t := Builtin.Slots.bestBase _) (a := .type "object") (by kernel_rfl!) ?_ | refine wpAny_of_eq (t := Builtin.Slots.slotNamesOf (.type _)) (a := []) (by kernel_rfl!) ?_ | refine wpAny_of_eq (t := Builtin.Slots.givesDict (.type _)) (a := false) (by kernel_rfl!) ?_ | refine wpAny_of_eq (t := Builtin.Slots.givesWeak (.type _)) (a := false) (by kernel_rfl!) ?_ | refine wpAny_of_eq (t := Builtin.Slots.varSize (.type _)) (a := false) (by kernel_rfl!) ?_ | refine wpAny_of_eq (t := isSubtype (.type _) (.type _)) (a := true) (by kernel_rfl!) ?_ | refine wpAny_of_eq (t := isType (.type _)) (a := true) (by kernel_rfl!) ?_ | refine wpAny_of_eq (t := typeOf (.type _)) (a := .type "type") (by kernel_rfl!) ?_ | refine wpAny_of_eq (t := typeLookup (.type _) _) (a := some (.builtin "dict.__iter__")) (by kernel_rfl!) ?_ | refine wpAny_of_eq (t := typeLookup (.type _) _) (a := none) (by kernel_rfl!) ?_) | with_reducible (first | refine wpAny_pure ?_ | refine wpAny_bind ?_ | refine wpAny_holding ?_ | refine wpAny_standAt ?_ | refine wpAny_point ?_ | refine wpAny_rule ?_ | refine wpAny_letGo ?_ | refine wpAny_tryCatch ?_ | refine wpAny_mkInt' ?_ | refine wpAny_fresh' ?_ | refine wpAny_attempt ?_ | refine wpAny_of_eq (by assumption) ?_) | ((with_reducible refine' wpAny_mkStr' (hx := ?mX) ?_); (case mX => size_fits)) | ((with_reducible refine' m_alloc ?mD ?mf ?_); (case mD => assumption); (case mf => rfl); intro _ _ _) | ((with_reducible (first | apply wpAny_load' | apply wpAny_loadPart')); focus ((first | assumption | (refine' Mem.at (h := _) ?mD 0 _ _ ?me; (case mD => assumption); (case me => rfl)) | (refine' Mem.at (h := _) ?mD 1 _ _ ?me; (case mD => assumption); (case me => rfl)) | (refine' Mem.at (h := _) ?mD 2 _ _ ?me; (case mD => assumption); (case me => rfl)) | (refine' Mem.at (h := _) ?mD 3 _ _ ?me; (case mD => assumption); (case me => rfl)) | (refine' m_old ?mD ?me; (case mD => assumption); (case me => assumption))); done)) | ((with_reducible refine' m_nsGet none ?mh ?mv ?_); (case mh => (first | assumption | (refine' Mem.at (h := _) ?mD 0 _ _ ?me; (case mD => assumption); (case me => rfl)) | (refine' Mem.at (h := _) ?mD 1 _ _ ?me; (case mD => assumption); (case me => rfl)) | (refine' Mem.at (h := _) ?mD 2 _ _ ?me; (case mD => assumption); (case me => rfl)) | (refine' Mem.at (h := _) ?mD 3 _ _ ?me; (case mD => assumption); (case me => rfl)) | (refine' m_old ?mD ?me; (case mD => assumption); (case me => assumption)))); (case mv => kernel_rfl!)) | ((with_reducible apply wpAny_ite_false); focus (first | (simp only [List.any_toArray]; kernel_rfl!) | (simp only [sizeLine_eq]; simp; done) | kernel_rfl! | simp [*]; done)) | ((with_reducible apply wpAny_ite_true); focus (first | (simp only [List.any_toArray]; kernel_rfl!) | (simp only [sizeLine_eq]; simp; done) | kernel_rfl! | simp [*]; done)) | ((with_reducible show wpAny _ _ (collect _) _ _ _); refine m_collect (vs := [_]) (by assumption) (by assumption) ?_ (by simp [sizeLine_eq]); intro _ _) | with_reducible_and_instances refine wpAny_pure ?_ | with_reducible_and_instances refine wpAny_bind ?_) | ((with_reducible show wpAny _ _ (Builtin.Slots.read _ _ _) _ _ _); refine' slots_read (h := _) (K := _) ?mD ?mS ?_; (case mD => assumption); (case mS => (first | assumption | (refine' Mem.at (h := _) ?mD 0 _ _ ?me; (case mD => assumption); (case me => rfl)) | (refine' Mem.at (h := _) ?mD 1 _ _ ?me; (case mD => assumption); (case me => rfl)) | (refine' Mem.at (h := _) ?mD 2 _ _ ?me; (case mD => assumption); (case me => rfl)) | (refine' Mem.at (h := _) ?mD 3 _ _ ?me; (case mD => assumption); (case me => rfl)) | (refine' m_old ?mD ?me; (case mD => assumption); (case me => assumption)))); intro _ _) | ((fail_if_success (first | (with_reducible show wpAny _ _ (Builtin.Slots.read _ _ _) _ _ _) | (with_reducible show wpAny _ _ (nsGet _ _) _ _ _) | (with_reducible show wpAny _ _ (nsSet _ _ _) _ _ _) | (with_reducible show wpAny _ _ (nsDel _ _) _ _ _) | (with_reducible show wpAny _ _ (Builtin.linearize _ _) _ _ _) | (with_reducible show wpAny _ _ (List.anyM _ _) _ _ _) | (with_reducible show wpAny _ _ (Bind.madeBy _) _ _ _) | (with_reducible show wpAny _ _ (typeLookup _ _) _ _ _) | (with_reducible show wpAny _ _ (Sem.tryCatch _ _) _ _ _))); wp_delta)))
  refine m_updPart (kCls nd [] [] #[some (.ref bT), none, some (.str (Str.ofString "K") tk)]) D4 0 rfl (by kernel_rfl!) rfl ?_
  intro h5 D5
  (repeat (first | (first | with_reducible (first | refine wpAny_of_eq (t := Builtin.extendedBase _) (a := .type "object") (by kernel_rfl!) ?_ | refine wpAny_of_eq (t := Bind.madeBy (.type _)) (a := some "object.__new__") (by kernel_rfl!) ?_ | refine wpAny_of_eq (t := Builtin.notOverATurnedClass _) (a := ()) (by kernel_rfl!) ?_ | refine wpAny_of_eq (t := Builtin.Slots.bestBase _) (a := .type "object") (by kernel_rfl!) ?_ | refine wpAny_of_eq (t := Builtin.Slots.slotNamesOf (.type _)) (a := []) (by kernel_rfl!) ?_ | refine wpAny_of_eq (t := Builtin.Slots.givesDict (.type _)) (a := false) (by kernel_rfl!) ?_ | refine wpAny_of_eq (t := Builtin.Slots.givesWeak (.type _)) (a := false) (by kernel_rfl!) ?_ | refine wpAny_of_eq (t := Builtin.Slots.varSize (.type _)) (a := false) (by kernel_rfl!) ?_ | refine wpAny_of_eq (t := isSubtype (.type _) (.type _)) (a := true) (by kernel_rfl!) ?_ | refine wpAny_of_eq (t := isType (.type _)) (a := true) (by kernel_rfl!) ?_ | refine wpAny_of_eq (t := typeOf (.type _)) (a := .type "type") (by kernel_rfl!) ?_ | refine wpAny_of_eq (t := typeLookup (.type _) _) (a := some (.builtin "dict.__iter__")) (by kernel_rfl!) ?_ | refine wpAny_of_eq (t := typeLookup (.type _) _) (a := none) (by kernel_rfl!) ?_) | with_reducible (first | refine wpAny_pure ?_ | refine wpAny_bind ?_ | refine wpAny_holding ?_ | refine wpAny_standAt ?_ | refine wpAny_point ?_ | refine wpAny_rule ?_ | refine wpAny_letGo ?_ | refine wpAny_tryCatch ?_ | refine wpAny_mkInt' ?_ | refine wpAny_fresh' ?_ | refine wpAny_attempt ?_ | refine wpAny_of_eq (by assumption) ?_) | ((with_reducible refine' wpAny_mkStr' (hx := ?mX) ?_); (case mX => size_fits)) | ((with_reducible refine' m_alloc ?mD ?mf ?_); (case mD => assumption); (case mf => rfl); intro _ _ _) | ((with_reducible (first | apply wpAny_load' | apply wpAny_loadPart')); focus ((first | assumption | (refine' Mem.at (h := _) ?mD 0 _ _ ?me; (case mD => assumption); (case me => rfl)) | (refine' Mem.at (h := _) ?mD 1 _ _ ?me; (case mD => assumption); (case me => rfl)) | (refine' Mem.at (h := _) ?mD 2 _ _ ?me; (case mD => assumption); (case me => rfl)) | (refine' Mem.at (h := _) ?mD 3 _ _ ?me; (case mD => assumption); (case me => rfl)) | (refine' m_old ?mD ?me; (case mD => assumption); (case me => assumption))); done)) | ((with_reducible refine' m_nsGet none ?mh ?mv ?_); (case mh => (first | assumption | (refine' Mem.at (h := _) ?mD 0 _ _ ?me; (case mD => assumption); (case me => rfl)) | (refine' Mem.at (h := _) ?mD 1 _ _ ?me; (case mD => assumption); (case me => rfl)) | (refine' Mem.at (h := _) ?mD 2 _ _ ?me; (case mD => assumption); (case me => rfl)) | (refine' Mem.at (h := _) ?mD 3 _ _ ?me; (case mD => assumption); (case me => rfl)) | (refine' m_old ?mD ?me; (case mD => assumption); (case me => assumption)))); (case mv => kernel_rfl!)) | ((with_reducible apply wpAny_ite_false); focus (first | (simp only [List.any_toArray]; kernel_rfl!) | (simp only [sizeLine_eq]; simp; done) | kernel_rfl! | simp [*]; done)) | ((with_reducible apply wpAny_ite_true); focus (first | (simp only [List.any_toArray]; kernel_rfl!) | (simp only [sizeLine_eq]; simp; done) | kernel_rfl! | simp [*]; done)) | ((with_reducible show wpAny _ _ (collect _) _ _ _); refine m_collect (vs := [_]) (by assumption) (by assumption) ?_ (by simp [sizeLine_eq]); intro _ _) | with_reducible_and_instances refine wpAny_pure ?_ | with_reducible_and_instances refine wpAny_bind ?_) | ((with_reducible show wpAny _ _ (Builtin.Slots.read _ _ _) _ _ _); refine' slots_read (h := _) (K := _) ?mD ?mS ?_; (case mD => assumption); (case mS => (first | assumption | (refine' Mem.at (h := _) ?mD 0 _ _ ?me; (case mD => assumption); (case me => rfl)) | (refine' Mem.at (h := _) ?mD 1 _ _ ?me; (case mD => assumption); (case me => rfl)) | (refine' Mem.at (h := _) ?mD 2 _ _ ?me; (case mD => assumption); (case me => rfl)) | (refine' Mem.at (h := _) ?mD 3 _ _ ?me; (case mD => assumption); (case me => rfl)) | (refine' m_old ?mD ?me; (case mD => assumption); (case me => assumption)))); intro _ _) | ((fail_if_success (first | (with_reducible show wpAny _ _ (Builtin.Slots.read _ _ _) _ _ _) | (with_reducible show wpAny _ _ (nsGet _ _) _ _ _) | (with_reducible show wpAny _ _ (nsSet _ _ _) _ _ _) | (with_reducible show wpAny _ _ (nsDel _ _) _ _ _) | (with_reducible show wpAny _ _ (Builtin.linearize _ _) _ _ _) | (with_reducible show wpAny _ _ (List.anyM _ _) _ _ _) | (with_reducible show wpAny _ _ (Bind.madeBy _) _ _ _) | (with_reducible show wpAny _ _ (typeLookup _ _) _ _ _) | (with_reducible show wpAny _ _ (Sem.tryCatch _ _) _ _ _))); wp_delta)))
  refine m_updPart (kCls nd [] [] #[some (.ref bT), none, some (.str (Str.ofString "K") tk), some (.str (Str.ofString "cmp_to_key.<locals>.K") K.t3)]) D5 0 rfl (by kernel_rfl!) rfl ?_
  intro h6 D6
  (repeat (first | (first | with_reducible (first | refine wpAny_of_eq (t := Builtin.extendedBase _) (a := .type "object") (by kernel_rfl!) ?_ | refine wpAny_of_eq (t := Bind.madeBy (.type _)) (a := some "object.__new__") (by kernel_rfl!) ?_ | refine wpAny_of_eq (t := Builtin.notOverATurnedClass _) (a := ()) (by kernel_rfl!) ?_ | refine wpAny_of_eq (t := Builtin.Slots.bestBase _) (a := .type "object") (by kernel_rfl!) ?_ | refine wpAny_of_eq (t := Builtin.Slots.slotNamesOf (.type _)) (a := []) (by kernel_rfl!) ?_ | refine wpAny_of_eq (t := Builtin.Slots.givesDict (.type _)) (a := false) (by kernel_rfl!) ?_ | refine wpAny_of_eq (t := Builtin.Slots.givesWeak (.type _)) (a := false) (by kernel_rfl!) ?_ | refine wpAny_of_eq (t := Builtin.Slots.varSize (.type _)) (a := false) (by kernel_rfl!) ?_ | refine wpAny_of_eq (t := isSubtype (.type _) (.type _)) (a := true) (by kernel_rfl!) ?_ | refine wpAny_of_eq (t := isType (.type _)) (a := true) (by kernel_rfl!) ?_ | refine wpAny_of_eq (t := typeOf (.type _)) (a := .type "type") (by kernel_rfl!) ?_ | refine wpAny_of_eq (t := typeLookup (.type _) _) (a := some (.builtin "dict.__iter__")) (by kernel_rfl!) ?_ | refine wpAny_of_eq (t := typeLookup (.type _) _) (a := none) (by kernel_rfl!) ?_) | with_reducible (first | refine wpAny_pure ?_ | refine wpAny_bind ?_ | refine wpAny_holding ?_ | refine wpAny_standAt ?_ | refine wpAny_point ?_ | refine wpAny_rule ?_ | refine wpAny_letGo ?_ | refine wpAny_tryCatch ?_ | refine wpAny_mkInt' ?_ | refine wpAny_fresh' ?_ | refine wpAny_attempt ?_ | refine wpAny_of_eq (by assumption) ?_) | ((with_reducible refine' wpAny_mkStr' (hx := ?mX) ?_); (case mX => size_fits)) | ((with_reducible refine' m_alloc ?mD ?mf ?_); (case mD => assumption); (case mf => rfl); intro _ _ _) | ((with_reducible (first | apply wpAny_load' | apply wpAny_loadPart')); focus ((first | assumption | (refine' Mem.at (h := _) ?mD 0 _ _ ?me; (case mD => assumption); (case me => rfl)) | (refine' Mem.at (h := _) ?mD 1 _ _ ?me; (case mD => assumption); (case me => rfl)) | (refine' Mem.at (h := _) ?mD 2 _ _ ?me; (case mD => assumption); (case me => rfl)) | (refine' Mem.at (h := _) ?mD 3 _ _ ?me; (case mD => assumption); (case me => rfl)) | (refine' m_old ?mD ?me; (case mD => assumption); (case me => assumption))); done)) | ((with_reducible refine' m_nsGet none ?mh ?mv ?_); (case mh => (first | assumption | (refine' Mem.at (h := _) ?mD 0 _ _ ?me; (case mD => assumption); (case me => rfl)) | (refine' Mem.at (h := _) ?mD 1 _ _ ?me; (case mD => assumption); (case me => rfl)) | (refine' Mem.at (h := _) ?mD 2 _ _ ?me; (case mD => assumption); (case me => rfl)) | (refine' Mem.at (h := _) ?mD 3 _ _ ?me; (case mD => assumption); (case me => rfl)) | (refine' m_old ?mD ?me; (case mD => assumption); (case me => assumption)))); (case mv => kernel_rfl!)) | ((with_reducible apply wpAny_ite_false); focus (first | (simp only [List.any_toArray]; kernel_rfl!) | (simp only [sizeLine_eq]; simp; done) | kernel_rfl! | simp [*]; done)) | ((with_reducible apply wpAny_ite_true); focus (first | (simp only [List.any_toArray]; kernel_rfl!) | (simp only [sizeLine_eq]; simp; done) | kernel_rfl! | simp [*]; done)) | ((with_reducible show wpAny _ _ (collect _) _ _ _); refine m_collect (vs := [_]) (by assumption) (by assumption) ?_ (by simp [sizeLine_eq]); intro _ _) | with_reducible_and_instances refine wpAny_pure ?_ | with_reducible_and_instances refine wpAny_bind ?_) | ((with_reducible show wpAny _ _ (Builtin.Slots.read _ _ _) _ _ _); refine' slots_read (h := _) (K := _) ?mD ?mS ?_; (case mD => assumption); (case mS => (first | assumption | (refine' Mem.at (h := _) ?mD 0 _ _ ?me; (case mD => assumption); (case me => rfl)) | (refine' Mem.at (h := _) ?mD 1 _ _ ?me; (case mD => assumption); (case me => rfl)) | (refine' Mem.at (h := _) ?mD 2 _ _ ?me; (case mD => assumption); (case me => rfl)) | (refine' Mem.at (h := _) ?mD 3 _ _ ?me; (case mD => assumption); (case me => rfl)) | (refine' m_old ?mD ?me; (case mD => assumption); (case me => assumption)))); intro _ _) | ((fail_if_success (first | (with_reducible show wpAny _ _ (Builtin.Slots.read _ _ _) _ _ _) | (with_reducible show wpAny _ _ (nsGet _ _) _ _ _) | (with_reducible show wpAny _ _ (nsSet _ _ _) _ _ _) | (with_reducible show wpAny _ _ (nsDel _ _) _ _ _) | (with_reducible show wpAny _ _ (Builtin.linearize _ _) _ _ _) | (with_reducible show wpAny _ _ (List.anyM _ _) _ _ _) | (with_reducible show wpAny _ _ (Bind.madeBy _) _ _ _) | (with_reducible show wpAny _ _ (typeLookup _ _) _ _ _) | (with_reducible show wpAny _ _ (Sem.tryCatch _ _) _ _ _))); wp_delta)))
  refine m_nsDel (kOwn w.params K [] 1) D6 1 rfl (by kernel_rfl!) (by kernel_rfl!) rfl ?_
  intro h7 D7
  (repeat (first | (first | with_reducible (first | refine wpAny_of_eq (t := Builtin.extendedBase _) (a := .type "object") (by kernel_rfl!) ?_ | refine wpAny_of_eq (t := Bind.madeBy (.type _)) (a := some "object.__new__") (by kernel_rfl!) ?_ | refine wpAny_of_eq (t := Builtin.notOverATurnedClass _) (a := ()) (by kernel_rfl!) ?_ | refine wpAny_of_eq (t := Builtin.Slots.bestBase _) (a := .type "object") (by kernel_rfl!) ?_ | refine wpAny_of_eq (t := Builtin.Slots.slotNamesOf (.type _)) (a := []) (by kernel_rfl!) ?_ | refine wpAny_of_eq (t := Builtin.Slots.givesDict (.type _)) (a := false) (by kernel_rfl!) ?_ | refine wpAny_of_eq (t := Builtin.Slots.givesWeak (.type _)) (a := false) (by kernel_rfl!) ?_ | refine wpAny_of_eq (t := Builtin.Slots.varSize (.type _)) (a := false) (by kernel_rfl!) ?_ | refine wpAny_of_eq (t := isSubtype (.type _) (.type _)) (a := true) (by kernel_rfl!) ?_ | refine wpAny_of_eq (t := isType (.type _)) (a := true) (by kernel_rfl!) ?_ | refine wpAny_of_eq (t := typeOf (.type _)) (a := .type "type") (by kernel_rfl!) ?_ | refine wpAny_of_eq (t := typeLookup (.type _) _) (a := some (.builtin "dict.__iter__")) (by kernel_rfl!) ?_ | refine wpAny_of_eq (t := typeLookup (.type _) _) (a := none) (by kernel_rfl!) ?_) | with_reducible (first | refine wpAny_pure ?_ | refine wpAny_bind ?_ | refine wpAny_holding ?_ | refine wpAny_standAt ?_ | refine wpAny_point ?_ | refine wpAny_rule ?_ | refine wpAny_letGo ?_ | refine wpAny_tryCatch ?_ | refine wpAny_mkInt' ?_ | refine wpAny_fresh' ?_ | refine wpAny_attempt ?_ | refine wpAny_of_eq (by assumption) ?_) | ((with_reducible refine' wpAny_mkStr' (hx := ?mX) ?_); (case mX => size_fits)) | ((with_reducible refine' m_alloc ?mD ?mf ?_); (case mD => assumption); (case mf => rfl); intro _ _ _) | ((with_reducible (first | apply wpAny_load' | apply wpAny_loadPart')); focus ((first | assumption | (refine' Mem.at (h := _) ?mD 0 _ _ ?me; (case mD => assumption); (case me => rfl)) | (refine' Mem.at (h := _) ?mD 1 _ _ ?me; (case mD => assumption); (case me => rfl)) | (refine' Mem.at (h := _) ?mD 2 _ _ ?me; (case mD => assumption); (case me => rfl)) | (refine' Mem.at (h := _) ?mD 3 _ _ ?me; (case mD => assumption); (case me => rfl)) | (refine' m_old ?mD ?me; (case mD => assumption); (case me => assumption))); done)) | ((with_reducible refine' m_nsGet none ?mh ?mv ?_); (case mh => (first | assumption | (refine' Mem.at (h := _) ?mD 0 _ _ ?me; (case mD => assumption); (case me => rfl)) | (refine' Mem.at (h := _) ?mD 1 _ _ ?me; (case mD => assumption); (case me => rfl)) | (refine' Mem.at (h := _) ?mD 2 _ _ ?me; (case mD => assumption); (case me => rfl)) | (refine' Mem.at (h := _) ?mD 3 _ _ ?me; (case mD => assumption); (case me => rfl)) | (refine' m_old ?mD ?me; (case mD => assumption); (case me => assumption)))); (case mv => kernel_rfl!)) | ((with_reducible apply wpAny_ite_false); focus (first | (simp only [List.any_toArray]; kernel_rfl!) | (simp only [sizeLine_eq]; simp; done) | kernel_rfl! | simp [*]; done)) | ((with_reducible apply wpAny_ite_true); focus (first | (simp only [List.any_toArray]; kernel_rfl!) | (simp only [sizeLine_eq]; simp; done) | kernel_rfl! | simp [*]; done)) | ((with_reducible show wpAny _ _ (collect _) _ _ _); refine m_collect (vs := [_]) (by assumption) (by assumption) ?_ (by simp [sizeLine_eq]); intro _ _) | with_reducible_and_instances refine wpAny_pure ?_ | with_reducible_and_instances refine wpAny_bind ?_) | ((with_reducible show wpAny _ _ (Builtin.Slots.read _ _ _) _ _ _); refine' slots_read (h := _) (K := _) ?mD ?mS ?_; (case mD => assumption); (case mS => (first | assumption | (refine' Mem.at (h := _) ?mD 0 _ _ ?me; (case mD => assumption); (case me => rfl)) | (refine' Mem.at (h := _) ?mD 1 _ _ ?me; (case mD => assumption); (case me => rfl)) | (refine' Mem.at (h := _) ?mD 2 _ _ ?me; (case mD => assumption); (case me => rfl)) | (refine' Mem.at (h := _) ?mD 3 _ _ ?me; (case mD => assumption); (case me => rfl)) | (refine' m_old ?mD ?me; (case mD => assumption); (case me => assumption)))); intro _ _) | ((fail_if_success (first | (with_reducible show wpAny _ _ (Builtin.Slots.read _ _ _) _ _ _) | (with_reducible show wpAny _ _ (nsGet _ _) _ _ _) | (with_reducible show wpAny _ _ (nsSet _ _ _) _ _ _) | (with_reducible show wpAny _ _ (nsDel _ _) _ _ _) | (with_reducible show wpAny _ _ (Builtin.linearize _ _) _ _ _) | (with_reducible show wpAny _ _ (List.anyM _ _) _ _ _) | (with_reducible show wpAny _ _ (Bind.madeBy _) _ _ _) | (with_reducible show wpAny _ _ (typeLookup _ _) _ _ _) | (with_reducible show wpAny _ _ (Sem.tryCatch _ _) _ _ _))); wp_delta)))
  refine wpAny_of_eq (a := some (.builtin "type.mro")) (by kernel_rfl!) ?_
  (repeat (first | (first | with_reducible (first | refine wpAny_of_eq (t := Builtin.extendedBase _) (a := .type "object") (by kernel_rfl!) ?_ | refine wpAny_of_eq (t := Bind.madeBy (.type _)) (a := some "object.__new__") (by kernel_rfl!) ?_ | refine wpAny_of_eq (t := Builtin.notOverATurnedClass _) (a := ()) (by kernel_rfl!) ?_ | refine wpAny_of_eq (t := Builtin.Slots.bestBase _) (a := .type "object") (by kernel_rfl!) ?_ | refine wpAny_of_eq (t := Builtin.Slots.slotNamesOf (.type _)) (a := []) (by kernel_rfl!) ?_ | refine wpAny_of_eq (t := Builtin.Slots.givesDict (.type _)) (a := false) (by kernel_rfl!) ?_ | refine wpAny_of_eq (t := Builtin.Slots.givesWeak (.type _)) (a := false) (by kernel_rfl!) ?_ | refine wpAny_of_eq (t := Builtin.Slots.varSize (.type _)) (a := false) (by kernel_rfl!) ?_ | refine wpAny_of_eq (t := isSubtype (.type _) (.type _)) (a := true) (by kernel_rfl!) ?_ | refine wpAny_of_eq (t := isType (.type _)) (a := true) (by kernel_rfl!) ?_ | refine wpAny_of_eq (t := typeOf (.type _)) (a := .type "type") (by kernel_rfl!) ?_ | refine wpAny_of_eq (t := typeLookup (.type _) _) (a := some (.builtin "dict.__iter__")) (by kernel_rfl!) ?_ | refine wpAny_of_eq (t := typeLookup (.type _) _) (a := none) (by kernel_rfl!) ?_) | with_reducible (first | refine wpAny_pure ?_ | refine wpAny_bind ?_ | refine wpAny_holding ?_ | refine wpAny_standAt ?_ | refine wpAny_point ?_ | refine wpAny_rule ?_ | refine wpAny_letGo ?_ | refine wpAny_tryCatch ?_ | refine wpAny_mkInt' ?_ | refine wpAny_fresh' ?_ | refine wpAny_attempt ?_ | refine wpAny_of_eq (by assumption) ?_) | ((with_reducible refine' wpAny_mkStr' (hx := ?mX) ?_); (case mX => size_fits)) | ((with_reducible refine' m_alloc ?mD ?mf ?_); (case mD => assumption); (case mf => rfl); intro _ _ _) | ((with_reducible (first | apply wpAny_load' | apply wpAny_loadPart')); focus ((first | assumption | (refine' Mem.at (h := _) ?mD 0 _ _ ?me; (case mD => assumption); (case me => rfl)) | (refine' Mem.at (h := _) ?mD 1 _ _ ?me; (case mD => assumption); (case me => rfl)) | (refine' Mem.at (h := _) ?mD 2 _ _ ?me; (case mD => assumption); (case me => rfl)) | (refine' Mem.at (h := _) ?mD 3 _ _ ?me; (case mD => assumption); (case me => rfl)) | (refine' m_old ?mD ?me; (case mD => assumption); (case me => assumption))); done)) | ((with_reducible refine' m_nsGet none ?mh ?mv ?_); (case mh => (first | assumption | (refine' Mem.at (h := _) ?mD 0 _ _ ?me; (case mD => assumption); (case me => rfl)) | (refine' Mem.at (h := _) ?mD 1 _ _ ?me; (case mD => assumption); (case me => rfl)) | (refine' Mem.at (h := _) ?mD 2 _ _ ?me; (case mD => assumption); (case me => rfl)) | (refine' Mem.at (h := _) ?mD 3 _ _ ?me; (case mD => assumption); (case me => rfl)) | (refine' m_old ?mD ?me; (case mD => assumption); (case me => assumption)))); (case mv => kernel_rfl!)) | ((with_reducible apply wpAny_ite_false); focus (first | (simp only [List.any_toArray]; kernel_rfl!) | (simp only [sizeLine_eq]; simp; done) | kernel_rfl! | simp [*]; done)) | ((with_reducible apply wpAny_ite_true); focus (first | (simp only [List.any_toArray]; kernel_rfl!) | (simp only [sizeLine_eq]; simp; done) | kernel_rfl! | simp [*]; done)) | ((with_reducible show wpAny _ _ (collect _) _ _ _); refine m_collect (vs := [_]) (by assumption) (by assumption) ?_ (by simp [sizeLine_eq]); intro _ _) | with_reducible_and_instances refine wpAny_pure ?_ | with_reducible_and_instances refine wpAny_bind ?_) | ((with_reducible show wpAny _ _ (Builtin.Slots.read _ _ _) _ _ _); refine' slots_read (h := _) (K := _) ?mD ?mS ?_; (case mD => assumption); (case mS => (first | assumption | (refine' Mem.at (h := _) ?mD 0 _ _ ?me; (case mD => assumption); (case me => rfl)) | (refine' Mem.at (h := _) ?mD 1 _ _ ?me; (case mD => assumption); (case me => rfl)) | (refine' Mem.at (h := _) ?mD 2 _ _ ?me; (case mD => assumption); (case me => rfl)) | (refine' Mem.at (h := _) ?mD 3 _ _ ?me; (case mD => assumption); (case me => rfl)) | (refine' m_old ?mD ?me; (case mD => assumption); (case me => assumption)))); intro _ _) | ((fail_if_success (first | (with_reducible show wpAny _ _ (Builtin.Slots.read _ _ _) _ _ _) | (with_reducible show wpAny _ _ (nsGet _ _) _ _ _) | (with_reducible show wpAny _ _ (nsSet _ _ _) _ _ _) | (with_reducible show wpAny _ _ (nsDel _ _) _ _ _) | (with_reducible show wpAny _ _ (Builtin.linearize _ _) _ _ _) | (with_reducible show wpAny _ _ (List.anyM _ _) _ _ _) | (with_reducible show wpAny _ _ (Bind.madeBy _) _ _ _) | (with_reducible show wpAny _ _ (typeLookup _ _) _ _ _) | (with_reducible show wpAny _ _ (Sem.tryCatch _ _) _ _ _))); wp_delta)))
  refine wpAny_of_eq (t := Builtin.linearize [.type "object"] mroOf) (a := [.type "object"]) (by kernel_rfl!) ?_
  (repeat (first | (first | with_reducible (first | refine wpAny_of_eq (t := Builtin.extendedBase _) (a := .type "object") (by kernel_rfl!) ?_ | refine wpAny_of_eq (t := Bind.madeBy (.type _)) (a := some "object.__new__") (by kernel_rfl!) ?_ | refine wpAny_of_eq (t := Builtin.notOverATurnedClass _) (a := ()) (by kernel_rfl!) ?_ | refine wpAny_of_eq (t := Builtin.Slots.bestBase _) (a := .type "object") (by kernel_rfl!) ?_ | refine wpAny_of_eq (t := Builtin.Slots.slotNamesOf (.type _)) (a := []) (by kernel_rfl!) ?_ | refine wpAny_of_eq (t := Builtin.Slots.givesDict (.type _)) (a := false) (by kernel_rfl!) ?_ | refine wpAny_of_eq (t := Builtin.Slots.givesWeak (.type _)) (a := false) (by kernel_rfl!) ?_ | refine wpAny_of_eq (t := Builtin.Slots.varSize (.type _)) (a := false) (by kernel_rfl!) ?_ | refine wpAny_of_eq (t := isSubtype (.type _) (.type _)) (a := true) (by kernel_rfl!) ?_ | refine wpAny_of_eq (t := isType (.type _)) (a := true) (by kernel_rfl!) ?_ | refine wpAny_of_eq (t := typeOf (.type _)) (a := .type "type") (by kernel_rfl!) ?_ | refine wpAny_of_eq (t := typeLookup (.type _) _) (a := some (.builtin "dict.__iter__")) (by kernel_rfl!) ?_ | refine wpAny_of_eq (t := typeLookup (.type _) _) (a := none) (by kernel_rfl!) ?_) | with_reducible (first | refine wpAny_pure ?_ | refine wpAny_bind ?_ | refine wpAny_holding ?_ | refine wpAny_standAt ?_ | refine wpAny_point ?_ | refine wpAny_rule ?_ | refine wpAny_letGo ?_ | refine wpAny_tryCatch ?_ | refine wpAny_mkInt' ?_ | refine wpAny_fresh' ?_ | refine wpAny_attempt ?_ | refine wpAny_of_eq (by assumption) ?_) | ((with_reducible refine' wpAny_mkStr' (hx := ?mX) ?_); (case mX => size_fits)) | ((with_reducible refine' m_alloc ?mD ?mf ?_); (case mD => assumption); (case mf => rfl); intro _ _ _) | ((with_reducible (first | apply wpAny_load' | apply wpAny_loadPart')); focus ((first | assumption | (refine' Mem.at (h := _) ?mD 0 _ _ ?me; (case mD => assumption); (case me => rfl)) | (refine' Mem.at (h := _) ?mD 1 _ _ ?me; (case mD => assumption); (case me => rfl)) | (refine' Mem.at (h := _) ?mD 2 _ _ ?me; (case mD => assumption); (case me => rfl)) | (refine' Mem.at (h := _) ?mD 3 _ _ ?me; (case mD => assumption); (case me => rfl)) | (refine' m_old ?mD ?me; (case mD => assumption); (case me => assumption))); done)) | ((with_reducible refine' m_nsGet none ?mh ?mv ?_); (case mh => (first | assumption | (refine' Mem.at (h := _) ?mD 0 _ _ ?me; (case mD => assumption); (case me => rfl)) | (refine' Mem.at (h := _) ?mD 1 _ _ ?me; (case mD => assumption); (case me => rfl)) | (refine' Mem.at (h := _) ?mD 2 _ _ ?me; (case mD => assumption); (case me => rfl)) | (refine' Mem.at (h := _) ?mD 3 _ _ ?me; (case mD => assumption); (case me => rfl)) | (refine' m_old ?mD ?me; (case mD => assumption); (case me => assumption)))); (case mv => kernel_rfl!)) | ((with_reducible apply wpAny_ite_false); focus (first | (simp only [List.any_toArray]; kernel_rfl!) | (simp only [sizeLine_eq]; simp; done) | kernel_rfl! | simp [*]; done)) | ((with_reducible apply wpAny_ite_true); focus (first | (simp only [List.any_toArray]; kernel_rfl!) | (simp only [sizeLine_eq]; simp; done) | kernel_rfl! | simp [*]; done)) | ((with_reducible show wpAny _ _ (collect _) _ _ _); refine m_collect (vs := [_]) (by assumption) (by assumption) ?_ (by simp [sizeLine_eq]); intro _ _) | with_reducible_and_instances refine wpAny_pure ?_ | with_reducible_and_instances refine wpAny_bind ?_) | ((with_reducible show wpAny _ _ (Builtin.Slots.read _ _ _) _ _ _); refine' slots_read (h := _) (K := _) ?mD ?mS ?_; (case mD => assumption); (case mS => (first | assumption | (refine' Mem.at (h := _) ?mD 0 _ _ ?me; (case mD => assumption); (case me => rfl)) | (refine' Mem.at (h := _) ?mD 1 _ _ ?me; (case mD => assumption); (case me => rfl)) | (refine' Mem.at (h := _) ?mD 2 _ _ ?me; (case mD => assumption); (case me => rfl)) | (refine' Mem.at (h := _) ?mD 3 _ _ ?me; (case mD => assumption); (case me => rfl)) | (refine' m_old ?mD ?me; (case mD => assumption); (case me => assumption)))); intro _ _) | ((fail_if_success (first | (with_reducible show wpAny _ _ (Builtin.Slots.read _ _ _) _ _ _) | (with_reducible show wpAny _ _ (nsGet _ _) _ _ _) | (with_reducible show wpAny _ _ (nsSet _ _ _) _ _ _) | (with_reducible show wpAny _ _ (nsDel _ _) _ _ _) | (with_reducible show wpAny _ _ (Builtin.linearize _ _) _ _ _) | (with_reducible show wpAny _ _ (List.anyM _ _) _ _ _) | (with_reducible show wpAny _ _ (Bind.madeBy _) _ _ _) | (with_reducible show wpAny _ _ (typeLookup _ _) _ _ _) | (with_reducible show wpAny _ _ (Sem.tryCatch _ _) _ _ _))); wp_delta)))
  rw [show List.filter (fun x => x != Value.ref c) [Value.ref c, Value.type "object"] = [Value.type "object"] from by simp]
  refine wpAny_of_eq (t := List.anyM _ _) (a := false) (by kernel_rfl!) ?_
  (repeat (first | (first | with_reducible (first | refine wpAny_of_eq (t := Builtin.extendedBase _) (a := .type "object") (by kernel_rfl!) ?_ | refine wpAny_of_eq (t := Bind.madeBy (.type _)) (a := some "object.__new__") (by kernel_rfl!) ?_ | refine wpAny_of_eq (t := Builtin.notOverATurnedClass _) (a := ()) (by kernel_rfl!) ?_ | refine wpAny_of_eq (t := Builtin.Slots.bestBase _) (a := .type "object") (by kernel_rfl!) ?_ | refine wpAny_of_eq (t := Builtin.Slots.slotNamesOf (.type _)) (a := []) (by kernel_rfl!) ?_ | refine wpAny_of_eq (t := Builtin.Slots.givesDict (.type _)) (a := false) (by kernel_rfl!) ?_ | refine wpAny_of_eq (t := Builtin.Slots.givesWeak (.type _)) (a := false) (by kernel_rfl!) ?_ | refine wpAny_of_eq (t := Builtin.Slots.varSize (.type _)) (a := false) (by kernel_rfl!) ?_ | refine wpAny_of_eq (t := isSubtype (.type _) (.type _)) (a := true) (by kernel_rfl!) ?_ | refine wpAny_of_eq (t := isType (.type _)) (a := true) (by kernel_rfl!) ?_ | refine wpAny_of_eq (t := typeOf (.type _)) (a := .type "type") (by kernel_rfl!) ?_ | refine wpAny_of_eq (t := typeLookup (.type _) _) (a := some (.builtin "dict.__iter__")) (by kernel_rfl!) ?_ | refine wpAny_of_eq (t := typeLookup (.type _) _) (a := none) (by kernel_rfl!) ?_) | with_reducible (first | refine wpAny_pure ?_ | refine wpAny_bind ?_ | refine wpAny_holding ?_ | refine wpAny_standAt ?_ | refine wpAny_point ?_ | refine wpAny_rule ?_ | refine wpAny_letGo ?_ | refine wpAny_tryCatch ?_ | refine wpAny_mkInt' ?_ | refine wpAny_fresh' ?_ | refine wpAny_attempt ?_ | refine wpAny_of_eq (by assumption) ?_) | ((with_reducible refine' wpAny_mkStr' (hx := ?mX) ?_); (case mX => size_fits)) | ((with_reducible refine' m_alloc ?mD ?mf ?_); (case mD => assumption); (case mf => rfl); intro _ _ _) | ((with_reducible (first | apply wpAny_load' | apply wpAny_loadPart')); focus ((first | assumption | (refine' Mem.at (h := _) ?mD 0 _ _ ?me; (case mD => assumption); (case me => rfl)) | (refine' Mem.at (h := _) ?mD 1 _ _ ?me; (case mD => assumption); (case me => rfl)) | (refine' Mem.at (h := _) ?mD 2 _ _ ?me; (case mD => assumption); (case me => rfl)) | (refine' Mem.at (h := _) ?mD 3 _ _ ?me; (case mD => assumption); (case me => rfl)) | (refine' m_old ?mD ?me; (case mD => assumption); (case me => assumption))); done)) | ((with_reducible refine' m_nsGet none ?mh ?mv ?_); (case mh => (first | assumption | (refine' Mem.at (h := _) ?mD 0 _ _ ?me; (case mD => assumption); (case me => rfl)) | (refine' Mem.at (h := _) ?mD 1 _ _ ?me; (case mD => assumption); (case me => rfl)) | (refine' Mem.at (h := _) ?mD 2 _ _ ?me; (case mD => assumption); (case me => rfl)) | (refine' Mem.at (h := _) ?mD 3 _ _ ?me; (case mD => assumption); (case me => rfl)) | (refine' m_old ?mD ?me; (case mD => assumption); (case me => assumption)))); (case mv => kernel_rfl!)) | ((with_reducible apply wpAny_ite_false); focus (first | (simp only [List.any_toArray]; kernel_rfl!) | (simp only [sizeLine_eq]; simp; done) | kernel_rfl! | simp [*]; done)) | ((with_reducible apply wpAny_ite_true); focus (first | (simp only [List.any_toArray]; kernel_rfl!) | (simp only [sizeLine_eq]; simp; done) | kernel_rfl! | simp [*]; done)) | ((with_reducible show wpAny _ _ (collect _) _ _ _); refine m_collect (vs := [_]) (by assumption) (by assumption) ?_ (by simp [sizeLine_eq]); intro _ _) | with_reducible_and_instances refine wpAny_pure ?_ | with_reducible_and_instances refine wpAny_bind ?_) | ((with_reducible show wpAny _ _ (Builtin.Slots.read _ _ _) _ _ _); refine' slots_read (h := _) (K := _) ?mD ?mS ?_; (case mD => assumption); (case mS => (first | assumption | (refine' Mem.at (h := _) ?mD 0 _ _ ?me; (case mD => assumption); (case me => rfl)) | (refine' Mem.at (h := _) ?mD 1 _ _ ?me; (case mD => assumption); (case me => rfl)) | (refine' Mem.at (h := _) ?mD 2 _ _ ?me; (case mD => assumption); (case me => rfl)) | (refine' Mem.at (h := _) ?mD 3 _ _ ?me; (case mD => assumption); (case me => rfl)) | (refine' m_old ?mD ?me; (case mD => assumption); (case me => assumption)))); intro _ _) | ((fail_if_success (first | (with_reducible show wpAny _ _ (Builtin.Slots.read _ _ _) _ _ _) | (with_reducible show wpAny _ _ (nsGet _ _) _ _ _) | (with_reducible show wpAny _ _ (nsSet _ _ _) _ _ _) | (with_reducible show wpAny _ _ (nsDel _ _) _ _ _) | (with_reducible show wpAny _ _ (Builtin.linearize _ _) _ _ _) | (with_reducible show wpAny _ _ (List.anyM _ _) _ _ _) | (with_reducible show wpAny _ _ (Bind.madeBy _) _ _ _) | (with_reducible show wpAny _ _ (typeLookup _ _) _ _ _) | (with_reducible show wpAny _ _ (Sem.tryCatch _ _) _ _ _))); wp_delta)))
  refine m_upd (kCls nd [.ref c, .type "object"] [] #[some (.ref bT), none, some (.str (Str.ofString "K") tk), some (.str (Str.ofString "cmp_to_key.<locals>.K") K.t3)]) D7 0 rfl (by kernel_rfl!) rfl ?_
  intro h8 D8
  (repeat (first | (first | with_reducible (first | refine wpAny_of_eq (t := Builtin.extendedBase _) (a := .type "object") (by kernel_rfl!) ?_ | refine wpAny_of_eq (t := Bind.madeBy (.type _)) (a := some "object.__new__") (by kernel_rfl!) ?_ | refine wpAny_of_eq (t := Builtin.notOverATurnedClass _) (a := ()) (by kernel_rfl!) ?_ | refine wpAny_of_eq (t := Builtin.Slots.bestBase _) (a := .type "object") (by kernel_rfl!) ?_ | refine wpAny_of_eq (t := Builtin.Slots.slotNamesOf (.type _)) (a := []) (by kernel_rfl!) ?_ | refine wpAny_of_eq (t := Builtin.Slots.givesDict (.type _)) (a := false) (by kernel_rfl!) ?_ | refine wpAny_of_eq (t := Builtin.Slots.givesWeak (.type _)) (a := false) (by kernel_rfl!) ?_ | refine wpAny_of_eq (t := Builtin.Slots.varSize (.type _)) (a := false) (by kernel_rfl!) ?_ | refine wpAny_of_eq (t := isSubtype (.type _) (.type _)) (a := true) (by kernel_rfl!) ?_ | refine wpAny_of_eq (t := isType (.type _)) (a := true) (by kernel_rfl!) ?_ | refine wpAny_of_eq (t := typeOf (.type _)) (a := .type "type") (by kernel_rfl!) ?_ | refine wpAny_of_eq (t := typeLookup (.type _) _) (a := some (.builtin "dict.__iter__")) (by kernel_rfl!) ?_ | refine wpAny_of_eq (t := typeLookup (.type _) _) (a := none) (by kernel_rfl!) ?_) | with_reducible (first | refine wpAny_pure ?_ | refine wpAny_bind ?_ | refine wpAny_holding ?_ | refine wpAny_standAt ?_ | refine wpAny_point ?_ | refine wpAny_rule ?_ | refine wpAny_letGo ?_ | refine wpAny_tryCatch ?_ | refine wpAny_mkInt' ?_ | refine wpAny_fresh' ?_ | refine wpAny_attempt ?_ | refine wpAny_of_eq (by assumption) ?_) | ((with_reducible refine' wpAny_mkStr' (hx := ?mX) ?_); (case mX => size_fits)) | ((with_reducible refine' m_alloc ?mD ?mf ?_); (case mD => assumption); (case mf => rfl); intro _ _ _) | ((with_reducible (first | apply wpAny_load' | apply wpAny_loadPart')); focus ((first | assumption | (refine' Mem.at (h := _) ?mD 0 _ _ ?me; (case mD => assumption); (case me => rfl)) | (refine' Mem.at (h := _) ?mD 1 _ _ ?me; (case mD => assumption); (case me => rfl)) | (refine' Mem.at (h := _) ?mD 2 _ _ ?me; (case mD => assumption); (case me => rfl)) | (refine' Mem.at (h := _) ?mD 3 _ _ ?me; (case mD => assumption); (case me => rfl)) | (refine' m_old ?mD ?me; (case mD => assumption); (case me => assumption))); done)) | ((with_reducible refine' m_nsGet none ?mh ?mv ?_); (case mh => (first | assumption | (refine' Mem.at (h := _) ?mD 0 _ _ ?me; (case mD => assumption); (case me => rfl)) | (refine' Mem.at (h := _) ?mD 1 _ _ ?me; (case mD => assumption); (case me => rfl)) | (refine' Mem.at (h := _) ?mD 2 _ _ ?me; (case mD => assumption); (case me => rfl)) | (refine' Mem.at (h := _) ?mD 3 _ _ ?me; (case mD => assumption); (case me => rfl)) | (refine' m_old ?mD ?me; (case mD => assumption); (case me => assumption)))); (case mv => kernel_rfl!)) | ((with_reducible apply wpAny_ite_false); focus (first | (simp only [List.any_toArray]; kernel_rfl!) | (simp only [sizeLine_eq]; simp; done) | kernel_rfl! | simp [*]; done)) | ((with_reducible apply wpAny_ite_true); focus (first | (simp only [List.any_toArray]; kernel_rfl!) | (simp only [sizeLine_eq]; simp; done) | kernel_rfl! | simp [*]; done)) | ((with_reducible show wpAny _ _ (collect _) _ _ _); refine m_collect (vs := [_]) (by assumption) (by assumption) ?_ (by simp [sizeLine_eq]); intro _ _) | with_reducible_and_instances refine wpAny_pure ?_ | with_reducible_and_instances refine wpAny_bind ?_) | ((with_reducible show wpAny _ _ (Builtin.Slots.read _ _ _) _ _ _); refine' slots_read (h := _) (K := _) ?mD ?mS ?_; (case mD => assumption); (case mS => (first | assumption | (refine' Mem.at (h := _) ?mD 0 _ _ ?me; (case mD => assumption); (case me => rfl)) | (refine' Mem.at (h := _) ?mD 1 _ _ ?me; (case mD => assumption); (case me => rfl)) | (refine' Mem.at (h := _) ?mD 2 _ _ ?me; (case mD => assumption); (case me => rfl)) | (refine' Mem.at (h := _) ?mD 3 _ _ ?me; (case mD => assumption); (case me => rfl)) | (refine' m_old ?mD ?me; (case mD => assumption); (case me => assumption)))); intro _ _) | ((fail_if_success (first | (with_reducible show wpAny _ _ (Builtin.Slots.read _ _ _) _ _ _) | (with_reducible show wpAny _ _ (nsGet _ _) _ _ _) | (with_reducible show wpAny _ _ (nsSet _ _ _) _ _ _) | (with_reducible show wpAny _ _ (nsDel _ _) _ _ _) | (with_reducible show wpAny _ _ (Builtin.linearize _ _) _ _ _) | (with_reducible show wpAny _ _ (List.anyM _ _) _ _ _) | (with_reducible show wpAny _ _ (Bind.madeBy _) _ _ _) | (with_reducible show wpAny _ _ (typeLookup _ _) _ _ _) | (with_reducible show wpAny _ _ (Sem.tryCatch _ _) _ _ _))); wp_delta)))
  refine m_updPart (kCls nd [.ref c, .type "object"] [] #[some (.ref bT), none, some (.str (Str.ofString "K") tk), some (.str (Str.ofString "cmp_to_key.<locals>.K") K.t3), some (.builtin "object.__new__")]) D8 0 rfl (by kernel_rfl!) rfl ?_
  intro h9 D9
  (repeat (first | (first | with_reducible (first | refine wpAny_of_eq (t := Builtin.extendedBase _) (a := .type "object") (by kernel_rfl!) ?_ | refine wpAny_of_eq (t := Bind.madeBy (.type _)) (a := some "object.__new__") (by kernel_rfl!) ?_ | refine wpAny_of_eq (t := Builtin.notOverATurnedClass _) (a := ()) (by kernel_rfl!) ?_ | refine wpAny_of_eq (t := Builtin.Slots.bestBase _) (a := .type "object") (by kernel_rfl!) ?_ | refine wpAny_of_eq (t := Builtin.Slots.slotNamesOf (.type _)) (a := []) (by kernel_rfl!) ?_ | refine wpAny_of_eq (t := Builtin.Slots.givesDict (.type _)) (a := false) (by kernel_rfl!) ?_ | refine wpAny_of_eq (t := Builtin.Slots.givesWeak (.type _)) (a := false) (by kernel_rfl!) ?_ | refine wpAny_of_eq (t := Builtin.Slots.varSize (.type _)) (a := false) (by kernel_rfl!) ?_ | refine wpAny_of_eq (t := isSubtype (.type _) (.type _)) (a := true) (by kernel_rfl!) ?_ | refine wpAny_of_eq (t := isType (.type _)) (a := true) (by kernel_rfl!) ?_ | refine wpAny_of_eq (t := typeOf (.type _)) (a := .type "type") (by kernel_rfl!) ?_ | refine wpAny_of_eq (t := typeLookup (.type _) _) (a := some (.builtin "dict.__iter__")) (by kernel_rfl!) ?_ | refine wpAny_of_eq (t := typeLookup (.type _) _) (a := none) (by kernel_rfl!) ?_) | with_reducible (first | refine wpAny_pure ?_ | refine wpAny_bind ?_ | refine wpAny_holding ?_ | refine wpAny_standAt ?_ | refine wpAny_point ?_ | refine wpAny_rule ?_ | refine wpAny_letGo ?_ | refine wpAny_tryCatch ?_ | refine wpAny_mkInt' ?_ | refine wpAny_fresh' ?_ | refine wpAny_attempt ?_ | refine wpAny_of_eq (by assumption) ?_) | ((with_reducible refine' wpAny_mkStr' (hx := ?mX) ?_); (case mX => size_fits)) | ((with_reducible refine' m_alloc ?mD ?mf ?_); (case mD => assumption); (case mf => rfl); intro _ _ _) | ((with_reducible (first | apply wpAny_load' | apply wpAny_loadPart')); focus ((first | assumption | (refine' Mem.at (h := _) ?mD 0 _ _ ?me; (case mD => assumption); (case me => rfl)) | (refine' Mem.at (h := _) ?mD 1 _ _ ?me; (case mD => assumption); (case me => rfl)) | (refine' Mem.at (h := _) ?mD 2 _ _ ?me; (case mD => assumption); (case me => rfl)) | (refine' Mem.at (h := _) ?mD 3 _ _ ?me; (case mD => assumption); (case me => rfl)) | (refine' m_old ?mD ?me; (case mD => assumption); (case me => assumption))); done)) | ((with_reducible refine' m_nsGet none ?mh ?mv ?_); (case mh => (first | assumption | (refine' Mem.at (h := _) ?mD 0 _ _ ?me; (case mD => assumption); (case me => rfl)) | (refine' Mem.at (h := _) ?mD 1 _ _ ?me; (case mD => assumption); (case me => rfl)) | (refine' Mem.at (h := _) ?mD 2 _ _ ?me; (case mD => assumption); (case me => rfl)) | (refine' Mem.at (h := _) ?mD 3 _ _ ?me; (case mD => assumption); (case me => rfl)) | (refine' m_old ?mD ?me; (case mD => assumption); (case me => assumption)))); (case mv => kernel_rfl!)) | ((with_reducible apply wpAny_ite_false); focus (first | (simp only [List.any_toArray]; kernel_rfl!) | (simp only [sizeLine_eq]; simp; done) | kernel_rfl! | simp [*]; done)) | ((with_reducible apply wpAny_ite_true); focus (first | (simp only [List.any_toArray]; kernel_rfl!) | (simp only [sizeLine_eq]; simp; done) | kernel_rfl! | simp [*]; done)) | ((with_reducible show wpAny _ _ (collect _) _ _ _); refine m_collect (vs := [_]) (by assumption) (by assumption) ?_ (by simp [sizeLine_eq]); intro _ _) | with_reducible_and_instances refine wpAny_pure ?_ | with_reducible_and_instances refine wpAny_bind ?_) | ((with_reducible show wpAny _ _ (Builtin.Slots.read _ _ _) _ _ _); refine' slots_read (h := _) (K := _) ?mD ?mS ?_; (case mD => assumption); (case mS => (first | assumption | (refine' Mem.at (h := _) ?mD 0 _ _ ?me; (case mD => assumption); (case me => rfl)) | (refine' Mem.at (h := _) ?mD 1 _ _ ?me; (case mD => assumption); (case me => rfl)) | (refine' Mem.at (h := _) ?mD 2 _ _ ?me; (case mD => assumption); (case me => rfl)) | (refine' Mem.at (h := _) ?mD 3 _ _ ?me; (case mD => assumption); (case me => rfl)) | (refine' m_old ?mD ?me; (case mD => assumption); (case me => assumption)))); intro _ _) | ((fail_if_success (first | (with_reducible show wpAny _ _ (Builtin.Slots.read _ _ _) _ _ _) | (with_reducible show wpAny _ _ (nsGet _ _) _ _ _) | (with_reducible show wpAny _ _ (nsSet _ _ _) _ _ _) | (with_reducible show wpAny _ _ (nsDel _ _) _ _ _) | (with_reducible show wpAny _ _ (Builtin.linearize _ _) _ _ _) | (with_reducible show wpAny _ _ (List.anyM _ _) _ _ _) | (with_reducible show wpAny _ _ (Bind.madeBy _) _ _ _) | (with_reducible show wpAny _ _ (typeLookup _ _) _ _ _) | (with_reducible show wpAny _ _ (Sem.tryCatch _ _) _ _ _))); wp_delta)))
  refine m_lookupK (D9.at 0 _ _ rfl) rfl rfl rfl (D9.at 1 _ _ rfl) (r := some (.builtin "object.__new__")) (by kernel_rfl!) (by kernel_rfl!) ?_
  (repeat (first | (first | with_reducible (first | refine wpAny_of_eq (t := Builtin.extendedBase _) (a := .type "object") (by kernel_rfl!) ?_ | refine wpAny_of_eq (t := Bind.madeBy (.type _)) (a := some "object.__new__") (by kernel_rfl!) ?_ | refine wpAny_of_eq (t := Builtin.notOverATurnedClass _) (a := ()) (by kernel_rfl!) ?_ | refine wpAny_of_eq (t := Builtin.Slots.bestBase _) (a := .type "object") (by kernel_rfl!) ?_ | refine wpAny_of_eq (t := Builtin.Slots.slotNamesOf (.type _)) (a := []) (by kernel_rfl!) ?_ | refine wpAny_of_eq (t := Builtin.Slots.givesDict (.type _)) (a := false) (by kernel_rfl!) ?_ | refine wpAny_of_eq (t := Builtin.Slots.givesWeak (.type _)) (a := false) (by kernel_rfl!) ?_ | refine wpAny_of_eq (t := Builtin.Slots.varSize (.type _)) (a := false) (by kernel_rfl!) ?_ | refine wpAny_of_eq (t := isSubtype (.type _) (.type _)) (a := true) (by kernel_rfl!) ?_ | refine wpAny_of_eq (t := isType (.type _)) (a := true) (by kernel_rfl!) ?_ | refine wpAny_of_eq (t := typeOf (.type _)) (a := .type "type") (by kernel_rfl!) ?_ | refine wpAny_of_eq (t := typeLookup (.type _) _) (a := some (.builtin "dict.__iter__")) (by kernel_rfl!) ?_ | refine wpAny_of_eq (t := typeLookup (.type _) _) (a := none) (by kernel_rfl!) ?_) | with_reducible (first | refine wpAny_pure ?_ | refine wpAny_bind ?_ | refine wpAny_holding ?_ | refine wpAny_standAt ?_ | refine wpAny_point ?_ | refine wpAny_rule ?_ | refine wpAny_letGo ?_ | refine wpAny_tryCatch ?_ | refine wpAny_mkInt' ?_ | refine wpAny_fresh' ?_ | refine wpAny_attempt ?_ | refine wpAny_of_eq (by assumption) ?_) | ((with_reducible refine' wpAny_mkStr' (hx := ?mX) ?_); (case mX => size_fits)) | ((with_reducible refine' m_alloc ?mD ?mf ?_); (case mD => assumption); (case mf => rfl); intro _ _ _) | ((with_reducible (first | apply wpAny_load' | apply wpAny_loadPart')); focus ((first | assumption | (refine' Mem.at (h := _) ?mD 0 _ _ ?me; (case mD => assumption); (case me => rfl)) | (refine' Mem.at (h := _) ?mD 1 _ _ ?me; (case mD => assumption); (case me => rfl)) | (refine' Mem.at (h := _) ?mD 2 _ _ ?me; (case mD => assumption); (case me => rfl)) | (refine' Mem.at (h := _) ?mD 3 _ _ ?me; (case mD => assumption); (case me => rfl)) | (refine' m_old ?mD ?me; (case mD => assumption); (case me => assumption))); done)) | ((with_reducible refine' m_nsGet none ?mh ?mv ?_); (case mh => (first | assumption | (refine' Mem.at (h := _) ?mD 0 _ _ ?me; (case mD => assumption); (case me => rfl)) | (refine' Mem.at (h := _) ?mD 1 _ _ ?me; (case mD => assumption); (case me => rfl)) | (refine' Mem.at (h := _) ?mD 2 _ _ ?me; (case mD => assumption); (case me => rfl)) | (refine' Mem.at (h := _) ?mD 3 _ _ ?me; (case mD => assumption); (case me => rfl)) | (refine' m_old ?mD ?me; (case mD => assumption); (case me => assumption)))); (case mv => kernel_rfl!)) | ((with_reducible apply wpAny_ite_false); focus (first | (simp only [List.any_toArray]; kernel_rfl!) | (simp only [sizeLine_eq]; simp; done) | kernel_rfl! | simp [*]; done)) | ((with_reducible apply wpAny_ite_true); focus (first | (simp only [List.any_toArray]; kernel_rfl!) | (simp only [sizeLine_eq]; simp; done) | kernel_rfl! | simp [*]; done)) | ((with_reducible show wpAny _ _ (collect _) _ _ _); refine m_collect (vs := [_]) (by assumption) (by assumption) ?_ (by simp [sizeLine_eq]); intro _ _) | with_reducible_and_instances refine wpAny_pure ?_ | with_reducible_and_instances refine wpAny_bind ?_) | ((with_reducible show wpAny _ _ (Builtin.Slots.read _ _ _) _ _ _); refine' slots_read (h := _) (K := _) ?mD ?mS ?_; (case mD => assumption); (case mS => (first | assumption | (refine' Mem.at (h := _) ?mD 0 _ _ ?me; (case mD => assumption); (case me => rfl)) | (refine' Mem.at (h := _) ?mD 1 _ _ ?me; (case mD => assumption); (case me => rfl)) | (refine' Mem.at (h := _) ?mD 2 _ _ ?me; (case mD => assumption); (case me => rfl)) | (refine' Mem.at (h := _) ?mD 3 _ _ ?me; (case mD => assumption); (case me => rfl)) | (refine' m_old ?mD ?me; (case mD => assumption); (case me => assumption)))); intro _ _) | ((fail_if_success (first | (with_reducible show wpAny _ _ (Builtin.Slots.read _ _ _) _ _ _) | (with_reducible show wpAny _ _ (nsGet _ _) _ _ _) | (with_reducible show wpAny _ _ (nsSet _ _ _) _ _ _) | (with_reducible show wpAny _ _ (nsDel _ _) _ _ _) | (with_reducible show wpAny _ _ (Builtin.linearize _ _) _ _ _) | (with_reducible show wpAny _ _ (List.anyM _ _) _ _ _) | (with_reducible show wpAny _ _ (Bind.madeBy _) _ _ _) | (with_reducible show wpAny _ _ (typeLookup _ _) _ _ _) | (with_reducible show wpAny _ _ (Sem.tryCatch _ _) _ _ _))); wp_delta)))
  rename_i md h10 D10
  refine m_nsSet (kOwn w.params K [ent w.params "obj" (t + 1) (.ref md)] 2) D10 2 rfl rfl (by kernel_rfl!) (by kernel_rfl!) rfl ?_
  intro h11 D11
  (repeat (first | (first | with_reducible (first | refine wpAny_of_eq (t := Builtin.extendedBase _) (a := .type "object") (by kernel_rfl!) ?_ | refine wpAny_of_eq (t := Bind.madeBy (.type _)) (a := some "object.__new__") (by kernel_rfl!) ?_ | refine wpAny_of_eq (t := Builtin.notOverATurnedClass _) (a := ()) (by kernel_rfl!) ?_ | refine wpAny_of_eq (t := Builtin.Slots.bestBase _) (a := .type "object") (by kernel_rfl!) ?_ | refine wpAny_of_eq (t := Builtin.Slots.slotNamesOf (.type _)) (a := []) (by kernel_rfl!) ?_ | refine wpAny_of_eq (t := Builtin.Slots.givesDict (.type _)) (a := false) (by kernel_rfl!) ?_ | refine wpAny_of_eq (t := Builtin.Slots.givesWeak (.type _)) (a := false) (by kernel_rfl!) ?_ | refine wpAny_of_eq (t := Builtin.Slots.varSize (.type _)) (a := false) (by kernel_rfl!) ?_ | refine wpAny_of_eq (t := isSubtype (.type _) (.type _)) (a := true) (by kernel_rfl!) ?_ | refine wpAny_of_eq (t := isType (.type _)) (a := true) (by kernel_rfl!) ?_ | refine wpAny_of_eq (t := typeOf (.type _)) (a := .type "type") (by kernel_rfl!) ?_ | refine wpAny_of_eq (t := typeLookup (.type _) _) (a := some (.builtin "dict.__iter__")) (by kernel_rfl!) ?_ | refine wpAny_of_eq (t := typeLookup (.type _) _) (a := none) (by kernel_rfl!) ?_) | with_reducible (first | refine wpAny_pure ?_ | refine wpAny_bind ?_ | refine wpAny_holding ?_ | refine wpAny_standAt ?_ | refine wpAny_point ?_ | refine wpAny_rule ?_ | refine wpAny_letGo ?_ | refine wpAny_tryCatch ?_ | refine wpAny_mkInt' ?_ | refine wpAny_fresh' ?_ | refine wpAny_attempt ?_ | refine wpAny_of_eq (by assumption) ?_) | ((with_reducible refine' wpAny_mkStr' (hx := ?mX) ?_); (case mX => size_fits)) | ((with_reducible refine' m_alloc ?mD ?mf ?_); (case mD => assumption); (case mf => rfl); intro _ _ _) | ((with_reducible (first | apply wpAny_load' | apply wpAny_loadPart')); focus ((first | assumption | (refine' Mem.at (h := _) ?mD 0 _ _ ?me; (case mD => assumption); (case me => rfl)) | (refine' Mem.at (h := _) ?mD 1 _ _ ?me; (case mD => assumption); (case me => rfl)) | (refine' Mem.at (h := _) ?mD 2 _ _ ?me; (case mD => assumption); (case me => rfl)) | (refine' Mem.at (h := _) ?mD 3 _ _ ?me; (case mD => assumption); (case me => rfl)) | (refine' m_old ?mD ?me; (case mD => assumption); (case me => assumption))); done)) | ((with_reducible refine' m_nsGet none ?mh ?mv ?_); (case mh => (first | assumption | (refine' Mem.at (h := _) ?mD 0 _ _ ?me; (case mD => assumption); (case me => rfl)) | (refine' Mem.at (h := _) ?mD 1 _ _ ?me; (case mD => assumption); (case me => rfl)) | (refine' Mem.at (h := _) ?mD 2 _ _ ?me; (case mD => assumption); (case me => rfl)) | (refine' Mem.at (h := _) ?mD 3 _ _ ?me; (case mD => assumption); (case me => rfl)) | (refine' m_old ?mD ?me; (case mD => assumption); (case me => assumption)))); (case mv => kernel_rfl!)) | ((with_reducible apply wpAny_ite_false); focus (first | (simp only [List.any_toArray]; kernel_rfl!) | (simp only [sizeLine_eq]; simp; done) | kernel_rfl! | simp [*]; done)) | ((with_reducible apply wpAny_ite_true); focus (first | (simp only [List.any_toArray]; kernel_rfl!) | (simp only [sizeLine_eq]; simp; done) | kernel_rfl! | simp [*]; done)) | ((with_reducible show wpAny _ _ (collect _) _ _ _); refine m_collect (vs := [_]) (by assumption) (by assumption) ?_ (by simp [sizeLine_eq]); intro _ _) | with_reducible_and_instances refine wpAny_pure ?_ | with_reducible_and_instances refine wpAny_bind ?_) | ((with_reducible show wpAny _ _ (Builtin.Slots.read _ _ _) _ _ _); refine' slots_read (h := _) (K := _) ?mD ?mS ?_; (case mD => assumption); (case mS => (first | assumption | (refine' Mem.at (h := _) ?mD 0 _ _ ?me; (case mD => assumption); (case me => rfl)) | (refine' Mem.at (h := _) ?mD 1 _ _ ?me; (case mD => assumption); (case me => rfl)) | (refine' Mem.at (h := _) ?mD 2 _ _ ?me; (case mD => assumption); (case me => rfl)) | (refine' Mem.at (h := _) ?mD 3 _ _ ?me; (case mD => assumption); (case me => rfl)) | (refine' m_old ?mD ?me; (case mD => assumption); (case me => assumption)))); intro _ _) | ((fail_if_success (first | (with_reducible show wpAny _ _ (Builtin.Slots.read _ _ _) _ _ _) | (with_reducible show wpAny _ _ (nsGet _ _) _ _ _) | (with_reducible show wpAny _ _ (nsSet _ _ _) _ _ _) | (with_reducible show wpAny _ _ (nsDel _ _) _ _ _) | (with_reducible show wpAny _ _ (Builtin.linearize _ _) _ _ _) | (with_reducible show wpAny _ _ (List.anyM _ _) _ _ _) | (with_reducible show wpAny _ _ (Bind.madeBy _) _ _ _) | (with_reducible show wpAny _ _ (typeLookup _ _) _ _ _) | (with_reducible show wpAny _ _ (Sem.tryCatch _ _) _ _ _))); wp_delta)))
  refine m_upd (kCls nd [.ref c, .type "object"] [Str.ofString "obj"] #[some (.ref bT), none, some (.str (Str.ofString "K") tk), some (.str (Str.ofString "cmp_to_key.<locals>.K") K.t3), some (.builtin "object.__new__")]) D11 1 rfl (by kernel_rfl!) rfl ?_
  intro h12 D12
  (repeat (first | (first | with_reducible (first | refine wpAny_of_eq (t := Builtin.extendedBase _) (a := .type "object") (by kernel_rfl!) ?_ | refine wpAny_of_eq (t := Bind.madeBy (.type _)) (a := some "object.__new__") (by kernel_rfl!) ?_ | refine wpAny_of_eq (t := Builtin.notOverATurnedClass _) (a := ()) (by kernel_rfl!) ?_ | refine wpAny_of_eq (t := Builtin.Slots.bestBase _) (a := .type "object") (by kernel_rfl!) ?_ | refine wpAny_of_eq (t := Builtin.Slots.slotNamesOf (.type _)) (a := []) (by kernel_rfl!) ?_ | refine wpAny_of_eq (t := Builtin.Slots.givesDict (.type _)) (a := false) (by kernel_rfl!) ?_ | refine wpAny_of_eq (t := Builtin.Slots.givesWeak (.type _)) (a := false) (by kernel_rfl!) ?_ | refine wpAny_of_eq (t := Builtin.Slots.varSize (.type _)) (a := false) (by kernel_rfl!) ?_ | refine wpAny_of_eq (t := isSubtype (.type _) (.type _)) (a := true) (by kernel_rfl!) ?_ | refine wpAny_of_eq (t := isType (.type _)) (a := true) (by kernel_rfl!) ?_ | refine wpAny_of_eq (t := typeOf (.type _)) (a := .type "type") (by kernel_rfl!) ?_ | refine wpAny_of_eq (t := typeLookup (.type _) _) (a := some (.builtin "dict.__iter__")) (by kernel_rfl!) ?_ | refine wpAny_of_eq (t := typeLookup (.type _) _) (a := none) (by kernel_rfl!) ?_) | with_reducible (first | refine wpAny_pure ?_ | refine wpAny_bind ?_ | refine wpAny_holding ?_ | refine wpAny_standAt ?_ | refine wpAny_point ?_ | refine wpAny_rule ?_ | refine wpAny_letGo ?_ | refine wpAny_tryCatch ?_ | refine wpAny_mkInt' ?_ | refine wpAny_fresh' ?_ | refine wpAny_attempt ?_ | refine wpAny_of_eq (by assumption) ?_) | ((with_reducible refine' wpAny_mkStr' (hx := ?mX) ?_); (case mX => size_fits)) | ((with_reducible refine' m_alloc ?mD ?mf ?_); (case mD => assumption); (case mf => rfl); intro _ _ _) | ((with_reducible (first | apply wpAny_load' | apply wpAny_loadPart')); focus ((first | assumption | (refine' Mem.at (h := _) ?mD 0 _ _ ?me; (case mD => assumption); (case me => rfl)) | (refine' Mem.at (h := _) ?mD 1 _ _ ?me; (case mD => assumption); (case me => rfl)) | (refine' Mem.at (h := _) ?mD 2 _ _ ?me; (case mD => assumption); (case me => rfl)) | (refine' Mem.at (h := _) ?mD 3 _ _ ?me; (case mD => assumption); (case me => rfl)) | (refine' m_old ?mD ?me; (case mD => assumption); (case me => assumption))); done)) | ((with_reducible refine' m_nsGet none ?mh ?mv ?_); (case mh => (first | assumption | (refine' Mem.at (h := _) ?mD 0 _ _ ?me; (case mD => assumption); (case me => rfl)) | (refine' Mem.at (h := _) ?mD 1 _ _ ?me; (case mD => assumption); (case me => rfl)) | (refine' Mem.at (h := _) ?mD 2 _ _ ?me; (case mD => assumption); (case me => rfl)) | (refine' Mem.at (h := _) ?mD 3 _ _ ?me; (case mD => assumption); (case me => rfl)) | (refine' m_old ?mD ?me; (case mD => assumption); (case me => assumption)))); (case mv => kernel_rfl!)) | ((with_reducible apply wpAny_ite_false); focus (first | (simp only [List.any_toArray]; kernel_rfl!) | (simp only [sizeLine_eq]; simp; done) | kernel_rfl! | simp [*]; done)) | ((with_reducible apply wpAny_ite_true); focus (first | (simp only [List.any_toArray]; kernel_rfl!) | (simp only [sizeLine_eq]; simp; done) | kernel_rfl! | simp [*]; done)) | ((with_reducible show wpAny _ _ (collect _) _ _ _); refine m_collect (vs := [_]) (by assumption) (by assumption) ?_ (by simp [sizeLine_eq]); intro _ _) | with_reducible_and_instances refine wpAny_pure ?_ | with_reducible_and_instances refine wpAny_bind ?_) | ((with_reducible show wpAny _ _ (Builtin.Slots.read _ _ _) _ _ _); refine' slots_read (h := _) (K := _) ?mD ?mS ?_; (case mD => assumption); (case mS => (first | assumption | (refine' Mem.at (h := _) ?mD 0 _ _ ?me; (case mD => assumption); (case me => rfl)) | (refine' Mem.at (h := _) ?mD 1 _ _ ?me; (case mD => assumption); (case me => rfl)) | (refine' Mem.at (h := _) ?mD 2 _ _ ?me; (case mD => assumption); (case me => rfl)) | (refine' Mem.at (h := _) ?mD 3 _ _ ?me; (case mD => assumption); (case me => rfl)) | (refine' m_old ?mD ?me; (case mD => assumption); (case me => assumption)))); intro _ _) | ((fail_if_success (first | (with_reducible show wpAny _ _ (Builtin.Slots.read _ _ _) _ _ _) | (with_reducible show wpAny _ _ (nsGet _ _) _ _ _) | (with_reducible show wpAny _ _ (nsSet _ _ _) _ _ _) | (with_reducible show wpAny _ _ (nsDel _ _) _ _ _) | (with_reducible show wpAny _ _ (Builtin.linearize _ _) _ _ _) | (with_reducible show wpAny _ _ (List.anyM _ _) _ _ _) | (with_reducible show wpAny _ _ (Bind.madeBy _) _ _ _) | (with_reducible show wpAny _ _ (typeLookup _ _) _ _ _) | (with_reducible show wpAny _ _ (Sem.tryCatch _ _) _ _ _))); wp_delta)))
  refine m_updPart (kCls nd [.ref c, .type "object"] [Str.ofString "obj"] #[some (.ref bT), none, some (.str (Str.ofString "K") tk), some (.str (Str.ofString "cmp_to_key.<locals>.K") K.t3), some (.builtin "object.__new__"), some (.bool false)]) D12 1 rfl (by kernel_rfl!) rfl ?_
  intro h13 D13
  (repeat (first | (first | with_reducible (first | refine wpAny_of_eq (t := Builtin.extendedBase _) (a := .type "object") (by kernel_rfl!) ?_ | refine wpAny_of_eq (t := Bind.madeBy (.type _)) (a := some "object.__new__") (by kernel_rfl!) ?_ | refine wpAny_of_eq (t := Builtin.notOverATurnedClass _) (a := ()) (by kernel_rfl!) ?_ | refine wpAny_of_eq (t := Builtin.Slots.bestBase _) (a := .type "object") (by kernel_rfl!) ?_ | refine wpAny_of_eq (t := Builtin.Slots.slotNamesOf (.type _)) (a := []) (by kernel_rfl!) ?_ | refine wpAny_of_eq (t := Builtin.Slots.givesDict (.type _)) (a := false) (by kernel_rfl!) ?_ | refine wpAny_of_eq (t := Builtin.Slots.givesWeak (.type _)) (a := false) (by kernel_rfl!) ?_ | refine wpAny_of_eq (t := Builtin.Slots.varSize (.type _)) (a := false) (by kernel_rfl!) ?_ | refine wpAny_of_eq (t := isSubtype (.type _) (.type _)) (a := true) (by kernel_rfl!) ?_ | refine wpAny_of_eq (t := isType (.type _)) (a := true) (by kernel_rfl!) ?_ | refine wpAny_of_eq (t := typeOf (.type _)) (a := .type "type") (by kernel_rfl!) ?_ | refine wpAny_of_eq (t := typeLookup (.type _) _) (a := some (.builtin "dict.__iter__")) (by kernel_rfl!) ?_ | refine wpAny_of_eq (t := typeLookup (.type _) _) (a := none) (by kernel_rfl!) ?_) | with_reducible (first | refine wpAny_pure ?_ | refine wpAny_bind ?_ | refine wpAny_holding ?_ | refine wpAny_standAt ?_ | refine wpAny_point ?_ | refine wpAny_rule ?_ | refine wpAny_letGo ?_ | refine wpAny_tryCatch ?_ | refine wpAny_mkInt' ?_ | refine wpAny_fresh' ?_ | refine wpAny_attempt ?_ | refine wpAny_of_eq (by assumption) ?_) | ((with_reducible refine' wpAny_mkStr' (hx := ?mX) ?_); (case mX => size_fits)) | ((with_reducible refine' m_alloc ?mD ?mf ?_); (case mD => assumption); (case mf => rfl); intro _ _ _) | ((with_reducible (first | apply wpAny_load' | apply wpAny_loadPart')); focus ((first | assumption | (refine' Mem.at (h := _) ?mD 0 _ _ ?me; (case mD => assumption); (case me => rfl)) | (refine' Mem.at (h := _) ?mD 1 _ _ ?me; (case mD => assumption); (case me => rfl)) | (refine' Mem.at (h := _) ?mD 2 _ _ ?me; (case mD => assumption); (case me => rfl)) | (refine' Mem.at (h := _) ?mD 3 _ _ ?me; (case mD => assumption); (case me => rfl)) | (refine' m_old ?mD ?me; (case mD => assumption); (case me => assumption))); done)) | ((with_reducible refine' m_nsGet none ?mh ?mv ?_); (case mh => (first | assumption | (refine' Mem.at (h := _) ?mD 0 _ _ ?me; (case mD => assumption); (case me => rfl)) | (refine' Mem.at (h := _) ?mD 1 _ _ ?me; (case mD => assumption); (case me => rfl)) | (refine' Mem.at (h := _) ?mD 2 _ _ ?me; (case mD => assumption); (case me => rfl)) | (refine' Mem.at (h := _) ?mD 3 _ _ ?me; (case mD => assumption); (case me => rfl)) | (refine' m_old ?mD ?me; (case mD => assumption); (case me => assumption)))); (case mv => kernel_rfl!)) | ((with_reducible apply wpAny_ite_false); focus (first | (simp only [List.any_toArray]; kernel_rfl!) | (simp only [sizeLine_eq]; simp; done) | kernel_rfl! | simp [*]; done)) | ((with_reducible apply wpAny_ite_true); focus (first | (simp only [List.any_toArray]; kernel_rfl!) | (simp only [sizeLine_eq]; simp; done) | kernel_rfl! | simp [*]; done)) | ((with_reducible show wpAny _ _ (collect _) _ _ _); refine m_collect (vs := [_]) (by assumption) (by assumption) ?_ (by simp [sizeLine_eq]); intro _ _) | with_reducible_and_instances refine wpAny_pure ?_ | with_reducible_and_instances refine wpAny_bind ?_) | ((with_reducible show wpAny _ _ (Builtin.Slots.read _ _ _) _ _ _); refine' slots_read (h := _) (K := _) ?mD ?mS ?_; (case mD => assumption); (case mS => (first | assumption | (refine' Mem.at (h := _) ?mD 0 _ _ ?me; (case mD => assumption); (case me => rfl)) | (refine' Mem.at (h := _) ?mD 1 _ _ ?me; (case mD => assumption); (case me => rfl)) | (refine' Mem.at (h := _) ?mD 2 _ _ ?me; (case mD => assumption); (case me => rfl)) | (refine' Mem.at (h := _) ?mD 3 _ _ ?me; (case mD => assumption); (case me => rfl)) | (refine' m_old ?mD ?me; (case mD => assumption); (case me => assumption)))); intro _ _) | ((fail_if_success (first | (with_reducible show wpAny _ _ (Builtin.Slots.read _ _ _) _ _ _) | (with_reducible show wpAny _ _ (nsGet _ _) _ _ _) | (with_reducible show wpAny _ _ (nsSet _ _ _) _ _ _) | (with_reducible show wpAny _ _ (nsDel _ _) _ _ _) | (with_reducible show wpAny _ _ (Builtin.linearize _ _) _ _ _) | (with_reducible show wpAny _ _ (List.anyM _ _) _ _ _) | (with_reducible show wpAny _ _ (Bind.madeBy _) _ _ _) | (with_reducible show wpAny _ _ (typeLookup _ _) _ _ _) | (with_reducible show wpAny _ _ (Sem.tryCatch _ _) _ _ _))); wp_delta)))
  refine m_nsSet (kOwn w.params K [ent w.params "obj" (t + 1) (.ref md), ent w.params "__doc__" (t + 2) .none] 3) D13 2 rfl rfl (by kernel_rfl!) (by kernel_rfl!) rfl ?_
  intro h14 D14
  (repeat (first | (first | with_reducible (first | refine wpAny_of_eq (t := Builtin.extendedBase _) (a := .type "object") (by kernel_rfl!) ?_ | refine wpAny_of_eq (t := Bind.madeBy (.type _)) (a := some "object.__new__") (by kernel_rfl!) ?_ | refine wpAny_of_eq (t := Builtin.notOverATurnedClass _) (a := ()) (by kernel_rfl!) ?_ | refine wpAny_of_eq (t := Builtin.Slots.bestBase _) (a := .type "object") (by kernel_rfl!) ?_ | refine wpAny_of_eq (t := Builtin.Slots.slotNamesOf (.type _)) (a := []) (by kernel_rfl!) ?_ | refine wpAny_of_eq (t := Builtin.Slots.givesDict (.type _)) (a := false) (by kernel_rfl!) ?_ | refine wpAny_of_eq (t := Builtin.Slots.givesWeak (.type _)) (a := false) (by kernel_rfl!) ?_ | refine wpAny_of_eq (t := Builtin.Slots.varSize (.type _)) (a := false) (by kernel_rfl!) ?_ | refine wpAny_of_eq (t := isSubtype (.type _) (.type _)) (a := true) (by kernel_rfl!) ?_ | refine wpAny_of_eq (t := isType (.type _)) (a := true) (by kernel_rfl!) ?_ | refine wpAny_of_eq (t := typeOf (.type _)) (a := .type "type") (by kernel_rfl!) ?_ | refine wpAny_of_eq (t := typeLookup (.type _) _) (a := some (.builtin "dict.__iter__")) (by kernel_rfl!) ?_ | refine wpAny_of_eq (t := typeLookup (.type _) _) (a := none) (by kernel_rfl!) ?_) | with_reducible (first | refine wpAny_pure ?_ | refine wpAny_bind ?_ | refine wpAny_holding ?_ | refine wpAny_standAt ?_ | refine wpAny_point ?_ | refine wpAny_rule ?_ | refine wpAny_letGo ?_ | refine wpAny_tryCatch ?_ | refine wpAny_mkInt' ?_ | refine wpAny_fresh' ?_ | refine wpAny_attempt ?_ | refine wpAny_of_eq (by assumption) ?_) | ((with_reducible refine' wpAny_mkStr' (hx := ?mX) ?_); (case mX => size_fits)) | ((with_reducible refine' m_alloc ?mD ?mf ?_); (case mD => assumption); (case mf => rfl); intro _ _ _) | ((with_reducible (first | apply wpAny_load' | apply wpAny_loadPart')); focus ((first | assumption | (refine' Mem.at (h := _) ?mD 0 _ _ ?me; (case mD => assumption); (case me => rfl)) | (refine' Mem.at (h := _) ?mD 1 _ _ ?me; (case mD => assumption); (case me => rfl)) | (refine' Mem.at (h := _) ?mD 2 _ _ ?me; (case mD => assumption); (case me => rfl)) | (refine' Mem.at (h := _) ?mD 3 _ _ ?me; (case mD => assumption); (case me => rfl)) | (refine' m_old ?mD ?me; (case mD => assumption); (case me => assumption))); done)) | ((with_reducible refine' m_nsGet none ?mh ?mv ?_); (case mh => (first | assumption | (refine' Mem.at (h := _) ?mD 0 _ _ ?me; (case mD => assumption); (case me => rfl)) | (refine' Mem.at (h := _) ?mD 1 _ _ ?me; (case mD => assumption); (case me => rfl)) | (refine' Mem.at (h := _) ?mD 2 _ _ ?me; (case mD => assumption); (case me => rfl)) | (refine' Mem.at (h := _) ?mD 3 _ _ ?me; (case mD => assumption); (case me => rfl)) | (refine' m_old ?mD ?me; (case mD => assumption); (case me => assumption)))); (case mv => kernel_rfl!)) | ((with_reducible apply wpAny_ite_false); focus (first | (simp only [List.any_toArray]; kernel_rfl!) | (simp only [sizeLine_eq]; simp; done) | kernel_rfl! | simp [*]; done)) | ((with_reducible apply wpAny_ite_true); focus (first | (simp only [List.any_toArray]; kernel_rfl!) | (simp only [sizeLine_eq]; simp; done) | kernel_rfl! | simp [*]; done)) | ((with_reducible show wpAny _ _ (collect _) _ _ _); refine m_collect (vs := [_]) (by assumption) (by assumption) ?_ (by simp [sizeLine_eq]); intro _ _) | with_reducible_and_instances refine wpAny_pure ?_ | with_reducible_and_instances refine wpAny_bind ?_) | ((with_reducible show wpAny _ _ (Builtin.Slots.read _ _ _) _ _ _); refine' slots_read (h := _) (K := _) ?mD ?mS ?_; (case mD => assumption); (case mS => (first | assumption | (refine' Mem.at (h := _) ?mD 0 _ _ ?me; (case mD => assumption); (case me => rfl)) | (refine' Mem.at (h := _) ?mD 1 _ _ ?me; (case mD => assumption); (case me => rfl)) | (refine' Mem.at (h := _) ?mD 2 _ _ ?me; (case mD => assumption); (case me => rfl)) | (refine' Mem.at (h := _) ?mD 3 _ _ ?me; (case mD => assumption); (case me => rfl)) | (refine' m_old ?mD ?me; (case mD => assumption); (case me => assumption)))); intro _ _) | ((fail_if_success (first | (with_reducible show wpAny _ _ (Builtin.Slots.read _ _ _) _ _ _) | (with_reducible show wpAny _ _ (nsGet _ _) _ _ _) | (with_reducible show wpAny _ _ (nsSet _ _ _) _ _ _) | (with_reducible show wpAny _ _ (nsDel _ _) _ _ _) | (with_reducible show wpAny _ _ (Builtin.linearize _ _) _ _ _) | (with_reducible show wpAny _ _ (List.anyM _ _) _ _ _) | (with_reducible show wpAny _ _ (Bind.madeBy _) _ _ _) | (with_reducible show wpAny _ _ (typeLookup _ _) _ _ _) | (with_reducible show wpAny _ _ (Sem.tryCatch _ _) _ _ _))); wp_delta)))
  refine m_nsGet (some (.ref K.f4)) (D14.at 2 _ _ rfl) (by kernel_rfl!) ?_
  (repeat (first | (first | with_reducible (first | refine wpAny_of_eq (t := Builtin.extendedBase _) (a := .type "object") (by kernel_rfl!) ?_ | refine wpAny_of_eq (t := Bind.madeBy (.type _)) (a := some "object.__new__") (by kernel_rfl!) ?_ | refine wpAny_of_eq (t := Builtin.notOverATurnedClass _) (a := ()) (by kernel_rfl!) ?_ | refine wpAny_of_eq (t := Builtin.Slots.bestBase _) (a := .type "object") (by kernel_rfl!) ?_ | refine wpAny_of_eq (t := Builtin.Slots.slotNamesOf (.type _)) (a := []) (by kernel_rfl!) ?_ | refine wpAny_of_eq (t := Builtin.Slots.givesDict (.type _)) (a := false) (by kernel_rfl!) ?_ | refine wpAny_of_eq (t := Builtin.Slots.givesWeak (.type _)) (a := false) (by kernel_rfl!) ?_ | refine wpAny_of_eq (t := Builtin.Slots.varSize (.type _)) (a := false) (by kernel_rfl!) ?_ | refine wpAny_of_eq (t := isSubtype (.type _) (.type _)) (a := true) (by kernel_rfl!) ?_ | refine wpAny_of_eq (t := isType (.type _)) (a := true) (by kernel_rfl!) ?_ | refine wpAny_of_eq (t := typeOf (.type _)) (a := .type "type") (by kernel_rfl!) ?_ | refine wpAny_of_eq (t := typeLookup (.type _) _) (a := some (.builtin "dict.__iter__")) (by kernel_rfl!) ?_ | refine wpAny_of_eq (t := typeLookup (.type _) _) (a := none) (by kernel_rfl!) ?_) | with_reducible (first | refine wpAny_pure ?_ | refine wpAny_bind ?_ | refine wpAny_holding ?_ | refine wpAny_standAt ?_ | refine wpAny_point ?_ | refine wpAny_rule ?_ | refine wpAny_letGo ?_ | refine wpAny_tryCatch ?_ | refine wpAny_mkInt' ?_ | refine wpAny_fresh' ?_ | refine wpAny_attempt ?_ | refine wpAny_of_eq (by assumption) ?_) | ((with_reducible refine' wpAny_mkStr' (hx := ?mX) ?_); (case mX => size_fits)) | ((with_reducible refine' m_alloc ?mD ?mf ?_); (case mD => assumption); (case mf => rfl); intro _ _ _) | ((with_reducible (first | apply wpAny_load' | apply wpAny_loadPart')); focus ((first | assumption | (refine' Mem.at (h := _) ?mD 0 _ _ ?me; (case mD => assumption); (case me => rfl)) | (refine' Mem.at (h := _) ?mD 1 _ _ ?me; (case mD => assumption); (case me => rfl)) | (refine' Mem.at (h := _) ?mD 2 _ _ ?me; (case mD => assumption); (case me => rfl)) | (refine' Mem.at (h := _) ?mD 3 _ _ ?me; (case mD => assumption); (case me => rfl)) | (refine' m_old ?mD ?me; (case mD => assumption); (case me => assumption))); done)) | ((with_reducible refine' m_nsGet none ?mh ?mv ?_); (case mh => (first | assumption | (refine' Mem.at (h := _) ?mD 0 _ _ ?me; (case mD => assumption); (case me => rfl)) | (refine' Mem.at (h := _) ?mD 1 _ _ ?me; (case mD => assumption); (case me => rfl)) | (refine' Mem.at (h := _) ?mD 2 _ _ ?me; (case mD => assumption); (case me => rfl)) | (refine' Mem.at (h := _) ?mD 3 _ _ ?me; (case mD => assumption); (case me => rfl)) | (refine' m_old ?mD ?me; (case mD => assumption); (case me => assumption)))); (case mv => kernel_rfl!)) | ((with_reducible apply wpAny_ite_false); focus (first | (simp only [List.any_toArray]; kernel_rfl!) | (simp only [sizeLine_eq]; simp; done) | kernel_rfl! | simp [*]; done)) | ((with_reducible apply wpAny_ite_true); focus (first | (simp only [List.any_toArray]; kernel_rfl!) | (simp only [sizeLine_eq]; simp; done) | kernel_rfl! | simp [*]; done)) | ((with_reducible show wpAny _ _ (collect _) _ _ _); refine m_collect (vs := [_]) (by assumption) (by assumption) ?_ (by simp [sizeLine_eq]); intro _ _) | with_reducible_and_instances refine wpAny_pure ?_ | with_reducible_and_instances refine wpAny_bind ?_) | ((with_reducible show wpAny _ _ (Builtin.Slots.read _ _ _) _ _ _); refine' slots_read (h := _) (K := _) ?mD ?mS ?_; (case mD => assumption); (case mS => (first | assumption | (refine' Mem.at (h := _) ?mD 0 _ _ ?me; (case mD => assumption); (case me => rfl)) | (refine' Mem.at (h := _) ?mD 1 _ _ ?me; (case mD => assumption); (case me => rfl)) | (refine' Mem.at (h := _) ?mD 2 _ _ ?me; (case mD => assumption); (case me => rfl)) | (refine' Mem.at (h := _) ?mD 3 _ _ ?me; (case mD => assumption); (case me => rfl)) | (refine' m_old ?mD ?me; (case mD => assumption); (case me => assumption)))); intro _ _) | ((fail_if_success (first | (with_reducible show wpAny _ _ (Builtin.Slots.read _ _ _) _ _ _) | (with_reducible show wpAny _ _ (nsGet _ _) _ _ _) | (with_reducible show wpAny _ _ (nsSet _ _ _) _ _ _) | (with_reducible show wpAny _ _ (nsDel _ _) _ _ _) | (with_reducible show wpAny _ _ (Builtin.linearize _ _) _ _ _) | (with_reducible show wpAny _ _ (List.anyM _ _) _ _ _) | (with_reducible show wpAny _ _ (Bind.madeBy _) _ _ _) | (with_reducible show wpAny _ _ (typeLookup _ _) _ _ _) | (with_reducible show wpAny _ _ (Sem.tryCatch _ _) _ _ _))); wp_delta)))
  refine m_nsGet (some .none) (D14.at 2 _ _ rfl) (by kernel_rfl!) ?_
  (repeat (first | (first | with_reducible (first | refine wpAny_of_eq (t := Builtin.extendedBase _) (a := .type "object") (by kernel_rfl!) ?_ | refine wpAny_of_eq (t := Bind.madeBy (.type _)) (a := some "object.__new__") (by kernel_rfl!) ?_ | refine wpAny_of_eq (t := Builtin.notOverATurnedClass _) (a := ()) (by kernel_rfl!) ?_ | refine wpAny_of_eq (t := Builtin.Slots.bestBase _) (a := .type "object") (by kernel_rfl!) ?_ | refine wpAny_of_eq (t := Builtin.Slots.slotNamesOf (.type _)) (a := []) (by kernel_rfl!) ?_ | refine wpAny_of_eq (t := Builtin.Slots.givesDict (.type _)) (a := false) (by kernel_rfl!) ?_ | refine wpAny_of_eq (t := Builtin.Slots.givesWeak (.type _)) (a := false) (by kernel_rfl!) ?_ | refine wpAny_of_eq (t := Builtin.Slots.varSize (.type _)) (a := false) (by kernel_rfl!) ?_ | refine wpAny_of_eq (t := isSubtype (.type _) (.type _)) (a := true) (by kernel_rfl!) ?_ | refine wpAny_of_eq (t := isType (.type _)) (a := true) (by kernel_rfl!) ?_ | refine wpAny_of_eq (t := typeOf (.type _)) (a := .type "type") (by kernel_rfl!) ?_ | refine wpAny_of_eq (t := typeLookup (.type _) _) (a := some (.builtin "dict.__iter__")) (by kernel_rfl!) ?_ | refine wpAny_of_eq (t := typeLookup (.type _) _) (a := none) (by kernel_rfl!) ?_) | with_reducible (first | refine wpAny_pure ?_ | refine wpAny_bind ?_ | refine wpAny_holding ?_ | refine wpAny_standAt ?_ | refine wpAny_point ?_ | refine wpAny_rule ?_ | refine wpAny_letGo ?_ | refine wpAny_tryCatch ?_ | refine wpAny_mkInt' ?_ | refine wpAny_fresh' ?_ | refine wpAny_attempt ?_ | refine wpAny_of_eq (by assumption) ?_) | ((with_reducible refine' wpAny_mkStr' (hx := ?mX) ?_); (case mX => size_fits)) | ((with_reducible refine' m_alloc ?mD ?mf ?_); (case mD => assumption); (case mf => rfl); intro _ _ _) | ((with_reducible (first | apply wpAny_load' | apply wpAny_loadPart')); focus ((first | assumption | (refine' Mem.at (h := _) ?mD 0 _ _ ?me; (case mD => assumption); (case me => rfl)) | (refine' Mem.at (h := _) ?mD 1 _ _ ?me; (case mD => assumption); (case me => rfl)) | (refine' Mem.at (h := _) ?mD 2 _ _ ?me; (case mD => assumption); (case me => rfl)) | (refine' Mem.at (h := _) ?mD 3 _ _ ?me; (case mD => assumption); (case me => rfl)) | (refine' m_old ?mD ?me; (case mD => assumption); (case me => assumption))); done)) | ((with_reducible refine' m_nsGet none ?mh ?mv ?_); (case mh => (first | assumption | (refine' Mem.at (h := _) ?mD 0 _ _ ?me; (case mD => assumption); (case me => rfl)) | (refine' Mem.at (h := _) ?mD 1 _ _ ?me; (case mD => assumption); (case me => rfl)) | (refine' Mem.at (h := _) ?mD 2 _ _ ?me; (case mD => assumption); (case me => rfl)) | (refine' Mem.at (h := _) ?mD 3 _ _ ?me; (case mD => assumption); (case me => rfl)) | (refine' m_old ?mD ?me; (case mD => assumption); (case me => assumption)))); (case mv => kernel_rfl!)) | ((with_reducible apply wpAny_ite_false); focus (first | (simp only [List.any_toArray]; kernel_rfl!) | (simp only [sizeLine_eq]; simp; done) | kernel_rfl! | simp [*]; done)) | ((with_reducible apply wpAny_ite_true); focus (first | (simp only [List.any_toArray]; kernel_rfl!) | (simp only [sizeLine_eq]; simp; done) | kernel_rfl! | simp [*]; done)) | ((with_reducible show wpAny _ _ (collect _) _ _ _); refine m_collect (vs := [_]) (by assumption) (by assumption) ?_ (by simp [sizeLine_eq]); intro _ _) | with_reducible_and_instances refine wpAny_pure ?_ | with_reducible_and_instances refine wpAny_bind ?_) | ((with_reducible show wpAny _ _ (Builtin.Slots.read _ _ _) _ _ _); refine' slots_read (h := _) (K := _) ?mD ?mS ?_; (case mD => assumption); (case mS => (first | assumption | (refine' Mem.at (h := _) ?mD 0 _ _ ?me; (case mD => assumption); (case me => rfl)) | (refine' Mem.at (h := _) ?mD 1 _ _ ?me; (case mD => assumption); (case me => rfl)) | (refine' Mem.at (h := _) ?mD 2 _ _ ?me; (case mD => assumption); (case me => rfl)) | (refine' Mem.at (h := _) ?mD 3 _ _ ?me; (case mD => assumption); (case me => rfl)) | (refine' m_old ?mD ?me; (case mD => assumption); (case me => assumption)))); intro _ _) | ((fail_if_success (first | (with_reducible show wpAny _ _ (Builtin.Slots.read _ _ _) _ _ _) | (with_reducible show wpAny _ _ (nsGet _ _) _ _ _) | (with_reducible show wpAny _ _ (nsSet _ _ _) _ _ _) | (with_reducible show wpAny _ _ (nsDel _ _) _ _ _) | (with_reducible show wpAny _ _ (Builtin.linearize _ _) _ _ _) | (with_reducible show wpAny _ _ (List.anyM _ _) _ _ _) | (with_reducible show wpAny _ _ (Bind.madeBy _) _ _ _) | (with_reducible show wpAny _ _ (typeLookup _ _) _ _ _) | (with_reducible show wpAny _ _ (Sem.tryCatch _ _) _ _ _))); wp_delta)))
  refine wpAny_tryCatch ?_
  (repeat (first | with_reducible (first | refine wpAny_of_eq (t := Builtin.extendedBase _) (a := .type "object") (by kernel_rfl!) ?_ | refine wpAny_of_eq (t := Bind.madeBy (.type _)) (a := some "object.__new__") (by kernel_rfl!) ?_ | refine wpAny_of_eq (t := Builtin.notOverATurnedClass _) (a := ()) (by kernel_rfl!) ?_ | refine wpAny_of_eq (t := Builtin.Slots.bestBase _) (a := .type "object") (by kernel_rfl!) ?_ | refine wpAny_of_eq (t := Builtin.Slots.slotNamesOf (.type _)) (a := []) (by kernel_rfl!) ?_ | refine wpAny_of_eq (t := Builtin.Slots.givesDict (.type _)) (a := false) (by kernel_rfl!) ?_ | refine wpAny_of_eq (t := Builtin.Slots.givesWeak (.type _)) (a := false) (by kernel_rfl!) ?_ | refine wpAny_of_eq (t := Builtin.Slots.varSize (.type _)) (a := false) (by kernel_rfl!) ?_ | refine wpAny_of_eq (t := isSubtype (.type _) (.type _)) (a := true) (by kernel_rfl!) ?_ | refine wpAny_of_eq (t := isType (.type _)) (a := true) (by kernel_rfl!) ?_ | refine wpAny_of_eq (t := typeOf (.type _)) (a := .type "type") (by kernel_rfl!) ?_ | refine wpAny_of_eq (t := typeLookup (.type _) _) (a := some (.builtin "dict.__iter__")) (by kernel_rfl!) ?_ | refine wpAny_of_eq (t := typeLookup (.type _) _) (a := none) (by kernel_rfl!) ?_) | with_reducible (first | refine wpAny_pure ?_ | refine wpAny_bind ?_ | refine wpAny_holding ?_ | refine wpAny_standAt ?_ | refine wpAny_point ?_ | refine wpAny_rule ?_ | refine wpAny_letGo ?_ | refine wpAny_tryCatch ?_ | refine wpAny_mkInt' ?_ | refine wpAny_fresh' ?_ | refine wpAny_attempt ?_ | refine wpAny_of_eq (by assumption) ?_) | ((with_reducible show wpAny _ _ (Builtin.Slots.read _ _ _) _ _ _); refine' slots_read (h := _) (K := _) ?mD ?mS ?_; (case mD => assumption); (case mS => (first | assumption | (refine' Mem.at (h := _) ?mD 0 _ _ ?me; (case mD => assumption); (case me => rfl)) | (refine' Mem.at (h := _) ?mD 1 _ _ ?me; (case mD => assumption); (case me => rfl)) | (refine' Mem.at (h := _) ?mD 2 _ _ ?me; (case mD => assumption); (case me => rfl)) | (refine' Mem.at (h := _) ?mD 3 _ _ ?me; (case mD => assumption); (case me => rfl)) | (refine' m_old ?mD ?me; (case mD => assumption); (case me => assumption)))); intro _ _) | ((with_reducible refine' wpAny_mkStr' (hx := ?mX) ?_); (case mX => size_fits)) | ((with_reducible refine' m_alloc ?mD ?mf ?_); (case mD => assumption); (case mf => rfl); intro _ _ _) | ((with_reducible (first | apply wpAny_load' | apply wpAny_loadPart')); focus ((first | assumption | (refine' Mem.at (h := _) ?mD 0 _ _ ?me; (case mD => assumption); (case me => rfl)) | (refine' Mem.at (h := _) ?mD 1 _ _ ?me; (case mD => assumption); (case me => rfl)) | (refine' Mem.at (h := _) ?mD 2 _ _ ?me; (case mD => assumption); (case me => rfl)) | (refine' Mem.at (h := _) ?mD 3 _ _ ?me; (case mD => assumption); (case me => rfl)) | (refine' m_old ?mD ?me; (case mD => assumption); (case me => assumption))); done)) | ((with_reducible refine' m_nsGet none ?mh ?mv ?_); (case mh => (first | assumption | (refine' Mem.at (h := _) ?mD 0 _ _ ?me; (case mD => assumption); (case me => rfl)) | (refine' Mem.at (h := _) ?mD 1 _ _ ?me; (case mD => assumption); (case me => rfl)) | (refine' Mem.at (h := _) ?mD 2 _ _ ?me; (case mD => assumption); (case me => rfl)) | (refine' Mem.at (h := _) ?mD 3 _ _ ?me; (case mD => assumption); (case me => rfl)) | (refine' m_old ?mD ?me; (case mD => assumption); (case me => assumption)))); (case mv => kernel_rfl!)) | ((with_reducible apply wpAny_ite_false); focus (first | (simp only [List.any_toArray]; kernel_rfl!) | (simp only [sizeLine_eq]; simp; done) | kernel_rfl! | simp [*]; done)) | ((with_reducible apply wpAny_ite_true); focus (first | (simp only [List.any_toArray]; kernel_rfl!) | (simp only [sizeLine_eq]; simp; done) | kernel_rfl! | simp [*]; done)) | ((with_reducible show wpAny _ _ (collect _) _ _ _); refine m_collect (vs := [_]) (by assumption) (by assumption) ?_ (by simp [sizeLine_eq]); intro _ _) | ((fail_if_success (first | (with_reducible show wpAny _ _ (Builtin.Slots.read _ _ _) _ _ _) | (with_reducible show wpAny _ _ (nsGet _ _) _ _ _) | (with_reducible show wpAny _ _ (nsSet _ _ _) _ _ _) | (with_reducible show wpAny _ _ (nsDel _ _) _ _ _) | (with_reducible show wpAny _ _ (Builtin.linearize _ _) _ _ _) | (with_reducible show wpAny _ _ (List.anyM _ _) _ _ _) | (with_reducible show wpAny _ _ (Bind.madeBy _) _ _ _) | (with_reducible show wpAny _ _ (typeLookup _ _) _ _ _) | (with_reducible show wpAny _ _ (Sem.tryCatch _ _) _ _ _) | (with_reducible show wpAny _ _ (forIn _ _ _) _ _ _) | (with_reducible show wpAny _ _ (specialOf _ _) _ _ _))); wp_delta) | with_reducible_and_instances refine wpAny_pure ?_ | with_reducible_and_instances refine wpAny_bind ?_))
  refine loop_arr (kOwnL w.params K [ent w.params "obj" (t + 1) (.ref md), ent w.params "__doc__" (t + 2) .none]) rfl ?_ ?_
  · intro e he Q' hq'
    obtain ⟨n, tt, v, rfl⟩ := kOwnL_ent (by intro e he; simp only [List.mem_cons, List.not_mem_nil, or_false] at he; rcases he with rfl | rfl <;> exact ⟨_, _, _, rfl⟩) he
    refine wpAny_bind (wpAny_of_eq (a := some (Str.ofString n)) rfl ?_)
    exact wpAny_ite_false rfl (wpAny_pure hq')
  (repeat (first | with_reducible (first | refine wpAny_of_eq (t := Builtin.extendedBase _) (a := .type "object") (by kernel_rfl!) ?_ | refine wpAny_of_eq (t := Bind.madeBy (.type _)) (a := some "object.__new__") (by kernel_rfl!) ?_ | refine wpAny_of_eq (t := Builtin.notOverATurnedClass _) (a := ()) (by kernel_rfl!) ?_ | refine wpAny_of_eq (t := Builtin.Slots.bestBase _) (a := .type "object") (by kernel_rfl!) ?_ | refine wpAny_of_eq (t := Builtin.Slots.slotNamesOf (.type _)) (a := []) (by kernel_rfl!) ?_ | refine wpAny_of_eq (t := Builtin.Slots.givesDict (.type _)) (a := false) (by kernel_rfl!) ?_ | refine wpAny_of_eq (t := Builtin.Slots.givesWeak (.type _)) (a := false) (by kernel_rfl!) ?_ | refine wpAny_of_eq (t := Builtin.Slots.varSize (.type _)) (a := false) (by kernel_rfl!) ?_ | refine wpAny_of_eq (t := isSubtype (.type _) (.type _)) (a := true) (by kernel_rfl!) ?_ | refine wpAny_of_eq (t := isType (.type _)) (a := true) (by kernel_rfl!) ?_ | refine wpAny_of_eq (t := typeOf (.type _)) (a := .type "type") (by kernel_rfl!) ?_ | refine wpAny_of_eq (t := typeLookup (.type _) _) (a := some (.builtin "dict.__iter__")) (by kernel_rfl!) ?_ | refine wpAny_of_eq (t := typeLookup (.type _) _) (a := none) (by kernel_rfl!) ?_) | with_reducible (first | refine wpAny_pure ?_ | refine wpAny_bind ?_ | refine wpAny_holding ?_ | refine wpAny_standAt ?_ | refine wpAny_point ?_ | refine wpAny_rule ?_ | refine wpAny_letGo ?_ | refine wpAny_tryCatch ?_ | refine wpAny_mkInt' ?_ | refine wpAny_fresh' ?_ | refine wpAny_attempt ?_ | refine wpAny_of_eq (by assumption) ?_) | ((with_reducible show wpAny _ _ (Builtin.Slots.read _ _ _) _ _ _); refine' slots_read (h := _) (K := _) ?mD ?mS ?_; (case mD => assumption); (case mS => (first | assumption | (refine' Mem.at (h := _) ?mD 0 _ _ ?me; (case mD => assumption); (case me => rfl)) | (refine' Mem.at (h := _) ?mD 1 _ _ ?me; (case mD => assumption); (case me => rfl)) | (refine' Mem.at (h := _) ?mD 2 _ _ ?me; (case mD => assumption); (case me => rfl)) | (refine' Mem.at (h := _) ?mD 3 _ _ ?me; (case mD => assumption); (case me => rfl)) | (refine' m_old ?mD ?me; (case mD => assumption); (case me => assumption)))); intro _ _) | ((with_reducible refine' wpAny_mkStr' (hx := ?mX) ?_); (case mX => size_fits)) | ((with_reducible refine' m_alloc ?mD ?mf ?_); (case mD => assumption); (case mf => rfl); intro _ _ _) | ((with_reducible (first | apply wpAny_load' | apply wpAny_loadPart')); focus ((first | assumption | (refine' Mem.at (h := _) ?mD 0 _ _ ?me; (case mD => assumption); (case me => rfl)) | (refine' Mem.at (h := _) ?mD 1 _ _ ?me; (case mD => assumption); (case me => rfl)) | (refine' Mem.at (h := _) ?mD 2 _ _ ?me; (case mD => assumption); (case me => rfl)) | (refine' Mem.at (h := _) ?mD 3 _ _ ?me; (case mD => assumption); (case me => rfl)) | (refine' m_old ?mD ?me; (case mD => assumption); (case me => assumption))); done)) | ((with_reducible refine' m_nsGet none ?mh ?mv ?_); (case mh => (first | assumption | (refine' Mem.at (h := _) ?mD 0 _ _ ?me; (case mD => assumption); (case me => rfl)) | (refine' Mem.at (h := _) ?mD 1 _ _ ?me; (case mD => assumption); (case me => rfl)) | (refine' Mem.at (h := _) ?mD 2 _ _ ?me; (case mD => assumption); (case me => rfl)) | (refine' Mem.at (h := _) ?mD 3 _ _ ?me; (case mD => assumption); (case me => rfl)) | (refine' m_old ?mD ?me; (case mD => assumption); (case me => assumption)))); (case mv => kernel_rfl!)) | ((with_reducible apply wpAny_ite_false); focus (first | (simp only [List.any_toArray]; kernel_rfl!) | (simp only [sizeLine_eq]; simp; done) | kernel_rfl! | simp [*]; done)) | ((with_reducible apply wpAny_ite_true); focus (first | (simp only [List.any_toArray]; kernel_rfl!) | (simp only [sizeLine_eq]; simp; done) | kernel_rfl! | simp [*]; done)) | ((with_reducible show wpAny _ _ (collect _) _ _ _); refine m_collect (vs := [_]) (by assumption) (by assumption) ?_ (by simp [sizeLine_eq]); intro _ _) | ((fail_if_success (first | (with_reducible show wpAny _ _ (Builtin.Slots.read _ _ _) _ _ _) | (with_reducible show wpAny _ _ (nsGet _ _) _ _ _) | (with_reducible show wpAny _ _ (nsSet _ _ _) _ _ _) | (with_reducible show wpAny _ _ (nsDel _ _) _ _ _) | (with_reducible show wpAny _ _ (Builtin.linearize _ _) _ _ _) | (with_reducible show wpAny _ _ (List.anyM _ _) _ _ _) | (with_reducible show wpAny _ _ (Bind.madeBy _) _ _ _) | (with_reducible show wpAny _ _ (typeLookup _ _) _ _ _) | (with_reducible show wpAny _ _ (Sem.tryCatch _ _) _ _ _) | (with_reducible show wpAny _ _ (forIn _ _ _) _ _ _) | (with_reducible show wpAny _ _ (specialOf _ _) _ _ _))); wp_delta) | with_reducible_and_instances refine wpAny_pure ?_ | with_reducible_and_instances refine wpAny_bind ?_))
  refine loop_arr (kOwnL w.params K [ent w.params "obj" (t + 1) (.ref md), ent w.params "__doc__" (t + 2) .none]) rfl ?_ ?_
  · intro e he Q' hq'
    have hf14 : ∀ f ∈ [K.f1, K.f2, K.f3, K.f4, K.f5, K.f6], ∃ o, h14.get? f = some o ∧ o.cls = .type "function" := fun f hf => by obtain ⟨o, ho, hc⟩ := hfs f hf; exact ⟨o, m_old D14 ho, hc⟩
    simp only [List.forall_mem_cons, List.not_mem_nil] at hf14
    obtain ⟨hf1, hf2, hf3, hf4, hf5, hf6, -⟩ := hf14
    have hst14 : ∃ o, h14.get? K.st = some o ∧ o.cls = .type "tuple" := by obtain ⟨o, ho, hc⟩ := hst; exact ⟨o, m_old D14 ho, hc⟩
    have l1 : typeLookup (.type "function") (Str.ofString "__set_name__") = pure none := by kernel_rfl
    have l2 : typeLookup (.type "tuple") (Str.ofString "__set_name__") = pure none := by kernel_rfl
    have l3 : typeLookup (.type "list") (Str.ofString "__set_name__") = pure none := by kernel_rfl
    have l4 : typeLookup (.type "str") (Str.ofString "__set_name__") = pure none := by kernel_rfl
    have l5 : typeLookup (.type "int") (Str.ofString "__set_name__") = pure none := by kernel_rfl
    have l6 : typeLookup (.type "NoneType") (Str.ofString "__set_name__") = pure none := by kernel_rfl
    have l7 : typeLookup (.type "member_descriptor") (Str.ofString "__set_name__") = pure none := by kernel_rfl
    simp only [kOwnL, List.cons_append, List.nil_append, List.mem_cons, List.not_mem_nil, or_false] at he
    rcases he with rfl | rfl | rfl | rfl | rfl | rfl | rfl | rfl | rfl | rfl | rfl | rfl | rfl <;> refine wpAny_ite_false (by kernel_rfl!) (wpAny_bind ?_)
    · exact wpAny_specialOf (T := "str") rfl l4 (wpAny_pure hq')
    · exact wpAny_specialOf (T := "int") rfl l5 (wpAny_pure hq')
    · exact wpAny_specialOf (T := "list") ⟨_, m_old D14 hsl, rfl⟩ l3 (wpAny_pure hq')
    · exact wpAny_specialOf (T := "function") hf1 l1 (wpAny_pure hq')
    · exact wpAny_specialOf (T := "function") hf2 l1 (wpAny_pure hq')
    · exact wpAny_specialOf (T := "function") hf3 l1 (wpAny_pure hq')
    · exact wpAny_specialOf (T := "function") hf4 l1 (wpAny_pure hq')
    · exact wpAny_specialOf (T := "function") hf5 l1 (wpAny_pure hq')
    · exact wpAny_specialOf (T := "function") hf6 l1 (wpAny_pure hq')
    · exact wpAny_specialOf (T := "NoneType") rfl l6 (wpAny_pure hq')
    · exact wpAny_specialOf (T := "tuple") hst14 l2 (wpAny_pure hq')
    · exact wpAny_specialOf (T := "member_descriptor") ⟨_, D14.at 0 _ _ rfl, rfl⟩ l7 (wpAny_pure hq')
    · exact wpAny_specialOf (T := "NoneType") rfl l6 (wpAny_pure hq')
  refine wpAny_bind ?_
  refine any_weak (A' := Big) hh (Nat.le_trans hd (by decide)) (fun l hl => nomatch hl) (fun l hl => nomatch hl) (Nat.le_trans hu (by decide)) ?_
  refine sup_call (D14.at 1 _ _ rfl) fun so h15 t15 D15 => ?_
  refine wpAny_bind (wpAny_holding ?_)
  have X15 : (_root_.Mine.hd.heap_1_1 w.params).In h15 := X.keeps fun b o e => m_old D15 (m_old D14 e)
  refine sup_getattr (D15.at 0 _ _ rfl) (m_old D15 (D14.at 1 _ _ rfl)) X15 hh hd hu fun b h16 t16 D16 => ?_
  refine wpAny_bind ?_
  refine any_weak (A' := Big) hh (Nat.le_trans hd (by decide)) (fun l hl => nomatch hl) (fun l hl => nomatch hl) (Nat.le_trans hu (by decide)) ?_
  show wpAny _ _ (call (.ref b) []) _ _ _
  refine init_call (D16.at 0 _ _ rfl) (m_old D16 (m_old D15 (D14.at 1 _ _ rfl))) (X15.keeps (m_stays D16)) fun v h17 t17 k17 => ?_
  refine wpAny_pure (wpAny_pure ?_)
  exact hR c nd md h14 h17 t17 D14 fun b o e => k17 _ _ (m_old D16 (m_old D15 e))
end
theorem fl18 : True := by w_top off; first | walk1 | trivial
section
open PySem PySem.W PyProof.Rows PySem.Calls PySem.Spec PySem.SeqAt
open PySem.W.X (Mem)
set_option maxHeartbeats 4000000
variable {w : World} {prog : Program} {A : Around} {E : Value → Shared → Prop}
theorem tt_made : Bind.madeBy (.type "type") = pure (some "type.__new__") := by kernel_rfl
theorem tt_mro : mroOf (.type "type") = pure [.type "type", .type "object"] := by rw [mroOf_type]; kernel_rfl
theorem tt_can : ((Manifest.find? "type").bind (·.mro.findSome? fun t => (Manifest.find? t).bind fun b => if b.noNew then some true else if b.attrs.any (·.1 == "__new__") then some false else none)).getD false = false := by decide +kernel
theorem tt_entry_new : entryFor table "type.__new__" = some Builtin.«type.__new__» := entryFor_of_tree (by kernel_rfl)
theorem tt_entry_init : entryFor table "type.__init__" = some Builtin.«type.__init__» := entryFor_of_tree (by kernel_rfl)
theorem tt_plain_new : plainId "type.__new__" = true := by decide +kernel
theorem tt_plain_init : plainId "type.__init__" = true := by decide +kernel
theorem tt_newCall (a b c : Value) : checkBuiltinCall "type.__new__" ⟨[.type "type", a, b, c], []⟩ = pure () := by kernel_rfl
theorem tt_typeCall (s : Str) (t : Tok) (b c : Value) : checkTypeCall "type" ⟨[.str s t, b, c], []⟩ = pure () := by kernel_rfl
theorem tt_init : Slot "type" "__init__" "type.__init__" := .of (owner := "type") (n := "__init__") (by rw [typeLookup_type, builtinLookup_eq_fast]; kernel_rfl) (by decide +kernel) (by decide +kernel) (by decide +kernel)
  (by first | exact .inl (by decide +kernel) | exact .inr (by decide +kernel)) (by rw [isSubtype_type]; kernel_rfl)
theorem tt_initArgs (o a b c : Value) : argsOk "type.__init__" ⟨[o, a, b, c], []⟩ := by unfold argsOk; kernel_rfl
theorem m_typecall {s : Shared} {n : Str} {tk : Tok} {b ns : Value} {Q : Value → Shared → Prop}
    (hnew : wpAny (model prog w) A.in1.in1 (Builtin.«type.__new__» ⟨[.type "type", .str n tk, b, ns], []⟩) (fun fin s' => ∃ c o, fin = .done (.ret (.ref c)) ∧ s'.heap.get? c = some o ∧ o.cls = .type "type" ∧ Q (.ref c) s') E s) :
    wpAny (model prog w) A (call (.type "type") [.str n tk, b, ns]) Q E s := by
  refine wpAny_call (codeAny_of_tree ?_)
  show wpAny _ _ (callAny (.type "type") _) _ _ _
  refine wpAny_pure ⟨Code.quiet_builtin _ (by decide +kernel), codeAny_builtin F.entry_type_call ?_⟩
  rw [Around.under_plain (weight_type_call_type "type" _ []) rfl]
  have h1 := tt_made
  have h2 := tt_can
  have h3 := tt_mro
  have h4 := tt_typeCall n tk b ns
  have hT : (Value.type "type" == Value.type "type") = true := by rfl
  repeat (any_goals (first | assumption | wp_step))
  refine codeAny_of_tree ?_
  show wpAny _ A.in1.in1 (do checkBuiltinCall "type.__new__" ⟨[.type "type", .str n tk, b, ns], []⟩; again (.builtin "type.__new__" ⟨[.type "type", .str n tk, b, ns], []⟩)) _ _ s
  refine wpAny_bind (wpAny_of_eq (tt_newCall _ _ _) (wpAny_pure ⟨plainId_quiet tt_plain_new _, codeAny_builtin tt_entry_new ?_⟩))
  rw [Around.under_plainId tt_plain_new _]
  refine wpAny_mono hnew (fun fin s' hh => ?_) (fun _ _ z => z)
  obtain ⟨c, o, rfl, ho, hcl, hq⟩ := hh
  have hT : s'.TypeIs (.ref c) "type" := ⟨o, ho, hcl⟩
  have hli := tt_init.lookup
  have hbi := tt_init.bind (.ref c)
  have hsub : isSubtype (.type "type") (.type "type") = pure true := by rw [isSubtype_type]; kernel_rfl
  show wpAny _ _ _ _ _ _
  repeat (any_goals (first | assumption | wp_step))
  refine codeAny_call_builtin tt_init.plain tt_entry_init (tt_init.check _ _ _ _ _ _ _ _ hT (tt_initArgs _ _ _ _) ?_)
  unfold Builtin.«type.__init__»
  repeat (any_goals (first | assumption | wp_step))
end
theorem fl19 : True := by w_top off; first | walk1 | trivial
section
open PySem PySem.W PyProof.Rows PySem.Calls PySem.Spec PySem.SeqAt
open PySem.W.X (Mem)
set_option maxHeartbeats 4000000
variable {w : World}
theorem tg_slot : Slot "type" "__getattribute__" "type.__getattribute__" := .of (owner := "type") (n := "__getattribute__") (by rw [typeLookup_type, builtinLookup_eq_fast]; kernel_rfl) (by decide +kernel) (by decide +kernel) (by decide +kernel)
  (by first | exact .inl (by decide +kernel) | exact .inr (by decide +kernel)) (by rw [isSubtype_type]; kernel_rfl)
set_option hygiene false in
local macro_rules | `(tactic| x_close) => `(tactic| exact hq _ _ _ (by assumption))
theorem prep_ga {E : Value → Shared → Prop} {h : Heap} {g : Array GenState} {d : Drawn} {t tk : Nat} {os : OsState} {Q : Value → Shared → Prop}
    (hq : ∀ b h' t', Mem h h' [] [(b, { cls := .type "builtin_function_or_method", data := .fields #[.builtin "type.__prepare__", .type "type"] })] → Q (.ref b) ⟨h', g, d, t', os⟩) :
    wpAny (model PySem.Challenge.rw_ny0140_01.row.prog w) Big (call (.builtin "type.__getattribute__") [.type "type", .str (Str.ofString "__prepare__") tk]) Q E ⟨h, g, d, t, os⟩ := by
  x_run
theorem pr_entry : entryFor table "type.__prepare__" = some Builtin.«type.__prepare__» := entryFor_of_tree (by kernel_rfl)
theorem prep_call {A : Around} {E : Value → Shared → Prop} {h : Heap} {g : Array GenState} {d : Drawn} {t tk : Nat} {os : OsState} {b bT : Addr} {Q : Value → Shared → Prop}
    (hb : h.get? b = some { cls := .type "builtin_function_or_method", data := .fields #[.builtin "type.__prepare__", .type "type"] })
    (hq : Q (.ref h.objs.size) ⟨h.push { cls := .type "dict", data := .dict #[] 0 }, g, d, t, os⟩) :
    wpAny (model PySem.Challenge.rw_ny0140_01.row.prog w) A (call (.ref b) [.str (Str.ofString "K") tk, .ref bT]) Q E ⟨h, g, d, t, os⟩ := by
  refine wpAny_call (codeAny_of_tree ?_)
  show wpAny _ _ (callAny (.ref b) _) _ _ _
  unfold callAny
  refine wpAny_bind (wpAny_load hb ?_)
  show wpAny _ _ (do checkBoundCall "type.__prepare__" ⟨[.type "type", .str (Str.ofString "K") tk, .ref bT], []⟩; return ← again (.builtin "type.__prepare__" ⟨[.type "type", .str (Str.ofString "K") tk, .ref bT], []⟩)) _ _ _
  refine wpAny_bind (wpAny_of_eq (a := ()) (by kernel_rfl!) ?_)
  refine wpAny_bind (wpAny_pure (wpAny_pure ⟨Code.quiet_builtin _ (by decide +kernel), codeAny_builtin pr_entry ?_⟩))
  unfold Builtin.«type.__prepare__»
  repeat (first | (with_reducible refine wpAny_newDict ?_) | wp_step)
  all_goals exact hq
  trace_state
theorem prep_getattr {A : Around} {E : Value → Shared → Prop} {h : Heap} {g : Array GenState} {d : Drawn} {t : Nat} {os : OsState} {Q : Option Value → Shared → Prop}
    (hh : A.handled = none) (hd : A.depth ≤ 340) (hu : A.units ≤ 60)
    (hq : ∀ b h' t', Mem h h' [] [(b, { cls := .type "builtin_function_or_method", data := .fields #[.builtin "type.__prepare__", .type "type"] })] → Q (some (.ref b)) ⟨h', g, d, t', os⟩) :
    wpAny (model PySem.Challenge.rw_ny0140_01.row.prog w) A (getAttr? (.type "type") (Str.ofString "__prepare__")) Q E ⟨h, g, d, t, os⟩ := by
  have hlk := tg_slot.lookup
  unfold getAttr? getAttrBy? getAttrBy
  refine wpAny_bind (wpAny_mkText (wpAny_bind (wpAny_attempt (wpAny_bind (wpAny_of_eq (a := .type "type") rfl (wpAny_bind (wpAny_of_eq hlk ?_)))))))
  show wpAny _ _ (getAttrByItsOwn (.type "type") (.str (Str.ofString "__prepare__") t) (.type "type") (.builtin "type.__getattribute__") false false) _ _ _
  unfold getAttrByItsOwn hookBefore callGetattribute boundAndCalled
  refine wpAny_bind (wpAny_of_eq (a := none) rfl ?_)
  refine wpAny_bind (wpAny_attempt (wpAny_holding ?_))
  show wpAny _ _ (bindSpecial (.builtin "type.__getattribute__") (.type "type") >>= _) _ _ _
  refine wpAny_bind (wpAny_of_eq (tg_slot.bind _) ?_)
  refine wpAny_mono (Q := fun v s' => ∃ b h' t', v = .ref b ∧ s' = (⟨h', g, d, t', os⟩ : Shared) ∧ Mem h h' [] [(b, { cls := .type "builtin_function_or_method", data := .fields #[.builtin "type.__prepare__", .type "type"] })]) (E := fun _ _ => False) ?_ (fun v s' hv => ?_) fun _ _ z => z.elim
  case refine_2 =>
    obtain ⟨b, h', t', rfl, rfl, hm⟩ := hv
    exact wpAny_pure (wpAny_pure (hq b h' t' hm))
  refine any_weak (A' := Big) hh (Nat.le_trans hd (by decide)) (fun l hl => nomatch hl) (fun l hl => nomatch hl) (Nat.le_trans hu (by decide)) ?_
  exact prep_ga fun b h' t' hm => ⟨b, h', t', rfl, rfl, hm⟩
end
theorem fl20 : True := by w_top off; first | walk1 | trivial
section
open PySem PySem.W PyProof.Rows PySem.Calls PySem.Spec PySem.SeqAt
open PySem.W.X (Mem)
set_option maxHeartbeats 4000000
variable {w : World}
noncomputable def cmpBody : List Stmt := match PySem.Challenge.rw_ny0140_01.row.prog.main.body.find? (fun s => match s with | .FunctionDef n .. => n == Str.ofString "cmp_to_key" | _ => false) with | some (.FunctionDef _ _ b ..) => b | _ => []
noncomputable def kBody : List Stmt := match cmpBody with | .ClassDef _ _ _ b .. :: _ => b | _ => []
noncomputable def kScope : Scope := match cmpBody with | .ClassDef _ _ _ _ _ _ s .. :: _ => s | _ => default
noncomputable def kStat : List Str := match cmpBody with | .ClassDef _ _ _ _ _ _ _ _ _ s _ :: _ => s | _ => []
noncomputable def kPos : Pos := match cmpBody with | .ClassDef _ _ _ _ _ _ _ _ _ _ p :: _ => p | _ => default
noncomputable def kBase : Expr := match cmpBody with | .ClassDef _ [b] .. :: _ => b | _ => default
noncomputable def kRet : Stmt := match cmpBody with | _ :: r :: _ => r | _ => default
theorem cmpBody_eq : cmpBody = [.ClassDef (Str.ofString "K") [kBase] [] kBody [] [] kScope none (Str.ofString "K") kStat kPos, kRet] := by kernel_rfl!
theorem kRet_eq : kRet = .Return (some (.Name (Str.ofString "K") ⟨40, 11, 40, 12⟩)) ⟨40, 4, 40, 12⟩ := by kernel_rfl!
theorem kBase_eq : kBase = .Name (Str.ofString "object") ⟨18, 12, 18, 18⟩ := by kernel_rfl!
theorem kPos_eq : kPos = ⟨18, 4, 39, 23⟩ := by kernel_rfl!
theorem kStat_eq : kStat = [Str.ofString "obj"] := by kernel_rfl!
noncomputable def cScope : Scope := { kind := ScopeKind.function, names := [(Str.ofString "mycmp", NameKind.cell), (Str.ofString "K", NameKind.local), (Str.ofString "object", NameKind.globalImplicit)], isGenerator := false, isCoroutine := false, more := [] }
noncomputable abbrev kEnv (L : Addr) : Env := envOfC (Str.ofString "cmp_to_key") cScope L 35 (.ref 34)
noncomputable abbrev kCenv (L nd fr cK : Addr) : Env := { scope := kScope, locals := nd, globals := mainGlobals, cells := [(Str.ofString "mycmp", L + 1)], qual := Str.ofString "cmp_to_key.<locals>.K" ++ Str.ofString ".", code := .ref cK, frame := some fr, builtins := builtinsNs }
structure Kco (h : Heap) (c P : Addr) (ps : List Value) : Prop where
  code : h.IsCode c P ps.toArray
  tab : h.TableAt c P ps.toArray
theorem Kco.but {h h' : Heap} {c P a : Addr} {ps : List Value} {o : Obj} (x : Kco h c P ps) (hk : ∀ b o, b ≠ a → h.get? b = some o → h'.get? b = some o) (ha : h.get? a = some o) (hd : ∀ vs, o.data ≠ .fields vs) : Kco h' c P ps := by
  obtain ⟨⟨o1, vs, e1, hc1, hd1, r1⟩, e2⟩ := id x.tab
  have hc : c ≠ a := fun q => by subst q; rw [ha] at e1; cases e1; exact hd _ hd1
  have hP : P ≠ a := fun q => by subst q; rw [ha] at e2; cases e2; exact hd _ rfl
  exact ⟨x.code.extBut (a := a) hk hc hP, x.tab.extBut (a := a) hk hc hP⟩
theorem Kco.keeps {h h' : Heap} {c P : Addr} {ps : List Value} (x : Kco h c P ps) (hk : h.StaysIn h') : Kco h' c P ps := ⟨x.code.keeps hk, x.tab.keeps hk⟩
noncomputable def Crt (h : Heap) (c : Addr) (q : Str) : Prop := ∃ o vs t, h.get? c = some o ∧ o.cls = .type "code" ∧ o.data = .fields vs ∧ vs[1]? = some (.str q t)
theorem Crt.rec' {h : Heap} {c : Addr} {q : Str} (x : Crt h c q) : h.CodeRec (.ref c) q := let ⟨o, vs, t, e, _, d, v⟩ := x; ⟨c, o, vs, t, rfl, e, d, v⟩
theorem Crt.keeps {h h' : Heap} {c : Addr} {q : Str} (x : Crt h c q) (hk : ∀ b o, h.get? b = some o → h'.get? b = some o) : Crt h' c q := let ⟨o, vs, t, e, r⟩ := x; ⟨o, vs, t, hk _ _ e, r⟩
theorem Crt.keepsBut {h h' : Heap} {c : Addr} {q : Str} {a : Addr} {oa : Obj} (x : Crt h c q) (hk : ∀ b o, b ≠ a → h.get? b = some o → h'.get? b = some o) (ha : h.get? a = some oa) (hna : ∀ vs, oa.data ≠ .fields vs) : Crt h' c q := by
  obtain ⟨o, vs, t, e, r1, r2, r3⟩ := x
  exact ⟨o, vs, t, hk _ _ (fun z => by subst z; rw [ha] at e; cases e; exact hna _ r2) e, r1, r2, r3⟩
section
variable {M : Model} {A : Around} {E : Value → Shared → Prop} {s : Shared}
theorem fcode {env : Env} {c P : Addr} {ps : List Value} {pos : Pos} {firstLine : Nat} {name qualname : Str} {p : Arguments} {scope : Scope} {body : FuncBody} {Q : Value → Shared → Prop}
    (hc : env.code = .ref c) (hk : Kco s.heap c P ps)
    (hit : (∃ c', codeAmong pos ps = some (.ref c') ∧ Crt s.heap c' qualname ∧ ∀ tk, Q (.ref c') { s with toks := tk }) ∨ (codeAmong pos ps = none ∧
      ∀ c' h' tk, Heap.ExtBut P s.heap h' → Kco h' c P (ps ++ [rawInt pos.line, rawInt pos.col, .ref c']) → Crt h' c' qualname → Q (.ref c') { s with heap := h', toks := tk })) :
    wpAny M A (functionCode env pos firstLine name qualname p scope body) Q E s := by
  rcases hit with ⟨c', h1, h2, h3⟩ | ⟨h1, h3⟩
  · exact wpAny_functionCode_hit hc hk.code (by simpa using h1) (h3 s.toks)
  · refine wpAny_functionCodeX hc hk.code hk.tab (by simpa using h1) fun c' h' tk hx _ _ hok hrec htab hown => h3 c' h' tk hx ⟨by simpa using hok, by simpa using htab⟩ (by
      obtain ⟨c2, o, vs, t, e, g, d, v⟩ := hrec
      cases e
      obtain ⟨P', _, _, ⟨⟨oc, vc, g2, hcl, _⟩, _⟩⟩ := hown
      rw [g] at g2; cases g2
      exact ⟨o, vs, t, g, hcl, d, v⟩)
theorem ccode {env : Env} {c P : Addr} {ps : List Value} {pos : Pos} {firstLine : Nat} {name qualname : Str} {scope : Scope} {Q : Value → Shared → Prop}
    (hc : env.code = .ref c) (hk : Kco s.heap c P ps)
    (hit : (∃ c', codeAmong pos ps = some (.ref c') ∧ ∀ tk, Q (.ref c') { s with toks := tk }) ∨ (codeAmong pos ps = none ∧
      ∀ c' P' h' tk, Heap.ExtBut P s.heap h' → s.heap.objs.size ≤ P' → s.heap.objs.size ≤ c' → Kco h' c P (ps ++ [rawInt pos.line, rawInt pos.col, .ref c']) → Kco h' c' P' [] → h'.CodeRec (.ref c') qualname → Q (.ref c') { s with heap := h', toks := tk })) :
    wpAny M A (classCode env pos firstLine name qualname scope) Q E s := by
  rcases hit with ⟨c', h1, h3⟩ | ⟨h1, h3⟩
  · exact wpAny_codeAt_hit hc hk.code (by simpa using h1) (h3 s.toks)
  · obtain ⟨o, vs, file, tf, flags, tg, inF, text, tt, op, ho, hd, h11, h2, h7, h9, h10, hop, hpd, htr, hne⟩ := id hk.code
    have hnf : codeAmong pos ps.toArray.toList = none := by simpa using h1
    unfold classCode codeAt
    rw [hc, if_neg (show ¬ ((Value.ref c == Value.none) = true) from Bool.false_ne_true)]
    refine wpAny_bind (wpAny_fieldsOf ho hd ?_)
    rw [h11]
    refine wpAny_bind (wpAny_fieldsOf hop hpd ?_)
    rw [hnf, h2, h7, h9, h10]
    refine wpAny_bind (wpAny_newCodeX fun c' P' h' tk hk0 hc' hP' hcode' htab' hrec' => ?_)
    have hop' := hk0 _ _ hop
    refine wpAny_bind (wpAny_updateFieldsOfTheText hop' hpd ?_)
    have hnew : (Obj.mapFields (fun vs => if (codeAmong pos vs.toList).isSome = true then vs else vs ++ #[rawInt pos.line, rawInt pos.col, .ref c']) op).data =
        .fields (ps.toArray ++ #[rawInt pos.line, rawInt pos.col, .ref c']) := by
      rw [Obj.data_mapFields hpd, hnf]; rfl
    have hget := Heap.get?_update_self (h := h') (fun o => Obj.mapFields (fun vs => if (codeAmong pos vs.toList).isSome = true then vs else
      vs ++ #[rawInt pos.line, rawInt pos.col, .ref c']) o) hop' (Obj.isFreed_of_fields hnew)
    refine wpAny_bind (wpAny_fieldsOf hget hnew ?_)
    have hl : (ps.toArray ++ #[rawInt pos.line, rawInt pos.col, Value.ref c']).toList = ps.toArray.toList ++ [rawInt pos.line, rawInt pos.col, .ref c'] := by simp
    rw [hl, codeAmong_snoc _ htr hnf]
    have hcP : c' ≠ P := Nat.ne_of_gt (Nat.lt_of_lt_of_le (Heap.lt_size hop) hc')
    have hP'P : P' ≠ P := Nat.ne_of_gt (Nat.lt_of_lt_of_le (Heap.lt_size hop) hP')
    refine wpAny_pure (h3 c' P' _ _ (fun b o' hb e => ((Heap.SameBut.update ..).extBut b o' hb (hk0 b o' e))) hP' hc' ⟨?_, ?_⟩ ⟨?_, ?_⟩ ?_)
    · refine ⟨o, vs, file, tf, flags, tg, inF, text, tt, _, (Heap.SameBut.update ..).extBut _ _ hne (hk0 _ _ ho), hd, h11, h2, h7, h9, h10, hget, by simpa using hnew, ?_, hne⟩
      have := TriplesOk_snoc pos.line pos.col (.ref c') _ htr
      simpa using this
    · obtain ⟨⟨oc, vc, hoc, hcc, hdc, h11c⟩, htP⟩ := hk.tab
      have e1 : op = { cls := .none, data := .fields ps.toArray } := Option.some.inj (hop.symm.trans htP)
      refine ⟨⟨oc, vc, (Heap.SameBut.update ..).extBut _ _ hne (hk0 _ _ hoc), hcc, hdc, h11c⟩, ?_⟩
      rw [hget, e1]
      simp only [Obj.mapFields, hnf]
      simp
    · exact hcode'.extBut (Heap.SameBut.update ..).extBut hcP hP'P
    · exact htab'.extBut (Heap.SameBut.update ..).extBut hcP hP'P
    · obtain ⟨c₂, o₂, vs₂, t₂, e₂, g₂, r₂⟩ := hrec'
      cases e₂
      exact ⟨_, o₂, vs₂, t₂, rfl, (Heap.SameBut.update ..).extBut _ _ hcP g₂, r₂⟩
end
end
theorem fl21 : True := by w_top off; first | walk1 | trivial
section
open PySem PySem.W PyProof.Rows PySem.Calls PySem.Spec PySem.SeqAt
open PySem.W.X (Mem)
set_option maxHeartbeats 4000000
variable {w : World}
theorem kScope_kind : kScope.kind = .class := by kernel_rfl
section
variable {prog : Program} {A : Around} {E : Value → Shared → Prop} {g0 h : Heap} {g : Array GenState} {d : Drawn} {t : Nat} {os : OsState} {news : List (Addr × Obj)}
theorem m_nsSetK {a : Addr} {o : Obj} {es : Array DictEntry} {n : Nat} {name : Str} {v : Value} {Q : Unit → Shared → Prop} (o' : Obj) (D : Mem g0 h [] news) (i : Nat) (hi : news[i]? = some (a, o)) (hd : o.data = .dict es n) (hr : aRefKeyMayBeTheName name es = false)
    (ho : Obj.putName name (PyData.keyHash w.params name) (.str name t) v o = o') (hf : o'.isFreed = false)
    (x : ∀ h', Mem g0 h' [] (news.set i (a, o')) → (∀ b o, b ≠ a → h.get? b = some o → h'.get? b = some o) → Q () ⟨h', g, d, t + 1, os⟩) : wpAny (model prog w) A (nsSet a name v) Q E ⟨h, g, d, t, os⟩ := by
  unfold nsSet strHash mkText
  refine wpAny_bind (wpAny_bind (wpAny_askSetting (wpAny_pure (wpAny_bind (wpAny_bind (wpAny_fresh (wpAny_pure (wpAny_bind (wpAny_loadPart (D.at i a o hi) ?_)))))))))
  rw [hd]
  show wpAny _ _ (if _ then _ else _) _ _ _
  rw [if_neg (by rw [hr]; decide)]
  subst ho
  exact wpAny_updatePart (D.at i a o hi) (x _ (D.update hi hf) fun b ob hb e => ((Heap.SameBut.update ..).2 b hb).trans e)
theorem cs_store {L nd fr cK : Addr} {es : Array DictEntry} {n : Nat} {name : Str} {v : Value} {Q : Unit → Shared → Prop} (o' : Obj) (D : Mem g0 h [] news) (i : Nat) (hi : news[i]? = some (nd, { cls := .type "dict", data := .dict es n }))
    (hk : kScope.names.lookup name = some .local ∨ (kScope.names.lookup name = none ∧ compilersOwnNames.contains name = true)) (hr : aRefKeyMayBeTheName name es = false)
    (ho : Obj.putName name (PyData.keyHash w.params name) (.str name t) v { cls := .type "dict", data := .dict es n } = o') (hf : o'.isFreed = false)
    (x : ∀ h', Mem g0 h' [] (news.set i (nd, o')) → (∀ b o, b ≠ nd → h.get? b = some o → h'.get? b = some o) → Q () ⟨h', g, d, t + 1, os⟩) : wpAny (model prog w) A (storeName (kCenv L nd fr cK) name v) Q E ⟨h, g, d, t, os⟩ := by
  have hloc : wpAny (model prog w) A (localSet (kCenv L nd fr cK) name v) Q E ⟨h, g, d, t, os⟩ := by
    unfold localSet
    refine wpAny_bind (wpAny_load (D.at i nd _ hi) ?_)
    refine wpAny_ite_true (by kernel_rfl!) ?_
    exact m_nsSetK o' D i hi rfl hr ho hf x
  have hkk : (kCenv L nd fr cK).kindOf name = kScope.names.lookup name := rfl
  have hcl : ((kCenv L nd fr cK).scope.kind == ScopeKind.class) = true := by show (kScope.kind == _) = true; rw [kScope_kind]; rfl
  unfold storeName
  rw [hkk]
  have hb : ((kCenv L nd fr cK).blockKind == ScopeKind.function) = false := by kernel_rfl!
  have hm : ((kCenv L nd fr cK).scope.kind == ScopeKind.module) = false := by kernel_rfl!
  rcases hk with hk | ⟨hk, hc⟩
  · rw [hk, if_neg (by rw [show (some NameKind.local == some NameKind.globalImplicit) = false from rfl, Bool.false_and]; exact Bool.false_ne_true)]
    exact wpAny_ite_true (by rw [hcl]; rfl) hloc
  · rw [hk, ite_self]
    refine wpAny_ite_false (by rw [hb, hcl, hc]; rfl) ?_
    exact wpAny_ite_true (by rw [hcl]; rfl) hloc
theorem m_push {o : Obj} (D : Mem g0 h [] news) (hf : o.isFreed = false) : Mem g0 (h.push o) [] ((h.objs.size, o) :: news) := D.alloc hf
theorem m_extBut {P : Addr} {h' : Heap} (D : Mem g0 h [] news) (hx : Heap.ExtBut P h h') (hP : g0.get? P = none) (hn : ∀ p ∈ news, p.1 ≠ P) : Mem g0 h' [] news :=
  ⟨fun b o e q => hx b o (fun z => by subst z; rw [hP] at e; cases e) (D.keep b o e q), fun p hp => (nomatch hp), D.cd, fun p hp => ⟨hx p.1 p.2 (hn p hp) (D.nw p hp).1, (D.nw p hp).2⟩, D.ord⟩
theorem m_apart {c P : Addr} {ps : List Value} (D : Mem g0 h [] news) (hk : Kco h c P ps) (hc : ∀ p ∈ news, p.2.cls ≠ .none) : ∀ p ∈ news, p.1 ≠ P := fun p hp q => by
  have e := (D.nw p hp).1
  rw [q, hk.tab.2] at e
  have : p.2 = { cls := .none, data := .fields ps.toArray } := (Option.some.inj e).symm
  exact hc p hp (by rw [this])
noncomputable def kFd (name qual : Str) (as : List Arg) (body : List Stmt) (scope : Scope) (closure : List (Str × Addr)) (ct cd pm : Value) : FuncData :=
  { name := name, qualname := qual, params := { posonlyargs := [], args := as, vararg := none, kwonlyargs := [], kw_defaults := [], kwarg := none, defaults := [] }, body := FuncBody.stmts body, scope := scope, globals := mainGlobals, closure := closure, closureTuple := ct, code := cd, builtins := builtinsNs, defaults := Value.none, kwdefaults := Value.none, annotations := none, pyModule := pm, doc := Value.none }
noncomputable def kFun (name qual : Str) (as : List Arg) (body : List Stmt) (scope : Scope) (closure : List (Str × Addr)) (ct cd pm : Value) : Obj := { cls := .type "function", data := .func (kFd name qual as body scope closure ct cd pm) }
end
section
variable {prog : Program} {A : Around} {E : Value → Shared → Prop} {mean : ExcName → Option Value} {mg mb : Str → Option Value} {g0 h : Heap} {g : Array GenState} {d : Drawn} {t : Nat} {os : OsState} {news : List (Addr × Obj)}
theorem mkfun {L nd fr cK PK : Addr} {ps : List Value} {name qual : Str} {as : List Arg} {body : List Stmt} {scope : Scope} {pos : Pos} {cl : List (Str × Addr)} {fl : Nat} {Q : Value → Shared → Prop}
    (D : Mem g0 h [] news) (T : Top topProg LL mean mg mb g0) (hk : Kco h cK PK ps) (hcl : closureFor scope (kCenv L nd fr cK) = pure cl) (hdoc : docOf body = none)
    (hn : ∀ p ∈ news, p.2.cls ≠ .none)
    (hit : (∃ c', codeAmong pos ps = some (.ref c') ∧ Crt h c' qual) ∨ (codeAmong pos ps = none ∧ g0.get? PK = none))
    (x : ∀ f c' ct pm h' t' ps', Mem g0 h' [] ((f, kFun name qual as body scope cl ct (.ref c') pm) :: news) → (∀ b o, b ≠ PK → h.get? b = some o → h'.get? b = some o) → Kco h' cK PK ps' → Crt h' c' qual →
      ((ps' = ps ∧ codeAmong pos ps = some (.ref c') ∧ h.StaysIn h') ∨ (ps' = ps ++ [rawInt pos.line, rawInt pos.col, .ref c'] ∧ codeAmong pos ps = none)) → Q (.ref f) ⟨h', g, d, t', os⟩) :
    wpAny (model prog w) A (makeFunction name qual { posonlyargs := [], args := as, vararg := none, kwonlyargs := [], kw_defaults := [], kwarg := none, defaults := [] } (.stmts body) scope (kCenv L nd fr cK) [] [] [] pos fl) Q E ⟨h, g, d, t, os⟩ := by
  unfold makeFunction
  refine wpAny_bind (wpAny_pure (wpAny_bind (wpAny_pure (wpAny_bind (wpAny_pure (wpAny_bind (wpAny_of_eq hcl ?_)))))))
  have main : ∀ (ct : Value) (h1 : Heap) (t1 : Nat), Mem g0 h1 [] news → h.StaysIn h1 → wpAny (model prog w) A (do
      let code ← functionCode (kCenv L nd fr cK) pos fl name qual { posonlyargs := [], args := as, vararg := none, kwonlyargs := [], kw_defaults := [], kwarg := none, defaults := [] } scope (FuncBody.stmts body)
      let bs ← builtinsFor (kCenv L nd fr cK).globals (kCenv L nd fr cK).builtins
      let pm ← nsGet (kCenv L nd fr cK).globals (Str.ofString "__name__")
      let doc ← pure Value.none
      newObj (Value.type "function") (Data.func { name := name, qualname := qual, params := { posonlyargs := [], args := as, vararg := none, kwonlyargs := [], kw_defaults := [], kwarg := none, defaults := [] }, body := FuncBody.stmts body, scope := scope, globals := (kCenv L nd fr cK).globals, closure := cl, defaults := Value.none, kwdefaults := Value.none, doc := doc, pyModule := pm.getD Value.none, code := code, closureTuple := ct, builtins := bs })) Q E ⟨h1, g, d, t1, os⟩ := by
    intro ct h1 t1 D1 k1
    have fin : ∀ c' h2 t2 ps', Mem g0 h2 [] news → (∀ b o, b ≠ PK → h.get? b = some o → h2.get? b = some o) → Kco h2 cK PK ps' → Crt h2 c' qual →
      ((ps' = ps ∧ codeAmong pos ps = some (.ref c') ∧ h.StaysIn h2) ∨ (ps' = ps ++ [rawInt pos.line, rawInt pos.col, .ref c'] ∧ codeAmong pos ps = none)) → wpAny (model prog w) A (do
      let bs ← builtinsFor (kCenv L nd fr cK).globals (kCenv L nd fr cK).builtins
      let pm ← nsGet (kCenv L nd fr cK).globals (Str.ofString "__name__")
      let doc ← pure Value.none
      newObj (Value.type "function") (Data.func { name := name, qualname := qual, params := { posonlyargs := [], args := as, vararg := none, kwonlyargs := [], kw_defaults := [], kwarg := none, defaults := [] }, body := FuncBody.stmts body, scope := scope, globals := (kCenv L nd fr cK).globals, closure := cl, defaults := Value.none, kwdefaults := Value.none, doc := doc, pyModule := pm.getD Value.none, code := .ref c', closureTuple := ct, builtins := bs })) Q E ⟨h2, g, d, t2, os⟩ := by
      intro c' h2 t2 ps' D2 k2 K2 C2 hps
      have T2 := T.keeps (m_stays D2)
      obtain ⟨bm, ob, b1, b2, b3, b4, b5, b6⟩ := T2.bmain
      refine wpAny_bind (wpAny_builtinsFor T2.g b1 b2 b3 b4 b5 b6 (wpAny_bind (wpAny_nsGet T2.g (wpAny_bind (wpAny_pure ?_)))))
      refine wpAny_newObj_type ?_ trivial
      have kp : h2.StaysIn (h2.push (kFun name qual as body scope cl ct (.ref c') ((mg (Str.ofString "__name__")).getD Value.none))) := fun b o e => Heap.get?_push_of_some _ e
      exact x _ c' ct _ _ t2 ps' (m_push D2 rfl) (fun b o hb e => kp _ _ (k2 b o hb e)) (K2.keeps kp) (C2.keeps kp) (by
        rcases hps with ⟨e1, e2, e3⟩ | e
        · exact .inl ⟨e1, e2, fun b o e => kp _ _ (e3 b o e)⟩
        · exact .inr e)
    refine wpAny_bind (fcode rfl (hk.keeps k1) ?_)
    rcases hit with ⟨c', h1', h2'⟩ | ⟨h1', h2'⟩
    · exact .inl ⟨c', h1', h2'.keeps k1, fun tk => fin c' h1 tk ps D1 (fun b o _ e => k1 b o e) (hk.keeps k1) (h2'.keeps k1) (.inl ⟨rfl, h1', k1⟩)⟩
    · refine .inr ⟨h1', fun c' h2 tk hx hk2 hrec => fin c' h2 tk _ (m_extBut D1 hx h2' (m_apart D1 (hk.keeps k1) hn)) (fun b o hb e => hx b o hb (k1 b o e)) hk2 hrec (.inr ⟨rfl, h1'⟩)⟩
  by_cases hc : cl.isEmpty = true
  · refine wpAny_ite_true (by simp [hc]) (wpAny_bind (wpAny_pure ?_))
    simp only [hdoc]
    exact main .none h t D (fun _ _ e => e)
  · refine wpAny_ite_false (by simp [hc]) (wpAny_bind (wpAny_newTextTuple ?_))
    simp only [hdoc]
    exact main _ _ t (m_drop (m_push D rfl)) (fun b o e => Heap.get?_push_of_some _ e)
theorem fdef {L nd fr cK PK : Addr} {ps : List Value} {name qual : Str} {as : List Arg} {body : List Stmt} {scope : Scope} {pos : Pos} {cl : List (Str × Addr)} {es : Array DictEntry} {n : Nat} {Q : Flow → Shared → Prop} (o' : Tok → Addr → Obj)
    (D : Mem g0 h [] news) (T : Top topProg LL mean mg mb g0) (i : Nat) (hi : news[i]? = some (nd, { cls := .type "dict", data := .dict es n })) (hk : Kco h cK PK ps) (hcl : closureFor scope (kCenv L nd fr cK) = pure cl) (hdoc : docOf body = none)
    (hn : ∀ p ∈ news, p.2.cls ≠ .none) (hqual : qualnameIn (kCenv L nd fr cK) name name = qual) (hann : annotationsOf (as ++ [] ++ [] ++ [] ++ []) (kCenv L nd fr cK) = [])
    (hl : kScope.names.lookup name = some .local) (hr : aRefKeyMayBeTheName name es = false) (ho : ∀ tk f, Obj.putName name (PyData.keyHash w.params name) (.str name tk) (.ref f) { cls := .type "dict", data := .dict es n } = o' tk f) (hf : ∀ tk f, (o' tk f).isFreed = false)
    (hit : (∃ c', codeAmong pos ps = some (.ref c') ∧ Crt h c' qual) ∨ (codeAmong pos ps = none ∧ g0.get? PK = none))
    (x : ∀ f c' ct pm h' t' tk ps', Mem g0 h' [] ((f, kFun name qual as body scope cl ct (.ref c') pm) :: news.set i (nd, o' tk f)) → (∀ b o, b ≠ PK → b ≠ nd → h.get? b = some o → h'.get? b = some o) → Kco h' cK PK ps' → Crt h' c' qual →
      ((ps' = ps ∧ codeAmong pos ps = some (.ref c') ∧ ∀ b o, b ≠ nd → h.get? b = some o → h'.get? b = some o) ∨ (ps' = ps ++ [rawInt pos.line, rawInt pos.col, .ref c'] ∧ codeAmong pos ps = none)) → Q .next ⟨h', g, d, t', os⟩) :
    wpAny (model prog w) A (exec (.FunctionDef name { posonlyargs := [], args := as, vararg := none, kwonlyargs := [], kw_defaults := [], kwarg := none, defaults := [] } body [] none [] scope none name pos) (kCenv L nd fr cK)) Q E ⟨h, g, d, t, os⟩ := by
  rw [arm_exec_FunctionDef]
  unfold defStmt
  refine wpAny_bind (wpAny_of_eq (a := []) rfl ?_)
  refine wpAny_bind (wpAny_standAt ?_)
  refine wpAny_bind (wpAny_holding ?_)
  refine wpAny_bind (wpAny_of_eq (a := []) rfl ?_)
  refine wpAny_bind (wpAny_holding (wpAny_of_eq (a := []) rfl ?_))
  refine wpAny_holding ?_
  show wpAny _ _ (do
    let ann ← evalNamed (annotationsOf (as ++ [] ++ [] ++ [] ++ []) (kCenv L nd fr cK) ++ [])
    makeFunction name (qualnameIn (kCenv L nd fr cK) name name) { posonlyargs := [], args := as, vararg := none, kwonlyargs := [], kw_defaults := [], kwarg := none, defaults := [] } (.stmts body) scope (kCenv L nd fr cK) [] [] ann pos pos.line) _ _ _
  rw [hann, hqual]
  refine wpAny_bind (wpAny_of_eq (a := []) rfl ?_)
  refine mkfun D T hk hcl hdoc hn hit fun f c' ct pm h1 t1 ps' D1 k1 K1 C1 hps => ?_
  refine wpAny_bind (wpAny_of_eq (a := Value.ref f) rfl (wpAny_bind (wpAny_standAt (wpAny_bind ?_))))
  unfold bindName
  refine wpAny_bind (wpAny_holding (wpAny_point (wpAny_bind ?_)))
  refine cs_store (o' t1 f) D1 (i + 1) (by simpa using hi) (.inl hl) hr (ho t1 f) (hf t1 f) fun h2 D2 k2 => ?_
  refine wpAny_point (wpAny_pure ?_)
  have hnd := D1.at (i + 1) nd _ (by simpa using hi)
  have hnf : ∀ vs, ({ cls := .type "dict", data := .dict es n } : Obj).data ≠ .fields vs := fun vs q => by cases q
  refine x f c' ct pm h2 _ t1 ps' (by simpa using D2) (fun b o hb1 hb2 e => k2 b o hb2 (k1 b o hb1 e)) (K1.but k2 hnd hnf) (C1.keepsBut k2 hnd hnf) ?_
  rcases hps with ⟨e1, e2, e3⟩ | e
  · exact .inl ⟨e1, e2, fun b o hb e => k2 b o hb (e3 b o e)⟩
  · exact .inr e
end
end
theorem fl22 : True := by w_top off; first | walk1 | trivial
section
open PySem PySem.W PyProof.Rows PySem.Calls PySem.Spec PySem.SeqAt
open PySem.W.X (Mem)
set_option maxHeartbeats 4000000
variable {w : World}
noncomputable def kLines : List Nat := [22, 25, 28, 31, 34, 37]
noncomputable def kQ : Nat → Str
  | 0 => Str.ofString "cmp_to_key.<locals>.K.__init__" | 1 => Str.ofString "cmp_to_key.<locals>.K.__lt__" | 2 => Str.ofString "cmp_to_key.<locals>.K.__gt__"
  | 3 => Str.ofString "cmp_to_key.<locals>.K.__eq__" | 4 => Str.ofString "cmp_to_key.<locals>.K.__le__" | _ => Str.ofString "cmp_to_key.<locals>.K.__ge__"
noncomputable def tri : List Nat → List Addr → List Value
  | l :: ls, c :: cs => rawInt l :: rawInt (8 : Nat) :: .ref c :: tri ls cs
  | _, _ => []
theorem among_tri (pos : Pos) (hc : pos.col = 8) : ∀ (ls : List Nat) (cs : List Addr) (i : Nat), ls.Nodup → ls[i]? = some pos.line → codeAmong pos (tri ls cs) = (cs[i]?).map Value.ref
  | [], _, _, _, h => by simp at h
  | l :: ls, [], i, _, _ => by simp [tri, codeAmong]
  | l :: ls, c :: cs, 0, _, h => by
    have : l = pos.line := by simpa using h
    simp [tri, codeAmong, rawInt, this, hc]
  | l :: ls, c :: cs, i + 1, hn, h => by
    have h' : ls[i]? = some pos.line := by simpa using h
    have hne : l ≠ pos.line := fun q => (List.nodup_cons.mp hn).1 (q ▸ List.mem_of_getElem? h')
    have ih := among_tri pos hc ls cs i (List.nodup_cons.mp hn).2 h'
    have hne' : ((l : Int) == (pos.line : Int)) = false := by simp only [beq_eq_false_iff_ne]; exact fun q => hne (Int.ofNat.inj q)
    show codeAmong pos (rawInt l :: rawInt (8 : Nat) :: .ref c :: tri ls cs) = _
    unfold rawInt
    simp only [codeAmong, hne', Bool.false_and, Bool.false_eq_true, if_false]
    simpa using ih
theorem tri_snoc (c : Addr) : ∀ (ls : List Nat) (cs : List Addr) (l : Nat), ls[cs.length]? = some l → tri ls (cs ++ [c]) = tri ls cs ++ [rawInt l, rawInt (8 : Nat), .ref c]
  | [], cs, l, h => by simp at h
  | a :: ls, [], l, h => by
    have : a = l := by simpa using h
    subst this
    cases ls <;> simp [tri]
  | a :: ls, d :: cs, l, h => by
    have h' : ls[cs.length]? = some l := by simpa using h
    simp only [List.cons_append, tri, tri_snoc c ls cs l h']
theorem tri_one (ls : List Nat) (cs : List Addr) (s : Str) (t : Tok) : (tri ls cs).toArray[1]? ≠ some (.str s t) := by
  cases ls with
  | nil => simp [tri]
  | cons l ls =>
    cases cs with
    | nil => simp [tri]
    | cons c cs => simp [tri, rawInt]
structure Kst (g0 h : Heap) (cK PK : Addr) (i : Nat) (cs : List Addr) : Prop where
  k : Kco h cK PK (tri kLines cs)
  cr : ∀ j c, cs[j]? = some c → Crt h c (kQ j)
  size : cs.length = 6 ∨ (cs.length = i ∧ g0.get? PK = none)
theorem rec_but {h h' : Heap} {cK PK nd c : Addr} {ls : List Nat} {cs : List Addr} {q : Str} {o : Obj} (k : Kco h cK PK (tri ls cs)) (hnd : h.get? nd = some o) (hnf : ∀ vs, o.data ≠ .fields vs)
    (x : ∀ b o, b ≠ PK → b ≠ nd → h.get? b = some o → h'.get? b = some o) (r : Crt h c q) : Crt h' c q := by
  obtain ⟨o2, vs, t, g, hcl, d, v⟩ := r
  refine ⟨o2, vs, t, x c o2 (fun z => ?_) (fun z => ?_) g, hcl, d, v⟩
  · subst z
    rw [k.tab.2] at g; cases g; cases hcl
  · subst z
    rw [hnd] at g; cases g; exact hnf _ d
section
variable {prog : Program} {A : Around} {E : Value → Shared → Prop} {mean : ExcName → Option Value} {mg mb : Str → Option Value} {g0 h : Heap} {g : Array GenState} {d : Drawn} {t : Nat} {os : OsState} {news : List (Addr × Obj)}
theorem fstep {L nd fr cK PK : Addr} {k : Nat} {cs : List Addr} {name : Str} {as : List Arg} {body : List Stmt} {scope : Scope} {pos : Pos} {cl : List (Str × Addr)} {es : Array DictEntry} {n : Nat} {Q : Flow → Shared → Prop} (o' : Tok → Addr → Obj)
    (D : Mem g0 h [] news) (T : Top topProg LL mean mg mb g0) (i : Nat) (hi : news[i]? = some (nd, { cls := .type "dict", data := .dict es n })) (S : Kst g0 h cK PK k cs) (hpos : kLines[k]? = some pos.line) (hcol : pos.col = 8)
    (hcl : closureFor scope (kCenv L nd fr cK) = pure cl) (hdoc : docOf body = none) (hn : ∀ p ∈ news, p.2.cls ≠ .none) (hqual : qualnameIn (kCenv L nd fr cK) name name = kQ k) (hann : annotationsOf (as ++ [] ++ [] ++ [] ++ []) (kCenv L nd fr cK) = [])
    (hl : kScope.names.lookup name = some .local) (hr : aRefKeyMayBeTheName name es = false) (ho : ∀ tk f, Obj.putName name (PyData.keyHash w.params name) (.str name tk) (.ref f) { cls := .type "dict", data := .dict es n } = o' tk f) (hf : ∀ tk f, (o' tk f).isFreed = false)
    (x : ∀ f c' ct pm h' t' tk cs', Mem g0 h' [] ((f, kFun name (kQ k) as body scope cl ct (.ref c') pm) :: news.set i (nd, o' tk f)) → Kst g0 h' cK PK (k + 1) cs' → cs'[k]? = some c' → (∀ j, j < k → cs'[j]? = cs[j]?) → (∀ b o, b ≠ PK → b ≠ nd → h.get? b = some o → h'.get? b = some o) → Q .next ⟨h', g, d, t', os⟩) :
    wpAny (model prog w) A (exec (.FunctionDef name { posonlyargs := [], args := as, vararg := none, kwonlyargs := [], kw_defaults := [], kwarg := none, defaults := [] } body [] none [] scope none name pos) (kCenv L nd fr cK)) Q E ⟨h, g, d, t, os⟩ := by
  have hk6 : k < 6 := by
    have := (List.getElem?_eq_some_iff.mp hpos).1
    simpa [kLines] using this
  have ham := among_tri pos hcol kLines cs k (by decide) hpos
  have hnd := D.at i nd _ hi
  have hnf : ∀ vs, ({ cls := .type "dict", data := .dict es n } : Obj).data ≠ .fields vs := fun vs q => by cases q
  refine fdef o' D T i hi S.k hcl hdoc hn hqual hann hl hr ho hf ?_ fun f c' ct pm h' t' tk ps' D' k' K' C' hps => ?_
  · rcases S.size with hs | ⟨hs, hg⟩
    · have hlt : k < cs.length := by omega
      have : cs[k]? = some cs[k] := List.getElem?_eq_getElem hlt
      exact .inl ⟨cs[k], by rw [ham, this]; rfl, S.cr k _ this⟩
    · exact .inr ⟨by rw [ham, List.getElem?_eq_none (by omega)]; rfl, hg⟩
  · rcases hps with ⟨rfl, h2, h3⟩ | ⟨rfl, h2⟩
    · have hc' : cs[k]? = some c' := by
        rw [ham] at h2
        cases hq : cs[k]? with
        | none => rw [hq] at h2; cases h2
        | some c => rw [hq] at h2; cases h2; rfl
      have h6 : cs.length = 6 := by
        rcases S.size with hs | ⟨hs, _⟩
        · exact hs
        · rw [List.getElem?_eq_none (by omega)] at hc'; cases hc'
      exact x f c' ct pm h' t' tk cs D' ⟨K', fun j c hj => rec_but S.k hnd hnf k' (S.cr j c hj), .inl h6⟩ hc' (fun _ _ => rfl) k'
    · have hlen : cs.length = k ∧ g0.get? PK = none := by
        rcases S.size with hs | hs
        · rw [ham, List.getElem?_eq_getElem (by omega)] at h2; cases h2
        · exact hs
      have e := tri_snoc c' kLines cs pos.line (by rw [hlen.1]; exact hpos)
      refine x f c' ct pm h' t' tk (cs ++ [c']) D' ⟨?_, fun j c hj => ?_, .inr ⟨by simp [hlen.1], hlen.2⟩⟩ (by rw [List.getElem?_append_right (by omega)]; simp [hlen.1]) (fun j hj => by rw [List.getElem?_append_left (by omega)]) k'
      · rw [e]
        rw [hcol] at K'
        exact K'
      · by_cases hjk : j < cs.length
        · rw [List.getElem?_append_left hjk] at hj
          exact rec_but S.k hnd hnf k' (S.cr j c hj)
        · rw [List.getElem?_append_right (by omega)] at hj
          have : j = cs.length := by
            have := (List.getElem?_eq_some_iff.mp hj).1
            simp at this; omega
          subst this
          simp at hj
          subst hj
          rw [hlen.1]; exact C'
end
end
theorem fl23 : True := by w_top off; first | walk1 | trivial
section
open PySem PySem.W PyProof.Rows PySem.Calls PySem.Spec PySem.SeqAt
open PySem.W.X (Mem)
set_option maxHeartbeats 4000000
variable {w : World}
noncomputable def kFn (i : Nat) : Stmt := kBody.getD (i + 2) default
noncomputable def fN (i : Nat) : Str := match kFn i with | .FunctionDef n .. => n | _ => default
noncomputable def fA (i : Nat) : List Arg := match kFn i with | .FunctionDef _ a .. => a.args | _ => []
noncomputable def fB (i : Nat) : List Stmt := match kFn i with | .FunctionDef _ _ b .. => b | _ => []
noncomputable def fS (i : Nat) : Scope := match kFn i with | .FunctionDef _ _ _ _ _ _ s .. => s | _ => default
noncomputable def fP (i : Nat) : Pos := match kFn i with | .FunctionDef _ _ _ _ _ _ _ _ _ p => p | _ => default
noncomputable def kA0 : Pos × Pos × Pos := match kBody with | .Assign [.Name _ p] (.Constant _ _ q) r :: _ => (p, q, r) | _ => default
noncomputable def kA1 : Pos × Pos × Pos × Pos := match kBody with | _ :: .Assign [.Name _ p] (.List [.Constant _ _ q] r) u :: _ => (p, q, r, u) | _ => default
noncomputable def kA2 : Pos × Pos × Pos := match kBody.getD 8 default with | .Assign [.Name _ p] (.Constant _ _ q) r => (p, q, r) | _ => default
noncomputable abbrev kArgs (as : List Arg) : Arguments := { posonlyargs := [], args := as, vararg := none, kwonlyargs := [], kw_defaults := [], kwarg := none, defaults := [] }
noncomputable abbrev kDef (i : Nat) : Stmt := .FunctionDef (fN i) (kArgs (fA i)) (fB i) [] none [] (fS i) none (fN i) (fP i)
theorem kBody_eq : kBody = [.Assign [.Name (Str.ofString "__module__") kA0.1] (.Constant (.str (Str.ofString "cpy313.functools")) 0 kA0.2.1) kA0.2.2,
    .Assign [.Name (Str.ofString "__slots__") kA1.1] (.List [.Constant (.str (Str.ofString "obj")) 0 kA1.2.1] kA1.2.2.1) kA1.2.2.2, kDef 0, kDef 1, kDef 2, kDef 3, kDef 4, kDef 5,
    .Assign [.Name (Str.ofString "__hash__") kA2.1] (.Constant .none 0 kA2.2.1) kA2.2.2] := by kernel_rfl!
theorem fN0 : fN 0 = Str.ofString "__init__" := by kernel_rfl!
theorem fN1 : fN 1 = Str.ofString "__lt__" := by kernel_rfl!
theorem fN2 : fN 2 = Str.ofString "__gt__" := by kernel_rfl!
theorem fN3 : fN 3 = Str.ofString "__eq__" := by kernel_rfl!
theorem fN4 : fN 4 = Str.ofString "__le__" := by kernel_rfl!
theorem fN5 : fN 5 = Str.ofString "__ge__" := by kernel_rfl!
theorem fcl (L nd fr cK : Addr) : closureFor (fS 0) (kCenv L nd fr cK) = pure [] ∧ closureFor (fS 1) (kCenv L nd fr cK) = pure [(Str.ofString "mycmp", L + 1)] ∧ closureFor (fS 2) (kCenv L nd fr cK) = pure [(Str.ofString "mycmp", L + 1)] ∧
    closureFor (fS 3) (kCenv L nd fr cK) = pure [(Str.ofString "mycmp", L + 1)] ∧ closureFor (fS 4) (kCenv L nd fr cK) = pure [(Str.ofString "mycmp", L + 1)] ∧ closureFor (fS 5) (kCenv L nd fr cK) = pure [(Str.ofString "mycmp", L + 1)] :=
  ⟨by kernel_rfl!, by kernel_rfl!, by kernel_rfl!, by kernel_rfl!, by kernel_rfl!, by kernel_rfl!⟩
theorem fdoc : docOf (fB 0) = none ∧ docOf (fB 1) = none ∧ docOf (fB 2) = none ∧ docOf (fB 3) = none ∧ docOf (fB 4) = none ∧ docOf (fB 5) = none := ⟨by kernel_rfl!, by kernel_rfl!, by kernel_rfl!, by kernel_rfl!, by kernel_rfl!, by kernel_rfl!⟩
theorem fqual (L nd fr cK : Addr) : qualnameIn (kCenv L nd fr cK) (fN 0) (fN 0) = kQ 0 ∧ qualnameIn (kCenv L nd fr cK) (fN 1) (fN 1) = kQ 1 ∧ qualnameIn (kCenv L nd fr cK) (fN 2) (fN 2) = kQ 2 ∧ qualnameIn (kCenv L nd fr cK) (fN 3) (fN 3) = kQ 3 ∧
    qualnameIn (kCenv L nd fr cK) (fN 4) (fN 4) = kQ 4 ∧ qualnameIn (kCenv L nd fr cK) (fN 5) (fN 5) = kQ 5 := ⟨by kernel_rfl!, by kernel_rfl!, by kernel_rfl!, by kernel_rfl!, by kernel_rfl!, by kernel_rfl!⟩
theorem fann (L nd fr cK : Addr) : annotationsOf (fA 0 ++ [] ++ [] ++ [] ++ []) (kCenv L nd fr cK) = [] ∧ annotationsOf (fA 1 ++ [] ++ [] ++ [] ++ []) (kCenv L nd fr cK) = [] ∧ annotationsOf (fA 2 ++ [] ++ [] ++ [] ++ []) (kCenv L nd fr cK) = [] ∧
    annotationsOf (fA 3 ++ [] ++ [] ++ [] ++ []) (kCenv L nd fr cK) = [] ∧ annotationsOf (fA 4 ++ [] ++ [] ++ [] ++ []) (kCenv L nd fr cK) = [] ∧ annotationsOf (fA 5 ++ [] ++ [] ++ [] ++ []) (kCenv L nd fr cK) = [] :=
  ⟨by kernel_rfl!, by kernel_rfl!, by kernel_rfl!, by kernel_rfl!, by kernel_rfl!, by kernel_rfl!⟩
theorem floc : ∀ i, i < 6 → kScope.names.lookup (fN i) = some .local := by
  intro i hi
  match i, hi with
  | 0, _ => kernel_rfl!
  | 1, _ => kernel_rfl!
  | 2, _ => kernel_rfl!
  | 3, _ => kernel_rfl!
  | 4, _ => kernel_rfl!
  | 5, _ => kernel_rfl!
  | i + 6, h => omega
theorem fpos : ∀ i, i < 6 → kLines[i]? = some (fP i).line ∧ (fP i).col = 8 := by
  intro i hi
  match i, hi with
  | 0, _ => exact ⟨by kernel_rfl!, by kernel_rfl!⟩
  | 1, _ => exact ⟨by kernel_rfl!, by kernel_rfl!⟩
  | 2, _ => exact ⟨by kernel_rfl!, by kernel_rfl!⟩
  | 3, _ => exact ⟨by kernel_rfl!, by kernel_rfl!⟩
  | 4, _ => exact ⟨by kernel_rfl!, by kernel_rfl!⟩
  | 5, _ => exact ⟨by kernel_rfl!, by kernel_rfl!⟩
  | i + 6, h => omega
noncomputable def kD (P : Params) (K : KD) (n : Nat) (ep : Nat) : Obj := { cls := .type "dict", data := .dict ((kEnts P K).extract 0 n) ep }
end
section
open PySem PySem.W PyProof.Rows PySem.Calls PySem.Spec PySem.SeqAt
open PySem.W.X (Mem)
set_option maxHeartbeats 40000000
variable {w : World} {prog : Program}
theorem Kst.keeps {g0 h h' : Heap} {cK PK : Addr} {i : Nat} {cs : List Addr} (S : Kst g0 h cK PK i cs) (k : h.StaysIn h') : Kst g0 h' cK PK i cs := ⟨S.k.keeps k, fun j c hj => (S.cr j c hj).keeps k, S.size⟩
theorem Kst.but {g0 h h' : Heap} {cK PK a : Addr} {i : Nat} {cs : List Addr} {o : Obj} (S : Kst g0 h cK PK i cs) (ha : h.get? a = some o) (hd : ∀ vs, o.data ≠ .fields vs) (k : ∀ b o, b ≠ a → h.get? b = some o → h'.get? b = some o) : Kst g0 h' cK PK i cs :=
  ⟨S.k.but k ha hd, fun j c hj => (S.cr j c hj).keepsBut k ha hd, S.size⟩
theorem body_run {A : Around} {E : Value → Shared → Prop} {mean : ExcName → Option Value} {mg mb : Str → Option Value} {g0 h : Heap} {g : Array GenState} {d : Drawn} {t : Nat} {os : OsState} {L nd fr cK PK bT : Addr} {cs : List Addr} {t1 t2 t3 t4 m2 : Tok} {v1 : Value} {Q : Flow → Shared → Prop}
    (D : Mem g0 h [] [(nd, { cls := .type "dict", data := .dict #[ent w.params "__module__" t1 v1, ent w.params "__qualname__" t2 (.str (Str.ofString "cmp_to_key.<locals>.K") t3), ent w.params "__firstlineno__" t4 (.int 18 m2)] 3 }), (bT, { cls := .type "tuple", data := .seq #[.type "object"] 0 })])
    (T : Top topProg LL mean mg mb g0) (S : Kst g0 h cK PK 0 cs)
    (x : ∀ (K : KD) (ct0 ct1 pm0 pm1 : Value) (c0 c1 : Addr) (cs' : List Addr) (o2 o3 o4 o5 : Obj) (tj : Tok) (h' : Heap) (t' : Nat), K.t2 = t2 → K.t3 = t3 → Mem g0 h' [] [(K.f6, o5), (K.f5, o4), (K.f4, o3), (K.f3, o2), (K.f2, kFun (fN 1) (kQ 1) (fA 1) (fB 1) (fS 1) [(Str.ofString "mycmp", L + 1)] ct1 (.ref c1) pm1),
        (K.f1, kFun (fN 0) (kQ 0) (fA 0) (fB 0) (fS 0) [] ct0 (.ref c0) pm0), (K.sl, { cls := .type "list", data := .seq #[.str (Str.ofString "obj") tj] 0 }), (nd, { cls := .type "dict", data := .dict (kEnts w.params K).pop 11 }), (bT, { cls := .type "tuple", data := .seq #[.type "object"] 0 })] →
      (∀ o ∈ [o2, o3, o4, o5], o.cls = .type "function") → Kst g0 h' cK PK 6 cs' → cs'[0]? = some c0 → cs'[1]? = some c1 → (∀ b o, b ≠ PK → b ≠ nd → h.get? b = some o → h'.get? b = some o) → Q .next ⟨h', g, d, t', os⟩) :
    wpAny (model prog w) A (execs kBody (kCenv L nd fr cK)) Q E ⟨h, g, d, t, os⟩ := by
  rw [kBody_eq]
  refine wpAny_execs_cons (wpAny_Assign_Name (wpAny_Constant_str ?_))
  refine cs_store ({ cls := .type "dict", data := .dict #[ent w.params "__module__" t1 (.str (Str.ofString "cpy313.functools") t), ent w.params "__qualname__" t2 (.str (Str.ofString "cmp_to_key.<locals>.K") t3), ent w.params "__firstlineno__" t4 (.int 18 m2)] 3 }) D 0 rfl (.inl (by kernel_rfl!)) (by kernel_rfl!) (by kernel_rfl!) rfl fun h1 D1 k1 => ?_
  have S1 : Kst g0 h1 cK PK 0 cs := S.but (D.at 0 _ _ rfl) (fun vs q => by cases q) k1
  refine wpAny_execs_cons (wpAny_Assign_Name (wpAny_List (Calls.spliced_cons (wpAny_Constant_str (k := 0) (pos := kA1.2.1) (Calls.spliced_nil ⟨by simp [sizeLine_eq], ?_⟩)))))
  have kp2 : h1.StaysIn (h1.push { cls := .type "list", data := .seq [.str (Str.ofString "obj") (t + 1 + 1)].toArray }) := fun b o e => Heap.get?_push_of_some _ e
  have S2 := S1.keeps kp2
  have D2 := m_push (o := { cls := .type "list", data := .seq [.str (Str.ofString "obj") (t + 1 + 1)].toArray }) D1 rfl
  refine cs_store ({ cls := .type "dict", data := .dict #[ent w.params "__module__" t1 (.str (Str.ofString "cpy313.functools") t), ent w.params "__qualname__" t2 (.str (Str.ofString "cmp_to_key.<locals>.K") t3), ent w.params "__firstlineno__" t4 (.int 18 m2), ent w.params "__slots__" (t + 1 + 1 + 1) (.ref h1.objs.size)] 4 }) D2 1 rfl (.inl (by kernel_rfl!)) (by kernel_rfl!) (by kernel_rfl!) rfl fun h3 D3 k3 => ?_
  have S3 := S2.but (D2.at 1 _ _ rfl) (fun vs q => by cases q) k3
  generalize h1.objs.size = sl at D3
  have kA : ∀ b o, b ≠ PK → b ≠ nd → h.get? b = some o → h3.get? b = some o := fun b o _ hb e => k3 b o hb (kp2 _ _ (k1 b o hb e))
  clear S2 D2 kp2 k3 k1 S1 D1
  refine wpAny_execs_cons ?_
  refine fstep (k := 0) (fun tk f => { cls := .type "dict", data := .dict #[ent w.params "__module__" t1 (.str (Str.ofString "cpy313.functools") t), ent w.params "__qualname__" t2 (.str (Str.ofString "cmp_to_key.<locals>.K") t3), ent w.params "__firstlineno__" t4 (.int 18 m2), ent w.params "__slots__" (t + 1 + 1 + 1) (.ref sl), ent w.params "__init__" tk (.ref f)] 5 }) D3 T 1 rfl S3 (fpos 0 (by decide)).1 (fpos 0 (by decide)).2 (fcl L nd fr cK).1 (fdoc).1 (by simp [kFun]) (fqual L nd fr cK).1 (fann L nd fr cK).1 (floc 0 (by decide)) (by kernel_rfl!) (fun tk f => by kernel_rfl!) (fun tk f => rfl) fun f1 c0' ct0 pm0 h0' t0' tk0 cs0 E0 S1' hc0 hpre0 k0' => ?_
  clear D3 S3
  dsimp only [List.set_cons_succ, List.set_cons_zero] at E0
  refine wpAny_execs_cons ?_
  refine fstep (k := 1) (fun tk f => { cls := .type "dict", data := .dict #[ent w.params "__module__" t1 (.str (Str.ofString "cpy313.functools") t), ent w.params "__qualname__" t2 (.str (Str.ofString "cmp_to_key.<locals>.K") t3), ent w.params "__firstlineno__" t4 (.int 18 m2), ent w.params "__slots__" (t + 1 + 1 + 1) (.ref sl), ent w.params "__init__" tk0 (.ref f1), ent w.params "__lt__" tk (.ref f)] 6 }) E0 T 2 rfl S1' (fpos 1 (by decide)).1 (fpos 1 (by decide)).2 (fcl L nd fr cK).2.1 (fdoc).2.1 (by simp [kFun]) (fqual L nd fr cK).2.1 (fann L nd fr cK).2.1 (floc 1 (by decide)) (by kernel_rfl!) (fun tk f => by kernel_rfl!) (fun tk f => rfl) fun f2 c1' ct1 pm1 h1' t1' tk1 cs1 E1 S2' hc1 hpre1 k1' => ?_
  clear E0 S1'
  dsimp only [List.set_cons_succ, List.set_cons_zero] at E1
  refine wpAny_execs_cons ?_
  refine fstep (k := 2) (fun tk f => { cls := .type "dict", data := .dict #[ent w.params "__module__" t1 (.str (Str.ofString "cpy313.functools") t), ent w.params "__qualname__" t2 (.str (Str.ofString "cmp_to_key.<locals>.K") t3), ent w.params "__firstlineno__" t4 (.int 18 m2), ent w.params "__slots__" (t + 1 + 1 + 1) (.ref sl), ent w.params "__init__" tk0 (.ref f1), ent w.params "__lt__" tk1 (.ref f2), ent w.params "__gt__" tk (.ref f)] 7 }) E1 T 3 rfl S2' (fpos 2 (by decide)).1 (fpos 2 (by decide)).2 (fcl L nd fr cK).2.2.1 (fdoc).2.2.1 (by simp [kFun]) (fqual L nd fr cK).2.2.1 (fann L nd fr cK).2.2.1 (floc 2 (by decide)) (by kernel_rfl!) (fun tk f => by kernel_rfl!) (fun tk f => rfl) fun f3 c2' ct2 pm2 h2' t2' tk2 cs2 E2 S3' hc2 hpre2 k2' => ?_
  clear E1 S2'
  dsimp only [List.set_cons_succ, List.set_cons_zero] at E2
  refine wpAny_execs_cons ?_
  refine fstep (k := 3) (fun tk f => { cls := .type "dict", data := .dict #[ent w.params "__module__" t1 (.str (Str.ofString "cpy313.functools") t), ent w.params "__qualname__" t2 (.str (Str.ofString "cmp_to_key.<locals>.K") t3), ent w.params "__firstlineno__" t4 (.int 18 m2), ent w.params "__slots__" (t + 1 + 1 + 1) (.ref sl), ent w.params "__init__" tk0 (.ref f1), ent w.params "__lt__" tk1 (.ref f2), ent w.params "__gt__" tk2 (.ref f3), ent w.params "__eq__" tk (.ref f)] 8 }) E2 T 4 rfl S3' (fpos 3 (by decide)).1 (fpos 3 (by decide)).2 (fcl L nd fr cK).2.2.2.1 (fdoc).2.2.2.1 (by simp [kFun]) (fqual L nd fr cK).2.2.2.1 (fann L nd fr cK).2.2.2.1 (floc 3 (by decide)) (by kernel_rfl!) (fun tk f => by kernel_rfl!) (fun tk f => rfl) fun f4 c3' ct3 pm3 h3' t3' tk3 cs3 E3 S4' hc3 hpre3 k3' => ?_
  clear E2 S3'
  dsimp only [List.set_cons_succ, List.set_cons_zero] at E3
  refine wpAny_execs_cons ?_
  refine fstep (k := 4) (fun tk f => { cls := .type "dict", data := .dict #[ent w.params "__module__" t1 (.str (Str.ofString "cpy313.functools") t), ent w.params "__qualname__" t2 (.str (Str.ofString "cmp_to_key.<locals>.K") t3), ent w.params "__firstlineno__" t4 (.int 18 m2), ent w.params "__slots__" (t + 1 + 1 + 1) (.ref sl), ent w.params "__init__" tk0 (.ref f1), ent w.params "__lt__" tk1 (.ref f2), ent w.params "__gt__" tk2 (.ref f3), ent w.params "__eq__" tk3 (.ref f4), ent w.params "__le__" tk (.ref f)] 9 }) E3 T 5 rfl S4' (fpos 4 (by decide)).1 (fpos 4 (by decide)).2 (fcl L nd fr cK).2.2.2.2.1 (fdoc).2.2.2.2.1 (by simp [kFun]) (fqual L nd fr cK).2.2.2.2.1 (fann L nd fr cK).2.2.2.2.1 (floc 4 (by decide)) (by kernel_rfl!) (fun tk f => by kernel_rfl!) (fun tk f => rfl) fun f5 c4' ct4 pm4 h4' t4' tk4 cs4 E4 S5' hc4 hpre4 k4' => ?_
  clear E3 S4'
  dsimp only [List.set_cons_succ, List.set_cons_zero] at E4
  refine wpAny_execs_cons ?_
  refine fstep (k := 5) (fun tk f => { cls := .type "dict", data := .dict #[ent w.params "__module__" t1 (.str (Str.ofString "cpy313.functools") t), ent w.params "__qualname__" t2 (.str (Str.ofString "cmp_to_key.<locals>.K") t3), ent w.params "__firstlineno__" t4 (.int 18 m2), ent w.params "__slots__" (t + 1 + 1 + 1) (.ref sl), ent w.params "__init__" tk0 (.ref f1), ent w.params "__lt__" tk1 (.ref f2), ent w.params "__gt__" tk2 (.ref f3), ent w.params "__eq__" tk3 (.ref f4), ent w.params "__le__" tk4 (.ref f5), ent w.params "__ge__" tk (.ref f)] 10 }) E4 T 6 rfl S5' (fpos 5 (by decide)).1 (fpos 5 (by decide)).2 (fcl L nd fr cK).2.2.2.2.2 (fdoc).2.2.2.2.2 (by simp [kFun]) (fqual L nd fr cK).2.2.2.2.2 (fann L nd fr cK).2.2.2.2.2 (floc 5 (by decide)) (by kernel_rfl!) (fun tk f => by kernel_rfl!) (fun tk f => rfl) fun f6 c5' ct5 pm5 h5' t5' tk5 cs5 E5 S6' hc5 hpre5 k5' => ?_
  clear E4 S5'
  dsimp only [List.set_cons_succ, List.set_cons_zero] at E5
  refine wpAny_execs_cons (wpAny_Assign_Name (wpAny_Constant_none ?_))
  refine cs_store ({ cls := .type "dict", data := .dict #[ent w.params "__module__" t1 (.str (Str.ofString "cpy313.functools") t), ent w.params "__qualname__" t2 (.str (Str.ofString "cmp_to_key.<locals>.K") t3), ent w.params "__firstlineno__" t4 (.int 18 m2), ent w.params "__slots__" (t + 1 + 1 + 1) (.ref sl), ent w.params "__init__" tk0 (.ref f1), ent w.params "__lt__" tk1 (.ref f2), ent w.params "__gt__" tk2 (.ref f3), ent w.params "__eq__" tk3 (.ref f4), ent w.params "__le__" tk4 (.ref f5), ent w.params "__ge__" tk5 (.ref f6), ent w.params "__hash__" t5' .none] 11 }) E5 7 rfl (.inl (by kernel_rfl!)) (by kernel_rfl!) (by kernel_rfl!) rfl fun h9 D9 k9 => ?_
  have S9 := S6'.but (E5.at 7 _ _ rfl) (fun vs q => by cases q) k9
  refine wpAny_execs_nil ?_
  refine x ⟨t1, t2, t3, t4, t + 1 + 1 + 1, tk0, tk1, tk2, tk3, tk4, tk5, t5', 0, t, m2, sl, f1, f2, f3, f4, f5, f6, 0⟩ ct0 ct1 pm0 pm1 c0' c1' cs5 (kFun (fN 2) (kQ 2) (fA 2) (fB 2) (fS 2) [(Str.ofString "mycmp", L + 1)] ct2 (.ref c2') pm2) (kFun (fN 3) (kQ 3) (fA 3) (fB 3) (fS 3) [(Str.ofString "mycmp", L + 1)] ct3 (.ref c3') pm3) (kFun (fN 4) (kQ 4) (fA 4) (fB 4) (fS 4) [(Str.ofString "mycmp", L + 1)] ct4 (.ref c4') pm4) (kFun (fN 5) (kQ 5) (fA 5) (fB 5) (fS 5) [(Str.ofString "mycmp", L + 1)] ct5 (.ref c5') pm5) (t + 1 + 1) h9 _ rfl rfl ?_ (by simp [kFun]) S9 ?_ ?_ ?_
  · exact D9
  · rw [hpre5 0 (by decide), hpre4 0 (by decide), hpre3 0 (by decide), hpre2 0 (by decide), hpre1 0 (by decide), hc0]
  · rw [hpre5 1 (by decide), hpre4 1 (by decide), hpre3 1 (by decide), hpre2 1 (by decide), hc1]
  · exact fun b o hP hn e => k9 b o hn (k5' b o hP hn (k4' b o hP hn (k3' b o hP hn (k2' b o hP hn (k1' b o hP hn (k0' b o hP hn (kA b o hP hn e)))))))
end
section
open PySem PySem.W PyProof.Rows PySem.Calls PySem.Spec PySem.SeqAt
open PySem.W.X (Mem)
set_option maxHeartbeats 4000000
variable {w : World}
theorem cs_name {A : Around} {E : Value → Shared → Prop} {Q : Value → Shared → Prop} {prog : Program} {g0 h : Heap} {news : List (Addr × Obj)} {g : Array GenState} {d : Drawn} {t : Nat} {os : OsState} {L nd fr cK : Addr} {n : Nat}
    (D : Mem g0 h [] news) (X : (_root_.Mine.hd.heap_1_1 w.params).In h) (i : Nat) (hi : news[i]? = some (nd, { cls := .type "dict", data := .dict #[] n }))
    (hq : ∀ v, Q v ⟨h, g, d, t, os⟩) :
    wpAny (model prog w) A (loadName (kCenv L nd fr cK) (Str.ofString "__name__")) Q E ⟨h, g, d, t, os⟩ := by
  have h3 : ∃ v, nsLook (Str.ofString "__name__") (((_root_.Mine.hd.heap_1_1 w.params).lookup 3).getD default) = pure (some v) := ⟨_, by rfl⟩
  obtain ⟨v, hv⟩ := h3
  have e3 : h.get? 3 = some (((_root_.Mine.hd.heap_1_1 w.params).lookup 3).getD default) := X 3 _ (by kernel_rfl!)
  have hk : (kCenv L nd fr cK).kindOf (Str.ofString "__name__") = none := by kernel_rfl!
  have hb : (kCenv L nd fr cK).blockKind = .class := by kernel_rfl!
  unfold loadName
  refine wpAny_ite_false (by kernel_rfl!) ?_
  rw [hb, hk]
  refine wpAny_ite_false (by kernel_rfl!) ?_
  unfold localGet loadGlobal
  refine wpAny_bind (wpAny_bind (wpAny_load (D.at i nd _ hi) ?_))
  refine wpAny_ite_true (by kernel_rfl!) ?_
  refine m_nsGet (name := Str.ofString "__name__") none (D.at i nd _ hi) (by kernel_rfl!) ?_
  refine wpAny_bind (m_nsGet (name := Str.ofString "__name__") (some v) e3 hv ?_)
  exact wpAny_pure (hq v)
end
theorem fl24 : True := by w_top off; first | walk1 | trivial
section
open PySem PySem.W PyProof.Rows PySem.Calls PySem.Spec PySem.SeqAt
open PySem.W.X (Mem)
set_option maxHeartbeats 4000000
variable {w : World}
set_option maxHeartbeats 40000000 in
theorem cls_exec {A : Around} {E : Value → Shared → Prop} {Q : Flow → Shared → Prop} {mean : ExcName → Option Value} {mg mb : Str → Option Value} {h : Heap} {g : Array GenState} {d : Drawn} {t : Nat} {os : OsState} {L : Addr}
    (X : (_root_.Mine.hd.heap_1_1 w.params).In h) (T : Top topProg LL mean mg mb h)
    (hB : wpAny (model PySem.Challenge.rw_ny0140_01.row.prog w) A (buildClass (Str.ofString "K") (Str.ofString "cmp_to_key.<locals>.K") [.type "object"] [] kBody kScope kStat 18 (kEnv L) kPos none) (fun c s' => wpAny (model PySem.Challenge.rw_ny0140_01.row.prog w) A (bindName (kEnv L) (Str.ofString "K") c) (fun _ s'' => Q .next s'') E s') E ⟨h, g, d, t, os⟩) :
    wpAny (model PySem.Challenge.rw_ny0140_01.row.prog w) A (exec (.ClassDef (Str.ofString "K") [kBase] [] kBody [] [] kScope none (Str.ofString "K") kStat kPos) (kEnv L)) Q E ⟨h, g, d, t, os⟩ := by
  rw [arm_exec_ClassDef, kBase_eq]
  (repeat (first | (first | with_reducible (first | refine wpAny_of_eq (t := Builtin.extendedBase _) (a := .type "object") (by kernel_rfl!) ?_ | refine wpAny_of_eq (t := Bind.madeBy (.type _)) (a := some "object.__new__") (by kernel_rfl!) ?_ | refine wpAny_of_eq (t := Builtin.notOverATurnedClass _) (a := ()) (by kernel_rfl!) ?_ | refine wpAny_of_eq (t := Builtin.Slots.bestBase _) (a := .type "object") (by kernel_rfl!) ?_ | refine wpAny_of_eq (t := Builtin.Slots.slotNamesOf (.type _)) (a := []) (by kernel_rfl!) ?_ | refine wpAny_of_eq (t := Builtin.Slots.givesDict (.type _)) (a := false) (by kernel_rfl!) ?_ | refine wpAny_of_eq (t := Builtin.Slots.givesWeak (.type _)) (a := false) (by kernel_rfl!) ?_ | refine wpAny_of_eq (t := Builtin.Slots.varSize (.type _)) (a := false) (by kernel_rfl!) ?_ | refine wpAny_of_eq (t := isSubtype (.type _) (.type _)) (a := true) (by kernel_rfl!) ?_ | refine wpAny_of_eq (t := isType (.type _)) (a := true) (by kernel_rfl!) ?_ | refine wpAny_of_eq (t := typeOf (.type _)) (a := .type "type") (by kernel_rfl!) ?_ | refine wpAny_of_eq (t := typeLookup (.type _) _) (a := some (.builtin "dict.__iter__")) (by kernel_rfl!) ?_ | refine wpAny_of_eq (t := typeLookup (.type _) _) (a := none) (by kernel_rfl!) ?_) | with_reducible (first | refine wpAny_pure ?_ | refine wpAny_bind ?_ | refine wpAny_holding ?_ | refine wpAny_standAt ?_ | refine wpAny_point ?_ | refine wpAny_rule ?_ | refine wpAny_letGo ?_ | refine wpAny_tryCatch ?_ | refine wpAny_mkInt' ?_ | refine wpAny_fresh' ?_ | refine wpAny_attempt ?_ | refine wpAny_of_eq (by assumption) ?_) | ((with_reducible refine' wpAny_mkStr' (hx := ?mX) ?_); (case mX => size_fits)) | ((with_reducible refine' m_alloc ?mD ?mf ?_); (case mD => assumption); (case mf => rfl); intro _ _ _) | ((with_reducible (first | apply wpAny_load' | apply wpAny_loadPart')); focus ((first | assumption | (refine' Mem.at (h := _) ?mD 0 _ _ ?me; (case mD => assumption); (case me => rfl)) | (refine' Mem.at (h := _) ?mD 1 _ _ ?me; (case mD => assumption); (case me => rfl)) | (refine' Mem.at (h := _) ?mD 2 _ _ ?me; (case mD => assumption); (case me => rfl)) | (refine' Mem.at (h := _) ?mD 3 _ _ ?me; (case mD => assumption); (case me => rfl)) | (refine' m_old ?mD ?me; (case mD => assumption); (case me => assumption))); done)) | ((with_reducible refine' m_nsGet none ?mh ?mv ?_); (case mh => (first | assumption | (refine' Mem.at (h := _) ?mD 0 _ _ ?me; (case mD => assumption); (case me => rfl)) | (refine' Mem.at (h := _) ?mD 1 _ _ ?me; (case mD => assumption); (case me => rfl)) | (refine' Mem.at (h := _) ?mD 2 _ _ ?me; (case mD => assumption); (case me => rfl)) | (refine' Mem.at (h := _) ?mD 3 _ _ ?me; (case mD => assumption); (case me => rfl)) | (refine' m_old ?mD ?me; (case mD => assumption); (case me => assumption)))); (case mv => kernel_rfl!)) | ((with_reducible apply wpAny_ite_false); focus (first | (simp only [List.any_toArray]; kernel_rfl!) | (simp only [sizeLine_eq]; simp; done) | kernel_rfl! | simp [*]; done)) | ((with_reducible apply wpAny_ite_true); focus (first | (simp only [List.any_toArray]; kernel_rfl!) | (simp only [sizeLine_eq]; simp; done) | kernel_rfl! | simp [*]; done)) | ((with_reducible show wpAny _ _ (collect _) _ _ _); refine m_collect (vs := [_]) (by assumption) (by assumption) ?_ (by simp [sizeLine_eq]); intro _ _) | with_reducible_and_instances refine wpAny_pure ?_ | with_reducible_and_instances refine wpAny_bind ?_) | ((fail_if_success (first | (with_reducible show wpAny _ _ (nsGet _ _) _ _ _) | (with_reducible show wpAny _ _ (nsSet _ _ _) _ _ _) | (with_reducible show wpAny _ _ (nsDel _ _) _ _ _) | (with_reducible show wpAny _ _ (typeLookup _ _) _ _ _) | (with_reducible show wpAny _ _ (Sem.tryCatch _ _) _ _ _) | (with_reducible show wpAny _ _ (getAttr? _ _) _ _ _) | (with_reducible show wpAny _ _ (classCode _ _ _ _ _ _) _ _ _) | (with_reducible show wpAny _ _ (builtinsFor _ _) _ _ _) | (with_reducible show wpAny _ _ (newBodyFrame _ _ _ _) _ _ _) | (with_reducible show wpAny _ _ (enterFrame) _ _ _) | (with_reducible show wpAny _ _ (run _) _ _ _) | (with_reducible show wpAny _ _ (storeName _ _ _) _ _ _) | (with_reducible show wpAny _ _ (loadName _ _) _ _ _) | (with_reducible show wpAny _ _ (call _ _) _ _ _) | (with_reducible show wpAny _ _ (call _ _ _) _ _ _) | (with_reducible show wpAny _ _ (notTheModulesDict _ _) _ _ _) | (with_reducible show wpAny _ _ (specialOf _ _) _ _ _) | (with_reducible show wpAny _ _ (newTuple _) _ _ _) | (with_reducible show wpAny _ _ (newTextTuple _) _ _ _) | (with_reducible show wpAny _ _ (buildClassGuard _) _ _ _) | (with_reducible show wpAny _ _ (bindName _ _ _) _ _ _) | (with_reducible show wpAny _ _ (buildClass _ _ _ _ _ _ _ _ _ _ _) _ _ _) | (with_reducible show wpAny _ _ (Sem.onRaise _ _) _ _ _))); wp_delta)))
  have hbb : mb (Str.ofString "__build_class__") = some (.builtin "__build_class__") := (T.builtins _ (by decide)).trans (by kernel_rfl)
  have hbo : mb (Str.ofString "object") = some (.type "object") := (T.builtins _ (by decide)).trans (by kernel_rfl)
  unfold buildClassGuard
  refine wpAny_bind (wpAny_nsGet T.b ?_)
  rw [show mb "__build_class__" = some (.builtin "__build_class__") from hbb]
  (repeat (first | (first | with_reducible (first | refine wpAny_of_eq (t := Builtin.extendedBase _) (a := .type "object") (by kernel_rfl!) ?_ | refine wpAny_of_eq (t := Bind.madeBy (.type _)) (a := some "object.__new__") (by kernel_rfl!) ?_ | refine wpAny_of_eq (t := Builtin.notOverATurnedClass _) (a := ()) (by kernel_rfl!) ?_ | refine wpAny_of_eq (t := Builtin.Slots.bestBase _) (a := .type "object") (by kernel_rfl!) ?_ | refine wpAny_of_eq (t := Builtin.Slots.slotNamesOf (.type _)) (a := []) (by kernel_rfl!) ?_ | refine wpAny_of_eq (t := Builtin.Slots.givesDict (.type _)) (a := false) (by kernel_rfl!) ?_ | refine wpAny_of_eq (t := Builtin.Slots.givesWeak (.type _)) (a := false) (by kernel_rfl!) ?_ | refine wpAny_of_eq (t := Builtin.Slots.varSize (.type _)) (a := false) (by kernel_rfl!) ?_ | refine wpAny_of_eq (t := isSubtype (.type _) (.type _)) (a := true) (by kernel_rfl!) ?_ | refine wpAny_of_eq (t := isType (.type _)) (a := true) (by kernel_rfl!) ?_ | refine wpAny_of_eq (t := typeOf (.type _)) (a := .type "type") (by kernel_rfl!) ?_ | refine wpAny_of_eq (t := typeLookup (.type _) _) (a := some (.builtin "dict.__iter__")) (by kernel_rfl!) ?_ | refine wpAny_of_eq (t := typeLookup (.type _) _) (a := none) (by kernel_rfl!) ?_) | with_reducible (first | refine wpAny_pure ?_ | refine wpAny_bind ?_ | refine wpAny_holding ?_ | refine wpAny_standAt ?_ | refine wpAny_point ?_ | refine wpAny_rule ?_ | refine wpAny_letGo ?_ | refine wpAny_tryCatch ?_ | refine wpAny_mkInt' ?_ | refine wpAny_fresh' ?_ | refine wpAny_attempt ?_ | refine wpAny_of_eq (by assumption) ?_) | ((with_reducible refine' wpAny_mkStr' (hx := ?mX) ?_); (case mX => size_fits)) | ((with_reducible refine' m_alloc ?mD ?mf ?_); (case mD => assumption); (case mf => rfl); intro _ _ _) | ((with_reducible (first | apply wpAny_load' | apply wpAny_loadPart')); focus ((first | assumption | (refine' Mem.at (h := _) ?mD 0 _ _ ?me; (case mD => assumption); (case me => rfl)) | (refine' Mem.at (h := _) ?mD 1 _ _ ?me; (case mD => assumption); (case me => rfl)) | (refine' Mem.at (h := _) ?mD 2 _ _ ?me; (case mD => assumption); (case me => rfl)) | (refine' Mem.at (h := _) ?mD 3 _ _ ?me; (case mD => assumption); (case me => rfl)) | (refine' m_old ?mD ?me; (case mD => assumption); (case me => assumption))); done)) | ((with_reducible refine' m_nsGet none ?mh ?mv ?_); (case mh => (first | assumption | (refine' Mem.at (h := _) ?mD 0 _ _ ?me; (case mD => assumption); (case me => rfl)) | (refine' Mem.at (h := _) ?mD 1 _ _ ?me; (case mD => assumption); (case me => rfl)) | (refine' Mem.at (h := _) ?mD 2 _ _ ?me; (case mD => assumption); (case me => rfl)) | (refine' Mem.at (h := _) ?mD 3 _ _ ?me; (case mD => assumption); (case me => rfl)) | (refine' m_old ?mD ?me; (case mD => assumption); (case me => assumption)))); (case mv => kernel_rfl!)) | ((with_reducible apply wpAny_ite_false); focus (first | (simp only [List.any_toArray]; kernel_rfl!) | (simp only [sizeLine_eq]; simp; done) | kernel_rfl! | simp [*]; done)) | ((with_reducible apply wpAny_ite_true); focus (first | (simp only [List.any_toArray]; kernel_rfl!) | (simp only [sizeLine_eq]; simp; done) | kernel_rfl! | simp [*]; done)) | ((with_reducible show wpAny _ _ (collect _) _ _ _); refine m_collect (vs := [_]) (by assumption) (by assumption) ?_ (by simp [sizeLine_eq]); intro _ _) | with_reducible_and_instances refine wpAny_pure ?_ | with_reducible_and_instances refine wpAny_bind ?_) | ((fail_if_success (first | (with_reducible show wpAny _ _ (nsGet _ _) _ _ _) | (with_reducible show wpAny _ _ (nsSet _ _ _) _ _ _) | (with_reducible show wpAny _ _ (nsDel _ _) _ _ _) | (with_reducible show wpAny _ _ (typeLookup _ _) _ _ _) | (with_reducible show wpAny _ _ (Sem.tryCatch _ _) _ _ _) | (with_reducible show wpAny _ _ (getAttr? _ _) _ _ _) | (with_reducible show wpAny _ _ (classCode _ _ _ _ _ _) _ _ _) | (with_reducible show wpAny _ _ (builtinsFor _ _) _ _ _) | (with_reducible show wpAny _ _ (newBodyFrame _ _ _ _) _ _ _) | (with_reducible show wpAny _ _ (enterFrame) _ _ _) | (with_reducible show wpAny _ _ (run _) _ _ _) | (with_reducible show wpAny _ _ (storeName _ _ _) _ _ _) | (with_reducible show wpAny _ _ (loadName _ _) _ _ _) | (with_reducible show wpAny _ _ (call _ _) _ _ _) | (with_reducible show wpAny _ _ (call _ _ _) _ _ _) | (with_reducible show wpAny _ _ (notTheModulesDict _ _) _ _ _) | (with_reducible show wpAny _ _ (specialOf _ _) _ _ _) | (with_reducible show wpAny _ _ (newTuple _) _ _ _) | (with_reducible show wpAny _ _ (newTextTuple _) _ _ _) | (with_reducible show wpAny _ _ (buildClassGuard _) _ _ _) | (with_reducible show wpAny _ _ (bindName _ _ _) _ _ _) | (with_reducible show wpAny _ _ (buildClass _ _ _ _ _ _ _ _ _ _ _) _ _ _) | (with_reducible show wpAny _ _ (Sem.onRaise _ _) _ _ _))); wp_delta)))
  unfold loadName
  (repeat (first | (first | with_reducible (first | refine wpAny_of_eq (t := Builtin.extendedBase _) (a := .type "object") (by kernel_rfl!) ?_ | refine wpAny_of_eq (t := Bind.madeBy (.type _)) (a := some "object.__new__") (by kernel_rfl!) ?_ | refine wpAny_of_eq (t := Builtin.notOverATurnedClass _) (a := ()) (by kernel_rfl!) ?_ | refine wpAny_of_eq (t := Builtin.Slots.bestBase _) (a := .type "object") (by kernel_rfl!) ?_ | refine wpAny_of_eq (t := Builtin.Slots.slotNamesOf (.type _)) (a := []) (by kernel_rfl!) ?_ | refine wpAny_of_eq (t := Builtin.Slots.givesDict (.type _)) (a := false) (by kernel_rfl!) ?_ | refine wpAny_of_eq (t := Builtin.Slots.givesWeak (.type _)) (a := false) (by kernel_rfl!) ?_ | refine wpAny_of_eq (t := Builtin.Slots.varSize (.type _)) (a := false) (by kernel_rfl!) ?_ | refine wpAny_of_eq (t := isSubtype (.type _) (.type _)) (a := true) (by kernel_rfl!) ?_ | refine wpAny_of_eq (t := isType (.type _)) (a := true) (by kernel_rfl!) ?_ | refine wpAny_of_eq (t := typeOf (.type _)) (a := .type "type") (by kernel_rfl!) ?_ | refine wpAny_of_eq (t := typeLookup (.type _) _) (a := some (.builtin "dict.__iter__")) (by kernel_rfl!) ?_ | refine wpAny_of_eq (t := typeLookup (.type _) _) (a := none) (by kernel_rfl!) ?_) | with_reducible (first | refine wpAny_pure ?_ | refine wpAny_bind ?_ | refine wpAny_holding ?_ | refine wpAny_standAt ?_ | refine wpAny_point ?_ | refine wpAny_rule ?_ | refine wpAny_letGo ?_ | refine wpAny_tryCatch ?_ | refine wpAny_mkInt' ?_ | refine wpAny_fresh' ?_ | refine wpAny_attempt ?_ | refine wpAny_of_eq (by assumption) ?_) | ((with_reducible refine' wpAny_mkStr' (hx := ?mX) ?_); (case mX => size_fits)) | ((with_reducible refine' m_alloc ?mD ?mf ?_); (case mD => assumption); (case mf => rfl); intro _ _ _) | ((with_reducible (first | apply wpAny_load' | apply wpAny_loadPart')); focus ((first | assumption | (refine' Mem.at (h := _) ?mD 0 _ _ ?me; (case mD => assumption); (case me => rfl)) | (refine' Mem.at (h := _) ?mD 1 _ _ ?me; (case mD => assumption); (case me => rfl)) | (refine' Mem.at (h := _) ?mD 2 _ _ ?me; (case mD => assumption); (case me => rfl)) | (refine' Mem.at (h := _) ?mD 3 _ _ ?me; (case mD => assumption); (case me => rfl)) | (refine' m_old ?mD ?me; (case mD => assumption); (case me => assumption))); done)) | ((with_reducible refine' m_nsGet none ?mh ?mv ?_); (case mh => (first | assumption | (refine' Mem.at (h := _) ?mD 0 _ _ ?me; (case mD => assumption); (case me => rfl)) | (refine' Mem.at (h := _) ?mD 1 _ _ ?me; (case mD => assumption); (case me => rfl)) | (refine' Mem.at (h := _) ?mD 2 _ _ ?me; (case mD => assumption); (case me => rfl)) | (refine' Mem.at (h := _) ?mD 3 _ _ ?me; (case mD => assumption); (case me => rfl)) | (refine' m_old ?mD ?me; (case mD => assumption); (case me => assumption)))); (case mv => kernel_rfl!)) | ((with_reducible apply wpAny_ite_false); focus (first | (simp only [List.any_toArray]; kernel_rfl!) | (simp only [sizeLine_eq]; simp; done) | kernel_rfl! | simp [*]; done)) | ((with_reducible apply wpAny_ite_true); focus (first | (simp only [List.any_toArray]; kernel_rfl!) | (simp only [sizeLine_eq]; simp; done) | kernel_rfl! | simp [*]; done)) | ((with_reducible show wpAny _ _ (collect _) _ _ _); refine m_collect (vs := [_]) (by assumption) (by assumption) ?_ (by simp [sizeLine_eq]); intro _ _) | with_reducible_and_instances refine wpAny_pure ?_ | with_reducible_and_instances refine wpAny_bind ?_) | ((fail_if_success (first | (with_reducible show wpAny _ _ (nsGet _ _) _ _ _) | (with_reducible show wpAny _ _ (nsSet _ _ _) _ _ _) | (with_reducible show wpAny _ _ (nsDel _ _) _ _ _) | (with_reducible show wpAny _ _ (typeLookup _ _) _ _ _) | (with_reducible show wpAny _ _ (Sem.tryCatch _ _) _ _ _) | (with_reducible show wpAny _ _ (getAttr? _ _) _ _ _) | (with_reducible show wpAny _ _ (classCode _ _ _ _ _ _) _ _ _) | (with_reducible show wpAny _ _ (builtinsFor _ _) _ _ _) | (with_reducible show wpAny _ _ (newBodyFrame _ _ _ _) _ _ _) | (with_reducible show wpAny _ _ (enterFrame) _ _ _) | (with_reducible show wpAny _ _ (run _) _ _ _) | (with_reducible show wpAny _ _ (storeName _ _ _) _ _ _) | (with_reducible show wpAny _ _ (loadName _ _) _ _ _) | (with_reducible show wpAny _ _ (call _ _) _ _ _) | (with_reducible show wpAny _ _ (call _ _ _) _ _ _) | (with_reducible show wpAny _ _ (notTheModulesDict _ _) _ _ _) | (with_reducible show wpAny _ _ (specialOf _ _) _ _ _) | (with_reducible show wpAny _ _ (newTuple _) _ _ _) | (with_reducible show wpAny _ _ (newTextTuple _) _ _ _) | (with_reducible show wpAny _ _ (buildClassGuard _) _ _ _) | (with_reducible show wpAny _ _ (bindName _ _ _) _ _ _) | (with_reducible show wpAny _ _ (buildClass _ _ _ _ _ _ _ _ _ _ _) _ _ _) | (with_reducible show wpAny _ _ (Sem.onRaise _ _) _ _ _))); wp_delta)))
  refine m_nsGet none (X 3 _ rfl) (by kernel_rfl!) ?_
  (repeat (first | (first | with_reducible (first | refine wpAny_of_eq (t := Builtin.extendedBase _) (a := .type "object") (by kernel_rfl!) ?_ | refine wpAny_of_eq (t := Bind.madeBy (.type _)) (a := some "object.__new__") (by kernel_rfl!) ?_ | refine wpAny_of_eq (t := Builtin.notOverATurnedClass _) (a := ()) (by kernel_rfl!) ?_ | refine wpAny_of_eq (t := Builtin.Slots.bestBase _) (a := .type "object") (by kernel_rfl!) ?_ | refine wpAny_of_eq (t := Builtin.Slots.slotNamesOf (.type _)) (a := []) (by kernel_rfl!) ?_ | refine wpAny_of_eq (t := Builtin.Slots.givesDict (.type _)) (a := false) (by kernel_rfl!) ?_ | refine wpAny_of_eq (t := Builtin.Slots.givesWeak (.type _)) (a := false) (by kernel_rfl!) ?_ | refine wpAny_of_eq (t := Builtin.Slots.varSize (.type _)) (a := false) (by kernel_rfl!) ?_ | refine wpAny_of_eq (t := isSubtype (.type _) (.type _)) (a := true) (by kernel_rfl!) ?_ | refine wpAny_of_eq (t := isType (.type _)) (a := true) (by kernel_rfl!) ?_ | refine wpAny_of_eq (t := typeOf (.type _)) (a := .type "type") (by kernel_rfl!) ?_ | refine wpAny_of_eq (t := typeLookup (.type _) _) (a := some (.builtin "dict.__iter__")) (by kernel_rfl!) ?_ | refine wpAny_of_eq (t := typeLookup (.type _) _) (a := none) (by kernel_rfl!) ?_) | with_reducible (first | refine wpAny_pure ?_ | refine wpAny_bind ?_ | refine wpAny_holding ?_ | refine wpAny_standAt ?_ | refine wpAny_point ?_ | refine wpAny_rule ?_ | refine wpAny_letGo ?_ | refine wpAny_tryCatch ?_ | refine wpAny_mkInt' ?_ | refine wpAny_fresh' ?_ | refine wpAny_attempt ?_ | refine wpAny_of_eq (by assumption) ?_) | ((with_reducible refine' wpAny_mkStr' (hx := ?mX) ?_); (case mX => size_fits)) | ((with_reducible refine' m_alloc ?mD ?mf ?_); (case mD => assumption); (case mf => rfl); intro _ _ _) | ((with_reducible (first | apply wpAny_load' | apply wpAny_loadPart')); focus ((first | assumption | (refine' Mem.at (h := _) ?mD 0 _ _ ?me; (case mD => assumption); (case me => rfl)) | (refine' Mem.at (h := _) ?mD 1 _ _ ?me; (case mD => assumption); (case me => rfl)) | (refine' Mem.at (h := _) ?mD 2 _ _ ?me; (case mD => assumption); (case me => rfl)) | (refine' Mem.at (h := _) ?mD 3 _ _ ?me; (case mD => assumption); (case me => rfl)) | (refine' m_old ?mD ?me; (case mD => assumption); (case me => assumption))); done)) | ((with_reducible refine' m_nsGet none ?mh ?mv ?_); (case mh => (first | assumption | (refine' Mem.at (h := _) ?mD 0 _ _ ?me; (case mD => assumption); (case me => rfl)) | (refine' Mem.at (h := _) ?mD 1 _ _ ?me; (case mD => assumption); (case me => rfl)) | (refine' Mem.at (h := _) ?mD 2 _ _ ?me; (case mD => assumption); (case me => rfl)) | (refine' Mem.at (h := _) ?mD 3 _ _ ?me; (case mD => assumption); (case me => rfl)) | (refine' m_old ?mD ?me; (case mD => assumption); (case me => assumption)))); (case mv => kernel_rfl!)) | ((with_reducible apply wpAny_ite_false); focus (first | (simp only [List.any_toArray]; kernel_rfl!) | (simp only [sizeLine_eq]; simp; done) | kernel_rfl! | simp [*]; done)) | ((with_reducible apply wpAny_ite_true); focus (first | (simp only [List.any_toArray]; kernel_rfl!) | (simp only [sizeLine_eq]; simp; done) | kernel_rfl! | simp [*]; done)) | ((with_reducible show wpAny _ _ (collect _) _ _ _); refine m_collect (vs := [_]) (by assumption) (by assumption) ?_ (by simp [sizeLine_eq]); intro _ _) | with_reducible_and_instances refine wpAny_pure ?_ | with_reducible_and_instances refine wpAny_bind ?_) | ((fail_if_success (first | (with_reducible show wpAny _ _ (nsGet _ _) _ _ _) | (with_reducible show wpAny _ _ (nsSet _ _ _) _ _ _) | (with_reducible show wpAny _ _ (nsDel _ _) _ _ _) | (with_reducible show wpAny _ _ (typeLookup _ _) _ _ _) | (with_reducible show wpAny _ _ (Sem.tryCatch _ _) _ _ _) | (with_reducible show wpAny _ _ (getAttr? _ _) _ _ _) | (with_reducible show wpAny _ _ (classCode _ _ _ _ _ _) _ _ _) | (with_reducible show wpAny _ _ (builtinsFor _ _) _ _ _) | (with_reducible show wpAny _ _ (newBodyFrame _ _ _ _) _ _ _) | (with_reducible show wpAny _ _ (enterFrame) _ _ _) | (with_reducible show wpAny _ _ (run _) _ _ _) | (with_reducible show wpAny _ _ (storeName _ _ _) _ _ _) | (with_reducible show wpAny _ _ (loadName _ _) _ _ _) | (with_reducible show wpAny _ _ (call _ _) _ _ _) | (with_reducible show wpAny _ _ (call _ _ _) _ _ _) | (with_reducible show wpAny _ _ (notTheModulesDict _ _) _ _ _) | (with_reducible show wpAny _ _ (specialOf _ _) _ _ _) | (with_reducible show wpAny _ _ (newTuple _) _ _ _) | (with_reducible show wpAny _ _ (newTextTuple _) _ _ _) | (with_reducible show wpAny _ _ (buildClassGuard _) _ _ _) | (with_reducible show wpAny _ _ (bindName _ _ _) _ _ _) | (with_reducible show wpAny _ _ (buildClass _ _ _ _ _ _ _ _ _ _ _) _ _ _) | (with_reducible show wpAny _ _ (Sem.onRaise _ _) _ _ _))); wp_delta)))
  refine wpAny_nsGet T.b ?_
  rw [hbo]
  (repeat (first | (first | with_reducible (first | refine wpAny_of_eq (t := Builtin.extendedBase _) (a := .type "object") (by kernel_rfl!) ?_ | refine wpAny_of_eq (t := Bind.madeBy (.type _)) (a := some "object.__new__") (by kernel_rfl!) ?_ | refine wpAny_of_eq (t := Builtin.notOverATurnedClass _) (a := ()) (by kernel_rfl!) ?_ | refine wpAny_of_eq (t := Builtin.Slots.bestBase _) (a := .type "object") (by kernel_rfl!) ?_ | refine wpAny_of_eq (t := Builtin.Slots.slotNamesOf (.type _)) (a := []) (by kernel_rfl!) ?_ | refine wpAny_of_eq (t := Builtin.Slots.givesDict (.type _)) (a := false) (by kernel_rfl!) ?_ | refine wpAny_of_eq (t := Builtin.Slots.givesWeak (.type _)) (a := false) (by kernel_rfl!) ?_ | refine wpAny_of_eq (t := Builtin.Slots.varSize (.type _)) (a := false) (by kernel_rfl!) ?_ | refine wpAny_of_eq (t := isSubtype (.type _) (.type _)) (a := true) (by kernel_rfl!) ?_ | refine wpAny_of_eq (t := isType (.type _)) (a := true) (by kernel_rfl!) ?_ | refine wpAny_of_eq (t := typeOf (.type _)) (a := .type "type") (by kernel_rfl!) ?_ | refine wpAny_of_eq (t := typeLookup (.type _) _) (a := some (.builtin "dict.__iter__")) (by kernel_rfl!) ?_ | refine wpAny_of_eq (t := typeLookup (.type _) _) (a := none) (by kernel_rfl!) ?_) | with_reducible (first | refine wpAny_pure ?_ | refine wpAny_bind ?_ | refine wpAny_holding ?_ | refine wpAny_standAt ?_ | refine wpAny_point ?_ | refine wpAny_rule ?_ | refine wpAny_letGo ?_ | refine wpAny_tryCatch ?_ | refine wpAny_mkInt' ?_ | refine wpAny_fresh' ?_ | refine wpAny_attempt ?_ | refine wpAny_of_eq (by assumption) ?_) | ((with_reducible refine' wpAny_mkStr' (hx := ?mX) ?_); (case mX => size_fits)) | ((with_reducible refine' m_alloc ?mD ?mf ?_); (case mD => assumption); (case mf => rfl); intro _ _ _) | ((with_reducible (first | apply wpAny_load' | apply wpAny_loadPart')); focus ((first | assumption | (refine' Mem.at (h := _) ?mD 0 _ _ ?me; (case mD => assumption); (case me => rfl)) | (refine' Mem.at (h := _) ?mD 1 _ _ ?me; (case mD => assumption); (case me => rfl)) | (refine' Mem.at (h := _) ?mD 2 _ _ ?me; (case mD => assumption); (case me => rfl)) | (refine' Mem.at (h := _) ?mD 3 _ _ ?me; (case mD => assumption); (case me => rfl)) | (refine' m_old ?mD ?me; (case mD => assumption); (case me => assumption))); done)) | ((with_reducible refine' m_nsGet none ?mh ?mv ?_); (case mh => (first | assumption | (refine' Mem.at (h := _) ?mD 0 _ _ ?me; (case mD => assumption); (case me => rfl)) | (refine' Mem.at (h := _) ?mD 1 _ _ ?me; (case mD => assumption); (case me => rfl)) | (refine' Mem.at (h := _) ?mD 2 _ _ ?me; (case mD => assumption); (case me => rfl)) | (refine' Mem.at (h := _) ?mD 3 _ _ ?me; (case mD => assumption); (case me => rfl)) | (refine' m_old ?mD ?me; (case mD => assumption); (case me => assumption)))); (case mv => kernel_rfl!)) | ((with_reducible apply wpAny_ite_false); focus (first | (simp only [List.any_toArray]; kernel_rfl!) | (simp only [sizeLine_eq]; simp; done) | kernel_rfl! | simp [*]; done)) | ((with_reducible apply wpAny_ite_true); focus (first | (simp only [List.any_toArray]; kernel_rfl!) | (simp only [sizeLine_eq]; simp; done) | kernel_rfl! | simp [*]; done)) | ((with_reducible show wpAny _ _ (collect _) _ _ _); refine m_collect (vs := [_]) (by assumption) (by assumption) ?_ (by simp [sizeLine_eq]); intro _ _) | with_reducible_and_instances refine wpAny_pure ?_ | with_reducible_and_instances refine wpAny_bind ?_) | ((fail_if_success (first | (with_reducible show wpAny _ _ (nsGet _ _) _ _ _) | (with_reducible show wpAny _ _ (nsSet _ _ _) _ _ _) | (with_reducible show wpAny _ _ (nsDel _ _) _ _ _) | (with_reducible show wpAny _ _ (typeLookup _ _) _ _ _) | (with_reducible show wpAny _ _ (Sem.tryCatch _ _) _ _ _) | (with_reducible show wpAny _ _ (getAttr? _ _) _ _ _) | (with_reducible show wpAny _ _ (classCode _ _ _ _ _ _) _ _ _) | (with_reducible show wpAny _ _ (builtinsFor _ _) _ _ _) | (with_reducible show wpAny _ _ (newBodyFrame _ _ _ _) _ _ _) | (with_reducible show wpAny _ _ (enterFrame) _ _ _) | (with_reducible show wpAny _ _ (run _) _ _ _) | (with_reducible show wpAny _ _ (storeName _ _ _) _ _ _) | (with_reducible show wpAny _ _ (loadName _ _) _ _ _) | (with_reducible show wpAny _ _ (call _ _) _ _ _) | (with_reducible show wpAny _ _ (call _ _ _) _ _ _) | (with_reducible show wpAny _ _ (notTheModulesDict _ _) _ _ _) | (with_reducible show wpAny _ _ (specialOf _ _) _ _ _) | (with_reducible show wpAny _ _ (newTuple _) _ _ _) | (with_reducible show wpAny _ _ (newTextTuple _) _ _ _) | (with_reducible show wpAny _ _ (buildClassGuard _) _ _ _) | (with_reducible show wpAny _ _ (bindName _ _ _) _ _ _) | (with_reducible show wpAny _ _ (buildClass _ _ _ _ _ _ _ _ _ _ _) _ _ _) | (with_reducible show wpAny _ _ (Sem.onRaise _ _) _ _ _))); wp_delta)))
  show wpAny _ _ (buildClass (Str.ofString "K") (Str.ofString "cmp_to_key.<locals>.K") [.type "object"] [] kBody kScope kStat 18 (kEnv L) kPos none) _ _ _
  refine wpAny_mono hB (fun c s' hc => ?_) (fun _ _ z => z)
  (repeat (first | (first | with_reducible (first | refine wpAny_of_eq (t := Builtin.extendedBase _) (a := .type "object") (by kernel_rfl!) ?_ | refine wpAny_of_eq (t := Bind.madeBy (.type _)) (a := some "object.__new__") (by kernel_rfl!) ?_ | refine wpAny_of_eq (t := Builtin.notOverATurnedClass _) (a := ()) (by kernel_rfl!) ?_ | refine wpAny_of_eq (t := Builtin.Slots.bestBase _) (a := .type "object") (by kernel_rfl!) ?_ | refine wpAny_of_eq (t := Builtin.Slots.slotNamesOf (.type _)) (a := []) (by kernel_rfl!) ?_ | refine wpAny_of_eq (t := Builtin.Slots.givesDict (.type _)) (a := false) (by kernel_rfl!) ?_ | refine wpAny_of_eq (t := Builtin.Slots.givesWeak (.type _)) (a := false) (by kernel_rfl!) ?_ | refine wpAny_of_eq (t := Builtin.Slots.varSize (.type _)) (a := false) (by kernel_rfl!) ?_ | refine wpAny_of_eq (t := isSubtype (.type _) (.type _)) (a := true) (by kernel_rfl!) ?_ | refine wpAny_of_eq (t := isType (.type _)) (a := true) (by kernel_rfl!) ?_ | refine wpAny_of_eq (t := typeOf (.type _)) (a := .type "type") (by kernel_rfl!) ?_ | refine wpAny_of_eq (t := typeLookup (.type _) _) (a := some (.builtin "dict.__iter__")) (by kernel_rfl!) ?_ | refine wpAny_of_eq (t := typeLookup (.type _) _) (a := none) (by kernel_rfl!) ?_) | with_reducible (first | refine wpAny_pure ?_ | refine wpAny_bind ?_ | refine wpAny_holding ?_ | refine wpAny_standAt ?_ | refine wpAny_point ?_ | refine wpAny_rule ?_ | refine wpAny_letGo ?_ | refine wpAny_tryCatch ?_ | refine wpAny_mkInt' ?_ | refine wpAny_fresh' ?_ | refine wpAny_attempt ?_ | refine wpAny_of_eq (by assumption) ?_) | ((with_reducible refine' wpAny_mkStr' (hx := ?mX) ?_); (case mX => size_fits)) | ((with_reducible refine' m_alloc ?mD ?mf ?_); (case mD => assumption); (case mf => rfl); intro _ _ _) | ((with_reducible (first | apply wpAny_load' | apply wpAny_loadPart')); focus ((first | assumption | (refine' Mem.at (h := _) ?mD 0 _ _ ?me; (case mD => assumption); (case me => rfl)) | (refine' Mem.at (h := _) ?mD 1 _ _ ?me; (case mD => assumption); (case me => rfl)) | (refine' Mem.at (h := _) ?mD 2 _ _ ?me; (case mD => assumption); (case me => rfl)) | (refine' Mem.at (h := _) ?mD 3 _ _ ?me; (case mD => assumption); (case me => rfl)) | (refine' m_old ?mD ?me; (case mD => assumption); (case me => assumption))); done)) | ((with_reducible refine' m_nsGet none ?mh ?mv ?_); (case mh => (first | assumption | (refine' Mem.at (h := _) ?mD 0 _ _ ?me; (case mD => assumption); (case me => rfl)) | (refine' Mem.at (h := _) ?mD 1 _ _ ?me; (case mD => assumption); (case me => rfl)) | (refine' Mem.at (h := _) ?mD 2 _ _ ?me; (case mD => assumption); (case me => rfl)) | (refine' Mem.at (h := _) ?mD 3 _ _ ?me; (case mD => assumption); (case me => rfl)) | (refine' m_old ?mD ?me; (case mD => assumption); (case me => assumption)))); (case mv => kernel_rfl!)) | ((with_reducible apply wpAny_ite_false); focus (first | (simp only [List.any_toArray]; kernel_rfl!) | (simp only [sizeLine_eq]; simp; done) | kernel_rfl! | simp [*]; done)) | ((with_reducible apply wpAny_ite_true); focus (first | (simp only [List.any_toArray]; kernel_rfl!) | (simp only [sizeLine_eq]; simp; done) | kernel_rfl! | simp [*]; done)) | ((with_reducible show wpAny _ _ (collect _) _ _ _); refine m_collect (vs := [_]) (by assumption) (by assumption) ?_ (by simp [sizeLine_eq]); intro _ _) | with_reducible_and_instances refine wpAny_pure ?_ | with_reducible_and_instances refine wpAny_bind ?_) | ((fail_if_success (first | (with_reducible show wpAny _ _ (nsGet _ _) _ _ _) | (with_reducible show wpAny _ _ (nsSet _ _ _) _ _ _) | (with_reducible show wpAny _ _ (nsDel _ _) _ _ _) | (with_reducible show wpAny _ _ (typeLookup _ _) _ _ _) | (with_reducible show wpAny _ _ (Sem.tryCatch _ _) _ _ _) | (with_reducible show wpAny _ _ (getAttr? _ _) _ _ _) | (with_reducible show wpAny _ _ (classCode _ _ _ _ _ _) _ _ _) | (with_reducible show wpAny _ _ (builtinsFor _ _) _ _ _) | (with_reducible show wpAny _ _ (newBodyFrame _ _ _ _) _ _ _) | (with_reducible show wpAny _ _ (enterFrame) _ _ _) | (with_reducible show wpAny _ _ (run _) _ _ _) | (with_reducible show wpAny _ _ (storeName _ _ _) _ _ _) | (with_reducible show wpAny _ _ (loadName _ _) _ _ _) | (with_reducible show wpAny _ _ (call _ _) _ _ _) | (with_reducible show wpAny _ _ (call _ _ _) _ _ _) | (with_reducible show wpAny _ _ (notTheModulesDict _ _) _ _ _) | (with_reducible show wpAny _ _ (specialOf _ _) _ _ _) | (with_reducible show wpAny _ _ (newTuple _) _ _ _) | (with_reducible show wpAny _ _ (newTextTuple _) _ _ _) | (with_reducible show wpAny _ _ (buildClassGuard _) _ _ _) | (with_reducible show wpAny _ _ (bindName _ _ _) _ _ _) | (with_reducible show wpAny _ _ (buildClass _ _ _ _ _ _ _ _ _ _ _) _ _ _) | (with_reducible show wpAny _ _ (Sem.onRaise _ _) _ _ _))); wp_delta)))
  exact wpAny_mono hc (fun _ s'' z => wpAny_pure z) (fun _ _ z => z)
end
theorem fl25 : True := by w_top off; first | walk1 | trivial
section
open PySem PySem.W PyProof.Rows PySem.Calls PySem.Spec PySem.SeqAt
open PySem.W.X (Mem)
set_option maxHeartbeats 4000000
variable {w : World}
theorem Kco.but2 {h h' : Heap} {c P a b : Addr} {ps : List Value} (x : Kco h c P ps) (hk : ∀ y o, y ≠ a → y ≠ b → h.get? y = some o → h'.get? y = some o) (h1 : c ≠ a) (h2 : P ≠ a) (h3 : c ≠ b) (h4 : P ≠ b) : Kco h' c P ps := by
  obtain ⟨o, vs, file, tf, flags, tg, inF, text, tt, op, e1, r1, r2, r3, r4, r5, r6, e2, r⟩ := x.code
  obtain ⟨⟨oc, vc, e3, r7⟩, e4⟩ := x.tab
  exact ⟨⟨o, vs, file, tf, flags, tg, inF, text, tt, op, hk _ _ h1 h3 e1, r1, r2, r3, r4, r5, r6, hk _ _ h2 h4 e2, r⟩, ⟨oc, vc, hk _ _ h1 h3 e3, r7⟩, hk _ _ h2 h4 e4⟩
theorem m_trans {g0 h h' : Heap} {news news' : List (Addr × Obj)} (D : Mem g0 h [] news) (D' : Mem h h' [] news') : Mem g0 h' [] news :=
  ⟨fun b o e q => m_old D' (m_old D e), fun p hp => (nomatch hp), List.nodup_nil, fun p hp => ⟨m_old D' (D.nw p hp).1, (D.nw p hp).2⟩, D.ord⟩
theorem m_stayed {g0 h h' : Heap} {news : List (Addr × Obj)} (D : Mem g0 h [] news) (k : h.StaysIn h') : Mem g0 h' [] news :=
  ⟨fun b o e q => k _ _ (m_old D e), fun p hp => (nomatch hp), List.nodup_nil, fun p hp => ⟨k _ _ (D.nw p hp).1, (D.nw p hp).2⟩, D.ord⟩
noncomputable def T30 (h : Heap) : Prop := Kco h 34 30 [] ∨ ∃ cK PK cs, Kco h 34 30 [rawInt (18 : Nat), rawInt (4 : Nat), .ref cK] ∧ Kco h cK PK (tri kLines cs) ∧ cs.length = 6 ∧ ∀ j c, cs[j]? = some c → Crt h c (kQ j)
noncomputable def T30s (cK PK : Addr) (h : Heap) : Prop := ∃ cs, Kco h 34 30 [rawInt (18 : Nat), rawInt (4 : Nat), .ref cK] ∧ Kco h cK PK (tri kLines cs) ∧ cs.length = 6 ∧ ∀ j c, cs[j]? = some c → Crt h c (kQ j)
theorem T30s.keeps {c P : Addr} {h h' : Heap} (t : T30s c P h) (k : h.StaysIn h') : T30s c P h' := by
  obtain ⟨cs, k1, k2, k3, k4⟩ := t
  exact ⟨cs, k1.keeps k, k2.keeps k, k3, fun j c hj => (k4 j c hj).keeps k⟩
theorem T30s.t30 {c P : Addr} {h : Heap} (t : T30s c P h) : T30 h := let ⟨cs, r⟩ := t; .inr ⟨c, P, cs, r⟩
theorem tab_inj {h : Heap} {P : Addr} {ps ps' : Array Value} (a : h.get? P = some { cls := .none, data := .fields ps }) (b : h.get? P = some { cls := .none, data := .fields ps' }) : ps = ps' := by
  rw [a] at b; cases b; rfl
theorem T30s.not {c P : Addr} {h : Heap} (t : T30s c P h) (k : Kco h 34 30 []) : False := by
  obtain ⟨cs, k1, _⟩ := t
  have := tab_inj k1.tab.2 k.tab.2
  simp at this
theorem T30s.one {c P c' P' : Addr} {h : Heap} (t : T30s c P h) (t' : T30s c' P' h) : c' = c ∧ P' = P := by
  obtain ⟨cs, k1, k2, _⟩ := t
  obtain ⟨cs', k1', k2', _⟩ := t'
  have e := tab_inj k1.tab.2 k1'.tab.2
  have ec : c = c' := by simpa using e
  subst ec
  obtain ⟨o, vs, e1, _, d1, p1⟩ := k2.tab.1
  obtain ⟨o', vs', e2, _, d2, p2⟩ := k2'.tab.1
  rw [e1] at e2; cases e2
  rw [d1] at d2; cases d2
  rw [p1] at p2; cases p2
  exact ⟨rfl, rfl⟩
noncomputable def T30n (h h' : Heap) : Prop := ∃ cK PK, T30s cK PK h' ∧ (∀ c P, T30s c P h → c = cK ∧ P = PK) ∧ (Kco h 34 30 [] → h.get? cK = none ∧ h.get? PK = none)
theorem none_of_le {h : Heap} {a : Addr} (k : h.objs.size ≤ a) : h.get? a = none := by
  cases q : h.get? a with
  | none => rfl
  | some o => exact absurd (Heap.lt_size q) (Nat.not_lt.mpr k)
theorem none_back {h h' : Heap} {a : Addr} (k : h.StaysIn h') (e : h'.get? a = none) : h.get? a = none := by
  cases q : h.get? a with
  | none => rfl
  | some o => rw [k _ _ q] at e; cases e
theorem T30n.back {h h₁ h₂ : Heap} (k : h.StaysIn h₁) (t : T30n h₁ h₂) : T30n h h₂ :=
  let ⟨cK, PK, a, b, d⟩ := t
  ⟨cK, PK, a, fun c P e => b c P (e.keeps k), fun e => let ⟨x, y⟩ := d (e.keeps k); ⟨none_back k x, none_back k y⟩⟩
theorem ccode30 {M : Model} {A : Around} {E : Value → Shared → Prop} {Q : Value → Shared → Prop} {g0 h : Heap} {news : List (Addr × Obj)} {g : Array GenState} {d : Drawn} {t : Nat} {os : OsState} {L : Addr} {nm qn : Str}
    (D : Mem g0 h [] news) (hn : ∀ p ∈ news, p.2.cls ≠ .none) (h30 : g0.get? 30 = none) (t30 : T30 h)
    (x : ∀ cK PK cs h' t', Mem g0 h' [] news → Kst g0 h' cK PK 0 cs → Kco h' 34 30 [rawInt (18 : Nat), rawInt (4 : Nat), .ref cK] → PK ≠ 30 → (∀ b o, b ≠ 30 → h.get? b = some o → h'.get? b = some o) → ((∀ c P, T30s c P h → c = cK ∧ P = PK) ∧ (Kco h 34 30 [] → h.get? cK = none ∧ h.get? PK = none)) → Q (.ref cK) ⟨h', g, d, t', os⟩) :
    wpAny M A (classCode (kEnv L) kPos 18 nm qn kScope) Q E ⟨h, g, d, t, os⟩ := by
  rcases t30 with t30 | ⟨cK, PK, cs, k1, k2, k3, k4⟩
  · refine ccode (c := 34) (P := 30) (ps := []) rfl t30 (.inr ⟨rfl, fun c' P' h' tk hx hP' hc' hk hk' hr => ?_⟩)
    have h30s : 30 < h.objs.size := Heap.lt_size t30.tab.2
    have hg : g0.get? P' = none := by
      cases q : g0.get? P' with
      | none => rfl
      | some o => exact absurd (Heap.lt_size (m_old D q)) (Nat.not_lt.mpr hP')
    refine x c' P' [] h' tk (m_extBut D hx h30 (m_apart D t30 hn)) ⟨hk', fun j c hj => by simp at hj, .inr ⟨rfl, hg⟩⟩ ?_ (Nat.ne_of_gt (Nat.lt_of_lt_of_le h30s hP')) hx ⟨fun c P ts => (ts.not t30).elim, fun _ => ⟨none_of_le hc', none_of_le hP'⟩⟩
    have e : ([] : List Value) ++ [rawInt kPos.line, rawInt kPos.col, .ref c'] = [rawInt (18 : Nat), rawInt (4 : Nat), .ref c'] := by rw [kPos_eq]; rfl
    rw [e] at hk
    exact hk
  · refine ccode (c := 34) (P := 30) rfl k1 (.inl ⟨cK, by rw [kPos_eq]; rfl, fun tk => ?_⟩)
    refine x cK PK cs h tk D ⟨k2, k4, .inl k3⟩ k1 (fun q => ?_) (fun _ _ _ e => e) ⟨fun c P ts => T30s.one ⟨cs, k1, k2, k3, k4⟩ ts, fun k => (T30s.not (c := cK) (P := PK) ⟨cs, k1, k2, k3, k4⟩ k).elim⟩
    subst q
    have e := Option.some.inj (k1.tab.2.symm.trans k2.tab.2)
    have e2 : [rawInt (18 : Nat), rawInt (4 : Nat), Value.ref cK] = tri kLines cs := by
      have := congrArg Obj.data e
      simpa using this
    cases cs with
    | nil => simp at k3
    | cons c cs => simp [kLines, tri, rawInt] at e2
theorem T30.keeps {h h' : Heap} (t : T30 h) (k : h.StaysIn h') : T30 h' := by
  rcases t with t | ⟨cK, PK, cs, k1, k2, k3, k4⟩
  · exact .inl (t.keeps k)
  · exact .inr ⟨cK, PK, cs, k1.keeps k, k2.keeps k, k3, fun j c hj => (k4 j c hj).keeps k⟩
theorem m_forget {g0 h : Heap} {news : List (Addr × Obj)} (D : Mem g0 h [] news) : Mem g0 h [] [] := ⟨D.keep, D.ch, D.cd, fun p hp => (nomatch hp), List.Pairwise.nil⟩
inductive KIs (P : Params) (h : Heap) (c cell nd : Addr) : Prop
  | mk (md bT : Addr) (K : KD) (tk t : Tok) (ct0 ct1 pm0 pm1 : Value) (c0 c1 : Addr) :
  h.get? c = some (kCls nd [.ref c, .type "object"] [Str.ofString "obj"] (kSlots bT tk K.t3)) →
  h.get? nd = some (kOwn P K [ent P "obj" (t + 1) (.ref md), ent P "__doc__" (t + 2) .none] 3) →
  h.get? md = some (kMem c t) →
  h.get? K.f1 = some (kFun (fN 0) (kQ 0) (fA 0) (fB 0) (fS 0) [] ct0 (.ref c0) pm0) →
  h.get? K.f2 = some (kFun (fN 1) (kQ 1) (fA 1) (fB 1) (fS 1) [(Str.ofString "mycmp", cell)] ct1 (.ref c1) pm1) →
  Crt h c0 (kQ 0) →
  Crt h c1 (kQ 1) → KIs P h c cell nd
set_option maxHeartbeats 40000000 in
theorem bld {A : Around} {E : Value → Shared → Prop} {Q : Value → Shared → Prop} {mean : ExcName → Option Value} {mg mb : Str → Option Value} {g0 h : Heap} {g : Array GenState} {d : Drawn} {t : Nat} {os : OsState} {L : Addr}
    (D : Mem g0 h [] []) (X : (_root_.Mine.hd.heap_1_1 w.params).In g0) (T : Top topProg LL mean mg mb g0) (t30 : T30 h) (h30 : g0.get? 30 = none) (hh : A.handled = none) (hd : A.depth ≤ 340) (hu : A.units ≤ 55)
    (hq : ∀ c nd h' t', KIs w.params h' c (L + 1) nd → g0.get? nd = none → T30n h h' → Mem g0 h' [] [] → Q (.ref c) ⟨h', g, d, t', os⟩) :
    wpAny (model PySem.Challenge.rw_ny0140_01.row.prog w) A (buildClass (Str.ofString "K") (Str.ofString "cmp_to_key.<locals>.K") [.type "object"] [] kBody kScope kStat 18 (kEnv L) kPos none) Q E ⟨h, g, d, t, os⟩ := by
  unfold buildClass
  refine wpAny_bind (wpAny_newTuple ?_ (by simp [sizeLine_eq]))
  have D1 := m_push (o := { cls := .type "tuple", data := .seq #[.type "object"] 0 }) D rfl
  have D1k : h.StaysIn (h.push { cls := .type "tuple", data := .seq #[.type "object"] 0 }) := fun b o e => Heap.get?_push_of_some _ e
  show wpAny _ _ _ _ _ (⟨h.push { cls := .type "tuple", data := .seq #[.type "object"] 0 }, g, d, t, os⟩ : Shared)
  generalize h.push { cls := .type "tuple", data := .seq #[.type "object"] 0 } = h1 at D1 D1k
  show wpAny _ _ ((fun givenT => _) (Value.ref h.objs.size)) _ _ _
  generalize h.objs.size = bT at D1
  (repeat (first | (first | with_reducible (first | refine wpAny_of_eq (t := Builtin.extendedBase _) (a := .type "object") (by kernel_rfl!) ?_ | refine wpAny_of_eq (t := Bind.madeBy (.type _)) (a := some "object.__new__") (by kernel_rfl!) ?_ | refine wpAny_of_eq (t := Builtin.notOverATurnedClass _) (a := ()) (by kernel_rfl!) ?_ | refine wpAny_of_eq (t := Builtin.Slots.bestBase _) (a := .type "object") (by kernel_rfl!) ?_ | refine wpAny_of_eq (t := Builtin.Slots.slotNamesOf (.type _)) (a := []) (by kernel_rfl!) ?_ | refine wpAny_of_eq (t := Builtin.Slots.givesDict (.type _)) (a := false) (by kernel_rfl!) ?_ | refine wpAny_of_eq (t := Builtin.Slots.givesWeak (.type _)) (a := false) (by kernel_rfl!) ?_ | refine wpAny_of_eq (t := Builtin.Slots.varSize (.type _)) (a := false) (by kernel_rfl!) ?_ | refine wpAny_of_eq (t := isSubtype (.type _) (.type _)) (a := true) (by kernel_rfl!) ?_ | refine wpAny_of_eq (t := isType (.type _)) (a := true) (by kernel_rfl!) ?_ | refine wpAny_of_eq (t := typeOf (.type _)) (a := .type "type") (by kernel_rfl!) ?_ | refine wpAny_of_eq (t := typeLookup (.type _) _) (a := some (.builtin "dict.__iter__")) (by kernel_rfl!) ?_ | refine wpAny_of_eq (t := typeLookup (.type _) _) (a := none) (by kernel_rfl!) ?_) | with_reducible (first | refine wpAny_pure ?_ | refine wpAny_bind ?_ | refine wpAny_holding ?_ | refine wpAny_standAt ?_ | refine wpAny_point ?_ | refine wpAny_rule ?_ | refine wpAny_letGo ?_ | refine wpAny_tryCatch ?_ | refine wpAny_mkInt' ?_ | refine wpAny_fresh' ?_ | refine wpAny_attempt ?_ | refine wpAny_of_eq (by assumption) ?_) | ((with_reducible refine' wpAny_mkStr' (hx := ?mX) ?_); (case mX => size_fits)) | ((with_reducible refine' m_alloc ?mD ?mf ?_); (case mD => assumption); (case mf => rfl); intro _ _ _) | ((with_reducible (first | apply wpAny_load' | apply wpAny_loadPart')); focus ((first | assumption | (refine' Mem.at (h := _) ?mD 0 _ _ ?me; (case mD => assumption); (case me => rfl)) | (refine' Mem.at (h := _) ?mD 1 _ _ ?me; (case mD => assumption); (case me => rfl)) | (refine' Mem.at (h := _) ?mD 2 _ _ ?me; (case mD => assumption); (case me => rfl)) | (refine' Mem.at (h := _) ?mD 3 _ _ ?me; (case mD => assumption); (case me => rfl)) | (refine' m_old ?mD ?me; (case mD => assumption); (case me => assumption))); done)) | ((with_reducible refine' m_nsGet none ?mh ?mv ?_); (case mh => (first | assumption | (refine' Mem.at (h := _) ?mD 0 _ _ ?me; (case mD => assumption); (case me => rfl)) | (refine' Mem.at (h := _) ?mD 1 _ _ ?me; (case mD => assumption); (case me => rfl)) | (refine' Mem.at (h := _) ?mD 2 _ _ ?me; (case mD => assumption); (case me => rfl)) | (refine' Mem.at (h := _) ?mD 3 _ _ ?me; (case mD => assumption); (case me => rfl)) | (refine' m_old ?mD ?me; (case mD => assumption); (case me => assumption)))); (case mv => kernel_rfl!)) | ((with_reducible apply wpAny_ite_false); focus (first | (simp only [List.any_toArray]; kernel_rfl!) | (simp only [sizeLine_eq]; simp; done) | kernel_rfl! | simp [*]; done)) | ((with_reducible apply wpAny_ite_true); focus (first | (simp only [List.any_toArray]; kernel_rfl!) | (simp only [sizeLine_eq]; simp; done) | kernel_rfl! | simp [*]; done)) | ((with_reducible show wpAny _ _ (collect _) _ _ _); refine m_collect (vs := [_]) (by assumption) (by assumption) ?_ (by simp [sizeLine_eq]); intro _ _) | with_reducible_and_instances refine wpAny_pure ?_ | with_reducible_and_instances refine wpAny_bind ?_) | ((fail_if_success (first | (with_reducible show wpAny _ _ (nsGet _ _) _ _ _) | (with_reducible show wpAny _ _ (nsSet _ _ _) _ _ _) | (with_reducible show wpAny _ _ (nsDel _ _) _ _ _) | (with_reducible show wpAny _ _ (typeLookup _ _) _ _ _) | (with_reducible show wpAny _ _ (Sem.tryCatch _ _) _ _ _) | (with_reducible show wpAny _ _ (getAttr? _ _) _ _ _) | (with_reducible show wpAny _ _ (classCode _ _ _ _ _ _) _ _ _) | (with_reducible show wpAny _ _ (builtinsFor _ _) _ _ _) | (with_reducible show wpAny _ _ (newBodyFrame _ _ _ _) _ _ _) | (with_reducible show wpAny _ _ (enterFrame) _ _ _) | (with_reducible show wpAny _ _ (run _) _ _ _) | (with_reducible show wpAny _ _ (storeName _ _ _) _ _ _) | (with_reducible show wpAny _ _ (loadName _ _) _ _ _) | (with_reducible show wpAny _ _ (call _ _) _ _ _) | (with_reducible show wpAny _ _ (call _ _ _) _ _ _) | (with_reducible show wpAny _ _ (notTheModulesDict _ _) _ _ _) | (with_reducible show wpAny _ _ (specialOf _ _) _ _ _) | (with_reducible show wpAny _ _ (newTuple _) _ _ _) | (with_reducible show wpAny _ _ (newTextTuple _) _ _ _) | (with_reducible show wpAny _ _ (buildClassGuard _) _ _ _) | (with_reducible show wpAny _ _ (bindName _ _ _) _ _ _) | (with_reducible show wpAny _ _ (buildClass _ _ _ _ _ _ _ _ _ _ _) _ _ _) | (with_reducible show wpAny _ _ (Sem.onRaise _ _) _ _ _))); wp_delta)))
  refine prep_getattr hh hd (by omega) fun b2 h2 t2 D2 => ?_
  (repeat (first | (first | with_reducible (first | refine wpAny_of_eq (t := Builtin.extendedBase _) (a := .type "object") (by kernel_rfl!) ?_ | refine wpAny_of_eq (t := Bind.madeBy (.type _)) (a := some "object.__new__") (by kernel_rfl!) ?_ | refine wpAny_of_eq (t := Builtin.notOverATurnedClass _) (a := ()) (by kernel_rfl!) ?_ | refine wpAny_of_eq (t := Builtin.Slots.bestBase _) (a := .type "object") (by kernel_rfl!) ?_ | refine wpAny_of_eq (t := Builtin.Slots.slotNamesOf (.type _)) (a := []) (by kernel_rfl!) ?_ | refine wpAny_of_eq (t := Builtin.Slots.givesDict (.type _)) (a := false) (by kernel_rfl!) ?_ | refine wpAny_of_eq (t := Builtin.Slots.givesWeak (.type _)) (a := false) (by kernel_rfl!) ?_ | refine wpAny_of_eq (t := Builtin.Slots.varSize (.type _)) (a := false) (by kernel_rfl!) ?_ | refine wpAny_of_eq (t := isSubtype (.type _) (.type _)) (a := true) (by kernel_rfl!) ?_ | refine wpAny_of_eq (t := isType (.type _)) (a := true) (by kernel_rfl!) ?_ | refine wpAny_of_eq (t := typeOf (.type _)) (a := .type "type") (by kernel_rfl!) ?_ | refine wpAny_of_eq (t := typeLookup (.type _) _) (a := some (.builtin "dict.__iter__")) (by kernel_rfl!) ?_ | refine wpAny_of_eq (t := typeLookup (.type _) _) (a := none) (by kernel_rfl!) ?_) | with_reducible (first | refine wpAny_pure ?_ | refine wpAny_bind ?_ | refine wpAny_holding ?_ | refine wpAny_standAt ?_ | refine wpAny_point ?_ | refine wpAny_rule ?_ | refine wpAny_letGo ?_ | refine wpAny_tryCatch ?_ | refine wpAny_mkInt' ?_ | refine wpAny_fresh' ?_ | refine wpAny_attempt ?_ | refine wpAny_of_eq (by assumption) ?_) | ((with_reducible refine' wpAny_mkStr' (hx := ?mX) ?_); (case mX => size_fits)) | ((with_reducible refine' m_alloc ?mD ?mf ?_); (case mD => assumption); (case mf => rfl); intro _ _ _) | ((with_reducible (first | apply wpAny_load' | apply wpAny_loadPart')); focus ((first | assumption | (refine' Mem.at (h := _) ?mD 0 _ _ ?me; (case mD => assumption); (case me => rfl)) | (refine' Mem.at (h := _) ?mD 1 _ _ ?me; (case mD => assumption); (case me => rfl)) | (refine' Mem.at (h := _) ?mD 2 _ _ ?me; (case mD => assumption); (case me => rfl)) | (refine' Mem.at (h := _) ?mD 3 _ _ ?me; (case mD => assumption); (case me => rfl)) | (refine' m_old ?mD ?me; (case mD => assumption); (case me => assumption))); done)) | ((with_reducible refine' m_nsGet none ?mh ?mv ?_); (case mh => (first | assumption | (refine' Mem.at (h := _) ?mD 0 _ _ ?me; (case mD => assumption); (case me => rfl)) | (refine' Mem.at (h := _) ?mD 1 _ _ ?me; (case mD => assumption); (case me => rfl)) | (refine' Mem.at (h := _) ?mD 2 _ _ ?me; (case mD => assumption); (case me => rfl)) | (refine' Mem.at (h := _) ?mD 3 _ _ ?me; (case mD => assumption); (case me => rfl)) | (refine' m_old ?mD ?me; (case mD => assumption); (case me => assumption)))); (case mv => kernel_rfl!)) | ((with_reducible apply wpAny_ite_false); focus (first | (simp only [List.any_toArray]; kernel_rfl!) | (simp only [sizeLine_eq]; simp; done) | kernel_rfl! | simp [*]; done)) | ((with_reducible apply wpAny_ite_true); focus (first | (simp only [List.any_toArray]; kernel_rfl!) | (simp only [sizeLine_eq]; simp; done) | kernel_rfl! | simp [*]; done)) | ((with_reducible show wpAny _ _ (collect _) _ _ _); refine m_collect (vs := [_]) (by assumption) (by assumption) ?_ (by simp [sizeLine_eq]); intro _ _) | with_reducible_and_instances refine wpAny_pure ?_ | with_reducible_and_instances refine wpAny_bind ?_) | ((fail_if_success (first | (with_reducible show wpAny _ _ (nsGet _ _) _ _ _) | (with_reducible show wpAny _ _ (nsSet _ _ _) _ _ _) | (with_reducible show wpAny _ _ (nsDel _ _) _ _ _) | (with_reducible show wpAny _ _ (typeLookup _ _) _ _ _) | (with_reducible show wpAny _ _ (Sem.tryCatch _ _) _ _ _) | (with_reducible show wpAny _ _ (getAttr? _ _) _ _ _) | (with_reducible show wpAny _ _ (classCode _ _ _ _ _ _) _ _ _) | (with_reducible show wpAny _ _ (builtinsFor _ _) _ _ _) | (with_reducible show wpAny _ _ (newBodyFrame _ _ _ _) _ _ _) | (with_reducible show wpAny _ _ (enterFrame) _ _ _) | (with_reducible show wpAny _ _ (run _) _ _ _) | (with_reducible show wpAny _ _ (storeName _ _ _) _ _ _) | (with_reducible show wpAny _ _ (loadName _ _) _ _ _) | (with_reducible show wpAny _ _ (call _ _) _ _ _) | (with_reducible show wpAny _ _ (call _ _ _) _ _ _) | (with_reducible show wpAny _ _ (notTheModulesDict _ _) _ _ _) | (with_reducible show wpAny _ _ (specialOf _ _) _ _ _) | (with_reducible show wpAny _ _ (newTuple _) _ _ _) | (with_reducible show wpAny _ _ (newTextTuple _) _ _ _) | (with_reducible show wpAny _ _ (buildClassGuard _) _ _ _) | (with_reducible show wpAny _ _ (bindName _ _ _) _ _ _) | (with_reducible show wpAny _ _ (buildClass _ _ _ _ _ _ _ _ _ _ _) _ _ _) | (with_reducible show wpAny _ _ (Sem.onRaise _ _) _ _ _))); wp_delta)))
  show wpAny _ _ (call (.ref b2) [.str (Str.ofString "K") t, .ref bT]) _ _ _
  refine prep_call (D2.at 0 _ _ rfl) ?_
  have D1' := m_trans D1 D2
  have D3 := m_push (o := { cls := .type "dict", data := .dict #[] 0 }) D1' rfl
  have hne : h2.objs.size ≠ 1 := by
    have : (2 : Nat) < h2.objs.size := Heap.lt_size (m_old D1' (X 2 _ rfl))
    omega
  have kp : h2.StaysIn (h2.push { cls := .type "dict", data := .dict #[] 0 }) := fun b o e => Heap.get?_push_of_some _ e
  generalize h2.push { cls := .type "dict", data := .dict #[] 0 } = h3 at D3 kp
  generalize h2.objs.size = nd at D3 hne
  (repeat (first | (first | with_reducible (first | refine wpAny_of_eq (t := Builtin.extendedBase _) (a := .type "object") (by kernel_rfl!) ?_ | refine wpAny_of_eq (t := Bind.madeBy (.type _)) (a := some "object.__new__") (by kernel_rfl!) ?_ | refine wpAny_of_eq (t := Builtin.notOverATurnedClass _) (a := ()) (by kernel_rfl!) ?_ | refine wpAny_of_eq (t := Builtin.Slots.bestBase _) (a := .type "object") (by kernel_rfl!) ?_ | refine wpAny_of_eq (t := Builtin.Slots.slotNamesOf (.type _)) (a := []) (by kernel_rfl!) ?_ | refine wpAny_of_eq (t := Builtin.Slots.givesDict (.type _)) (a := false) (by kernel_rfl!) ?_ | refine wpAny_of_eq (t := Builtin.Slots.givesWeak (.type _)) (a := false) (by kernel_rfl!) ?_ | refine wpAny_of_eq (t := Builtin.Slots.varSize (.type _)) (a := false) (by kernel_rfl!) ?_ | refine wpAny_of_eq (t := isSubtype (.type _) (.type _)) (a := true) (by kernel_rfl!) ?_ | refine wpAny_of_eq (t := isType (.type _)) (a := true) (by kernel_rfl!) ?_ | refine wpAny_of_eq (t := typeOf (.type _)) (a := .type "type") (by kernel_rfl!) ?_ | refine wpAny_of_eq (t := typeLookup (.type _) _) (a := some (.builtin "dict.__iter__")) (by kernel_rfl!) ?_ | refine wpAny_of_eq (t := typeLookup (.type _) _) (a := none) (by kernel_rfl!) ?_) | with_reducible (first | refine wpAny_pure ?_ | refine wpAny_bind ?_ | refine wpAny_holding ?_ | refine wpAny_standAt ?_ | refine wpAny_point ?_ | refine wpAny_rule ?_ | refine wpAny_letGo ?_ | refine wpAny_tryCatch ?_ | refine wpAny_mkInt' ?_ | refine wpAny_fresh' ?_ | refine wpAny_attempt ?_ | refine wpAny_of_eq (by assumption) ?_) | ((with_reducible refine' wpAny_mkStr' (hx := ?mX) ?_); (case mX => size_fits)) | ((with_reducible refine' m_alloc ?mD ?mf ?_); (case mD => assumption); (case mf => rfl); intro _ _ _) | ((with_reducible (first | apply wpAny_load' | apply wpAny_loadPart')); focus ((first | assumption | (refine' Mem.at (h := _) ?mD 0 _ _ ?me; (case mD => assumption); (case me => rfl)) | (refine' Mem.at (h := _) ?mD 1 _ _ ?me; (case mD => assumption); (case me => rfl)) | (refine' Mem.at (h := _) ?mD 2 _ _ ?me; (case mD => assumption); (case me => rfl)) | (refine' Mem.at (h := _) ?mD 3 _ _ ?me; (case mD => assumption); (case me => rfl)) | (refine' m_old ?mD ?me; (case mD => assumption); (case me => assumption))); done)) | ((with_reducible refine' m_nsGet none ?mh ?mv ?_); (case mh => (first | assumption | (refine' Mem.at (h := _) ?mD 0 _ _ ?me; (case mD => assumption); (case me => rfl)) | (refine' Mem.at (h := _) ?mD 1 _ _ ?me; (case mD => assumption); (case me => rfl)) | (refine' Mem.at (h := _) ?mD 2 _ _ ?me; (case mD => assumption); (case me => rfl)) | (refine' Mem.at (h := _) ?mD 3 _ _ ?me; (case mD => assumption); (case me => rfl)) | (refine' m_old ?mD ?me; (case mD => assumption); (case me => assumption)))); (case mv => kernel_rfl!)) | ((with_reducible apply wpAny_ite_false); focus (first | (simp only [List.any_toArray]; kernel_rfl!) | (simp only [sizeLine_eq]; simp; done) | kernel_rfl! | simp [*]; done)) | ((with_reducible apply wpAny_ite_true); focus (first | (simp only [List.any_toArray]; kernel_rfl!) | (simp only [sizeLine_eq]; simp; done) | kernel_rfl! | simp [*]; done)) | ((with_reducible show wpAny _ _ (collect _) _ _ _); refine m_collect (vs := [_]) (by assumption) (by assumption) ?_ (by simp [sizeLine_eq]); intro _ _) | with_reducible_and_instances refine wpAny_pure ?_ | with_reducible_and_instances refine wpAny_bind ?_) | ((fail_if_success (first | (with_reducible show wpAny _ _ (nsGet _ _) _ _ _) | (with_reducible show wpAny _ _ (nsSet _ _ _) _ _ _) | (with_reducible show wpAny _ _ (nsDel _ _) _ _ _) | (with_reducible show wpAny _ _ (typeLookup _ _) _ _ _) | (with_reducible show wpAny _ _ (Sem.tryCatch _ _) _ _ _) | (with_reducible show wpAny _ _ (getAttr? _ _) _ _ _) | (with_reducible show wpAny _ _ (classCode _ _ _ _ _ _) _ _ _) | (with_reducible show wpAny _ _ (builtinsFor _ _) _ _ _) | (with_reducible show wpAny _ _ (newBodyFrame _ _ _ _) _ _ _) | (with_reducible show wpAny _ _ (enterFrame) _ _ _) | (with_reducible show wpAny _ _ (run _) _ _ _) | (with_reducible show wpAny _ _ (storeName _ _ _) _ _ _) | (with_reducible show wpAny _ _ (loadName _ _) _ _ _) | (with_reducible show wpAny _ _ (call _ _) _ _ _) | (with_reducible show wpAny _ _ (call _ _ _) _ _ _) | (with_reducible show wpAny _ _ (notTheModulesDict _ _) _ _ _) | (with_reducible show wpAny _ _ (specialOf _ _) _ _ _) | (with_reducible show wpAny _ _ (newTuple _) _ _ _) | (with_reducible show wpAny _ _ (newTextTuple _) _ _ _) | (with_reducible show wpAny _ _ (buildClassGuard _) _ _ _) | (with_reducible show wpAny _ _ (bindName _ _ _) _ _ _) | (with_reducible show wpAny _ _ (buildClass _ _ _ _ _ _ _ _ _ _ _) _ _ _) | (with_reducible show wpAny _ _ (Sem.onRaise _ _) _ _ _))); wp_delta)))
  unfold notTheModulesDict
  refine wpAny_ite_false (by simp [sysModules, hne]) (wpAny_pure ?_)
  (repeat (first | (first | with_reducible (first | refine wpAny_of_eq (t := Builtin.extendedBase _) (a := .type "object") (by kernel_rfl!) ?_ | refine wpAny_of_eq (t := Bind.madeBy (.type _)) (a := some "object.__new__") (by kernel_rfl!) ?_ | refine wpAny_of_eq (t := Builtin.notOverATurnedClass _) (a := ()) (by kernel_rfl!) ?_ | refine wpAny_of_eq (t := Builtin.Slots.bestBase _) (a := .type "object") (by kernel_rfl!) ?_ | refine wpAny_of_eq (t := Builtin.Slots.slotNamesOf (.type _)) (a := []) (by kernel_rfl!) ?_ | refine wpAny_of_eq (t := Builtin.Slots.givesDict (.type _)) (a := false) (by kernel_rfl!) ?_ | refine wpAny_of_eq (t := Builtin.Slots.givesWeak (.type _)) (a := false) (by kernel_rfl!) ?_ | refine wpAny_of_eq (t := Builtin.Slots.varSize (.type _)) (a := false) (by kernel_rfl!) ?_ | refine wpAny_of_eq (t := isSubtype (.type _) (.type _)) (a := true) (by kernel_rfl!) ?_ | refine wpAny_of_eq (t := isType (.type _)) (a := true) (by kernel_rfl!) ?_ | refine wpAny_of_eq (t := typeOf (.type _)) (a := .type "type") (by kernel_rfl!) ?_ | refine wpAny_of_eq (t := typeLookup (.type _) _) (a := some (.builtin "dict.__iter__")) (by kernel_rfl!) ?_ | refine wpAny_of_eq (t := typeLookup (.type _) _) (a := none) (by kernel_rfl!) ?_) | with_reducible (first | refine wpAny_pure ?_ | refine wpAny_bind ?_ | refine wpAny_holding ?_ | refine wpAny_standAt ?_ | refine wpAny_point ?_ | refine wpAny_rule ?_ | refine wpAny_letGo ?_ | refine wpAny_tryCatch ?_ | refine wpAny_mkInt' ?_ | refine wpAny_fresh' ?_ | refine wpAny_attempt ?_ | refine wpAny_of_eq (by assumption) ?_) | ((with_reducible refine' wpAny_mkStr' (hx := ?mX) ?_); (case mX => size_fits)) | ((with_reducible refine' m_alloc ?mD ?mf ?_); (case mD => assumption); (case mf => rfl); intro _ _ _) | ((with_reducible (first | apply wpAny_load' | apply wpAny_loadPart')); focus ((first | assumption | (refine' Mem.at (h := _) ?mD 0 _ _ ?me; (case mD => assumption); (case me => rfl)) | (refine' Mem.at (h := _) ?mD 1 _ _ ?me; (case mD => assumption); (case me => rfl)) | (refine' Mem.at (h := _) ?mD 2 _ _ ?me; (case mD => assumption); (case me => rfl)) | (refine' Mem.at (h := _) ?mD 3 _ _ ?me; (case mD => assumption); (case me => rfl)) | (refine' m_old ?mD ?me; (case mD => assumption); (case me => assumption))); done)) | ((with_reducible refine' m_nsGet none ?mh ?mv ?_); (case mh => (first | assumption | (refine' Mem.at (h := _) ?mD 0 _ _ ?me; (case mD => assumption); (case me => rfl)) | (refine' Mem.at (h := _) ?mD 1 _ _ ?me; (case mD => assumption); (case me => rfl)) | (refine' Mem.at (h := _) ?mD 2 _ _ ?me; (case mD => assumption); (case me => rfl)) | (refine' Mem.at (h := _) ?mD 3 _ _ ?me; (case mD => assumption); (case me => rfl)) | (refine' m_old ?mD ?me; (case mD => assumption); (case me => assumption)))); (case mv => kernel_rfl!)) | ((with_reducible apply wpAny_ite_false); focus (first | (simp only [List.any_toArray]; kernel_rfl!) | (simp only [sizeLine_eq]; simp; done) | kernel_rfl! | simp [*]; done)) | ((with_reducible apply wpAny_ite_true); focus (first | (simp only [List.any_toArray]; kernel_rfl!) | (simp only [sizeLine_eq]; simp; done) | kernel_rfl! | simp [*]; done)) | ((with_reducible show wpAny _ _ (collect _) _ _ _); refine m_collect (vs := [_]) (by assumption) (by assumption) ?_ (by simp [sizeLine_eq]); intro _ _) | with_reducible_and_instances refine wpAny_pure ?_ | with_reducible_and_instances refine wpAny_bind ?_) | ((fail_if_success (first | (with_reducible show wpAny _ _ (nsGet _ _) _ _ _) | (with_reducible show wpAny _ _ (nsSet _ _ _) _ _ _) | (with_reducible show wpAny _ _ (nsDel _ _) _ _ _) | (with_reducible show wpAny _ _ (typeLookup _ _) _ _ _) | (with_reducible show wpAny _ _ (Sem.tryCatch _ _) _ _ _) | (with_reducible show wpAny _ _ (getAttr? _ _) _ _ _) | (with_reducible show wpAny _ _ (classCode _ _ _ _ _ _) _ _ _) | (with_reducible show wpAny _ _ (builtinsFor _ _) _ _ _) | (with_reducible show wpAny _ _ (newBodyFrame _ _ _ _) _ _ _) | (with_reducible show wpAny _ _ (enterFrame) _ _ _) | (with_reducible show wpAny _ _ (run _) _ _ _) | (with_reducible show wpAny _ _ (storeName _ _ _) _ _ _) | (with_reducible show wpAny _ _ (loadName _ _) _ _ _) | (with_reducible show wpAny _ _ (call _ _) _ _ _) | (with_reducible show wpAny _ _ (call _ _ _) _ _ _) | (with_reducible show wpAny _ _ (notTheModulesDict _ _) _ _ _) | (with_reducible show wpAny _ _ (specialOf _ _) _ _ _) | (with_reducible show wpAny _ _ (newTuple _) _ _ _) | (with_reducible show wpAny _ _ (newTextTuple _) _ _ _) | (with_reducible show wpAny _ _ (buildClassGuard _) _ _ _) | (with_reducible show wpAny _ _ (bindName _ _ _) _ _ _) | (with_reducible show wpAny _ _ (buildClass _ _ _ _ _ _ _ _ _ _ _) _ _ _) | (with_reducible show wpAny _ _ (Sem.onRaise _ _) _ _ _))); wp_delta)))
  refine wpAny_specialOf (T := "dict") ⟨_, D3.at 0 _ _ rfl, rfl⟩ (r := some (.builtin "dict.__getitem__")) (by kernel_rfl!) ?_
  (repeat (first | (first | with_reducible (first | refine wpAny_of_eq (t := Builtin.extendedBase _) (a := .type "object") (by kernel_rfl!) ?_ | refine wpAny_of_eq (t := Bind.madeBy (.type _)) (a := some "object.__new__") (by kernel_rfl!) ?_ | refine wpAny_of_eq (t := Builtin.notOverATurnedClass _) (a := ()) (by kernel_rfl!) ?_ | refine wpAny_of_eq (t := Builtin.Slots.bestBase _) (a := .type "object") (by kernel_rfl!) ?_ | refine wpAny_of_eq (t := Builtin.Slots.slotNamesOf (.type _)) (a := []) (by kernel_rfl!) ?_ | refine wpAny_of_eq (t := Builtin.Slots.givesDict (.type _)) (a := false) (by kernel_rfl!) ?_ | refine wpAny_of_eq (t := Builtin.Slots.givesWeak (.type _)) (a := false) (by kernel_rfl!) ?_ | refine wpAny_of_eq (t := Builtin.Slots.varSize (.type _)) (a := false) (by kernel_rfl!) ?_ | refine wpAny_of_eq (t := isSubtype (.type _) (.type _)) (a := true) (by kernel_rfl!) ?_ | refine wpAny_of_eq (t := isType (.type _)) (a := true) (by kernel_rfl!) ?_ | refine wpAny_of_eq (t := typeOf (.type _)) (a := .type "type") (by kernel_rfl!) ?_ | refine wpAny_of_eq (t := typeLookup (.type _) _) (a := some (.builtin "dict.__iter__")) (by kernel_rfl!) ?_ | refine wpAny_of_eq (t := typeLookup (.type _) _) (a := none) (by kernel_rfl!) ?_) | with_reducible (first | refine wpAny_pure ?_ | refine wpAny_bind ?_ | refine wpAny_holding ?_ | refine wpAny_standAt ?_ | refine wpAny_point ?_ | refine wpAny_rule ?_ | refine wpAny_letGo ?_ | refine wpAny_tryCatch ?_ | refine wpAny_mkInt' ?_ | refine wpAny_fresh' ?_ | refine wpAny_attempt ?_ | refine wpAny_of_eq (by assumption) ?_) | ((with_reducible refine' wpAny_mkStr' (hx := ?mX) ?_); (case mX => size_fits)) | ((with_reducible refine' m_alloc ?mD ?mf ?_); (case mD => assumption); (case mf => rfl); intro _ _ _) | ((with_reducible (first | apply wpAny_load' | apply wpAny_loadPart')); focus ((first | assumption | (refine' Mem.at (h := _) ?mD 0 _ _ ?me; (case mD => assumption); (case me => rfl)) | (refine' Mem.at (h := _) ?mD 1 _ _ ?me; (case mD => assumption); (case me => rfl)) | (refine' Mem.at (h := _) ?mD 2 _ _ ?me; (case mD => assumption); (case me => rfl)) | (refine' Mem.at (h := _) ?mD 3 _ _ ?me; (case mD => assumption); (case me => rfl)) | (refine' m_old ?mD ?me; (case mD => assumption); (case me => assumption))); done)) | ((with_reducible refine' m_nsGet none ?mh ?mv ?_); (case mh => (first | assumption | (refine' Mem.at (h := _) ?mD 0 _ _ ?me; (case mD => assumption); (case me => rfl)) | (refine' Mem.at (h := _) ?mD 1 _ _ ?me; (case mD => assumption); (case me => rfl)) | (refine' Mem.at (h := _) ?mD 2 _ _ ?me; (case mD => assumption); (case me => rfl)) | (refine' Mem.at (h := _) ?mD 3 _ _ ?me; (case mD => assumption); (case me => rfl)) | (refine' m_old ?mD ?me; (case mD => assumption); (case me => assumption)))); (case mv => kernel_rfl!)) | ((with_reducible apply wpAny_ite_false); focus (first | (simp only [List.any_toArray]; kernel_rfl!) | (simp only [sizeLine_eq]; simp; done) | kernel_rfl! | simp [*]; done)) | ((with_reducible apply wpAny_ite_true); focus (first | (simp only [List.any_toArray]; kernel_rfl!) | (simp only [sizeLine_eq]; simp; done) | kernel_rfl! | simp [*]; done)) | ((with_reducible show wpAny _ _ (collect _) _ _ _); refine m_collect (vs := [_]) (by assumption) (by assumption) ?_ (by simp [sizeLine_eq]); intro _ _) | with_reducible_and_instances refine wpAny_pure ?_ | with_reducible_and_instances refine wpAny_bind ?_) | ((fail_if_success (first | (with_reducible show wpAny _ _ (nsGet _ _) _ _ _) | (with_reducible show wpAny _ _ (nsSet _ _ _) _ _ _) | (with_reducible show wpAny _ _ (nsDel _ _) _ _ _) | (with_reducible show wpAny _ _ (typeLookup _ _) _ _ _) | (with_reducible show wpAny _ _ (Sem.tryCatch _ _) _ _ _) | (with_reducible show wpAny _ _ (getAttr? _ _) _ _ _) | (with_reducible show wpAny _ _ (classCode _ _ _ _ _ _) _ _ _) | (with_reducible show wpAny _ _ (builtinsFor _ _) _ _ _) | (with_reducible show wpAny _ _ (newBodyFrame _ _ _ _) _ _ _) | (with_reducible show wpAny _ _ (enterFrame) _ _ _) | (with_reducible show wpAny _ _ (run _) _ _ _) | (with_reducible show wpAny _ _ (storeName _ _ _) _ _ _) | (with_reducible show wpAny _ _ (loadName _ _) _ _ _) | (with_reducible show wpAny _ _ (call _ _) _ _ _) | (with_reducible show wpAny _ _ (call _ _ _) _ _ _) | (with_reducible show wpAny _ _ (notTheModulesDict _ _) _ _ _) | (with_reducible show wpAny _ _ (specialOf _ _) _ _ _) | (with_reducible show wpAny _ _ (newTuple _) _ _ _) | (with_reducible show wpAny _ _ (newTextTuple _) _ _ _) | (with_reducible show wpAny _ _ (buildClassGuard _) _ _ _) | (with_reducible show wpAny _ _ (bindName _ _ _) _ _ _) | (with_reducible show wpAny _ _ (buildClass _ _ _ _ _ _ _ _ _ _ _) _ _ _) | (with_reducible show wpAny _ _ (Sem.onRaise _ _) _ _ _))); wp_delta)))
  refine ccode30 D3 (by simp) h30 (t30.keeps (fun b o e => kp _ _ (m_old D2 (D1k _ _ e)))) fun cK PK cs h4 t4 D4 S4 K30 hP30 kp4 new30 => ?_
  have st3 : h.StaysIn h3 := fun b o e => kp _ _ (m_old D2 (D1k _ _ e))
  have T4 := T.keeps (m_stays D4)
  obtain ⟨bm, ob, b1, b2, b3, b4, b5, b6⟩ := T4.bmain
  (repeat (first | (first | with_reducible (first | refine wpAny_of_eq (t := Builtin.extendedBase _) (a := .type "object") (by kernel_rfl!) ?_ | refine wpAny_of_eq (t := Bind.madeBy (.type _)) (a := some "object.__new__") (by kernel_rfl!) ?_ | refine wpAny_of_eq (t := Builtin.notOverATurnedClass _) (a := ()) (by kernel_rfl!) ?_ | refine wpAny_of_eq (t := Builtin.Slots.bestBase _) (a := .type "object") (by kernel_rfl!) ?_ | refine wpAny_of_eq (t := Builtin.Slots.slotNamesOf (.type _)) (a := []) (by kernel_rfl!) ?_ | refine wpAny_of_eq (t := Builtin.Slots.givesDict (.type _)) (a := false) (by kernel_rfl!) ?_ | refine wpAny_of_eq (t := Builtin.Slots.givesWeak (.type _)) (a := false) (by kernel_rfl!) ?_ | refine wpAny_of_eq (t := Builtin.Slots.varSize (.type _)) (a := false) (by kernel_rfl!) ?_ | refine wpAny_of_eq (t := isSubtype (.type _) (.type _)) (a := true) (by kernel_rfl!) ?_ | refine wpAny_of_eq (t := isType (.type _)) (a := true) (by kernel_rfl!) ?_ | refine wpAny_of_eq (t := typeOf (.type _)) (a := .type "type") (by kernel_rfl!) ?_ | refine wpAny_of_eq (t := typeLookup (.type _) _) (a := some (.builtin "dict.__iter__")) (by kernel_rfl!) ?_ | refine wpAny_of_eq (t := typeLookup (.type _) _) (a := none) (by kernel_rfl!) ?_) | with_reducible (first | refine wpAny_pure ?_ | refine wpAny_bind ?_ | refine wpAny_holding ?_ | refine wpAny_standAt ?_ | refine wpAny_point ?_ | refine wpAny_rule ?_ | refine wpAny_letGo ?_ | refine wpAny_tryCatch ?_ | refine wpAny_mkInt' ?_ | refine wpAny_fresh' ?_ | refine wpAny_attempt ?_ | refine wpAny_of_eq (by assumption) ?_) | ((with_reducible refine' wpAny_mkStr' (hx := ?mX) ?_); (case mX => size_fits)) | ((with_reducible refine' m_alloc ?mD ?mf ?_); (case mD => assumption); (case mf => rfl); intro _ _ _) | ((with_reducible (first | apply wpAny_load' | apply wpAny_loadPart')); focus ((first | assumption | (refine' Mem.at (h := _) ?mD 0 _ _ ?me; (case mD => assumption); (case me => rfl)) | (refine' Mem.at (h := _) ?mD 1 _ _ ?me; (case mD => assumption); (case me => rfl)) | (refine' Mem.at (h := _) ?mD 2 _ _ ?me; (case mD => assumption); (case me => rfl)) | (refine' Mem.at (h := _) ?mD 3 _ _ ?me; (case mD => assumption); (case me => rfl)) | (refine' m_old ?mD ?me; (case mD => assumption); (case me => assumption))); done)) | ((with_reducible refine' m_nsGet none ?mh ?mv ?_); (case mh => (first | assumption | (refine' Mem.at (h := _) ?mD 0 _ _ ?me; (case mD => assumption); (case me => rfl)) | (refine' Mem.at (h := _) ?mD 1 _ _ ?me; (case mD => assumption); (case me => rfl)) | (refine' Mem.at (h := _) ?mD 2 _ _ ?me; (case mD => assumption); (case me => rfl)) | (refine' Mem.at (h := _) ?mD 3 _ _ ?me; (case mD => assumption); (case me => rfl)) | (refine' m_old ?mD ?me; (case mD => assumption); (case me => assumption)))); (case mv => kernel_rfl!)) | ((with_reducible apply wpAny_ite_false); focus (first | (simp only [List.any_toArray]; kernel_rfl!) | (simp only [sizeLine_eq]; simp; done) | kernel_rfl! | simp [*]; done)) | ((with_reducible apply wpAny_ite_true); focus (first | (simp only [List.any_toArray]; kernel_rfl!) | (simp only [sizeLine_eq]; simp; done) | kernel_rfl! | simp [*]; done)) | ((with_reducible show wpAny _ _ (collect _) _ _ _); refine m_collect (vs := [_]) (by assumption) (by assumption) ?_ (by simp [sizeLine_eq]); intro _ _) | with_reducible_and_instances refine wpAny_pure ?_ | with_reducible_and_instances refine wpAny_bind ?_) | ((fail_if_success (first | (with_reducible show wpAny _ _ (nsGet _ _) _ _ _) | (with_reducible show wpAny _ _ (nsSet _ _ _) _ _ _) | (with_reducible show wpAny _ _ (nsDel _ _) _ _ _) | (with_reducible show wpAny _ _ (typeLookup _ _) _ _ _) | (with_reducible show wpAny _ _ (Sem.tryCatch _ _) _ _ _) | (with_reducible show wpAny _ _ (getAttr? _ _) _ _ _) | (with_reducible show wpAny _ _ (classCode _ _ _ _ _ _) _ _ _) | (with_reducible show wpAny _ _ (builtinsFor _ _) _ _ _) | (with_reducible show wpAny _ _ (newBodyFrame _ _ _ _) _ _ _) | (with_reducible show wpAny _ _ (enterFrame) _ _ _) | (with_reducible show wpAny _ _ (run _) _ _ _) | (with_reducible show wpAny _ _ (storeName _ _ _) _ _ _) | (with_reducible show wpAny _ _ (loadName _ _) _ _ _) | (with_reducible show wpAny _ _ (call _ _) _ _ _) | (with_reducible show wpAny _ _ (call _ _ _) _ _ _) | (with_reducible show wpAny _ _ (notTheModulesDict _ _) _ _ _) | (with_reducible show wpAny _ _ (specialOf _ _) _ _ _) | (with_reducible show wpAny _ _ (newTuple _) _ _ _) | (with_reducible show wpAny _ _ (newTextTuple _) _ _ _) | (with_reducible show wpAny _ _ (buildClassGuard _) _ _ _) | (with_reducible show wpAny _ _ (bindName _ _ _) _ _ _) | (with_reducible show wpAny _ _ (buildClass _ _ _ _ _ _ _ _ _ _ _) _ _ _) | (with_reducible show wpAny _ _ (Sem.onRaise _ _) _ _ _))); wp_delta)))
  refine wpAny_builtinsFor T4.g b1 b2 b3 b4 b5 b6 ?_
  (repeat (first | (first | with_reducible (first | refine wpAny_of_eq (t := Builtin.extendedBase _) (a := .type "object") (by kernel_rfl!) ?_ | refine wpAny_of_eq (t := Bind.madeBy (.type _)) (a := some "object.__new__") (by kernel_rfl!) ?_ | refine wpAny_of_eq (t := Builtin.notOverATurnedClass _) (a := ()) (by kernel_rfl!) ?_ | refine wpAny_of_eq (t := Builtin.Slots.bestBase _) (a := .type "object") (by kernel_rfl!) ?_ | refine wpAny_of_eq (t := Builtin.Slots.slotNamesOf (.type _)) (a := []) (by kernel_rfl!) ?_ | refine wpAny_of_eq (t := Builtin.Slots.givesDict (.type _)) (a := false) (by kernel_rfl!) ?_ | refine wpAny_of_eq (t := Builtin.Slots.givesWeak (.type _)) (a := false) (by kernel_rfl!) ?_ | refine wpAny_of_eq (t := Builtin.Slots.varSize (.type _)) (a := false) (by kernel_rfl!) ?_ | refine wpAny_of_eq (t := isSubtype (.type _) (.type _)) (a := true) (by kernel_rfl!) ?_ | refine wpAny_of_eq (t := isType (.type _)) (a := true) (by kernel_rfl!) ?_ | refine wpAny_of_eq (t := typeOf (.type _)) (a := .type "type") (by kernel_rfl!) ?_ | refine wpAny_of_eq (t := typeLookup (.type _) _) (a := some (.builtin "dict.__iter__")) (by kernel_rfl!) ?_ | refine wpAny_of_eq (t := typeLookup (.type _) _) (a := none) (by kernel_rfl!) ?_) | with_reducible (first | refine wpAny_pure ?_ | refine wpAny_bind ?_ | refine wpAny_holding ?_ | refine wpAny_standAt ?_ | refine wpAny_point ?_ | refine wpAny_rule ?_ | refine wpAny_letGo ?_ | refine wpAny_tryCatch ?_ | refine wpAny_mkInt' ?_ | refine wpAny_fresh' ?_ | refine wpAny_attempt ?_ | refine wpAny_of_eq (by assumption) ?_) | ((with_reducible refine' wpAny_mkStr' (hx := ?mX) ?_); (case mX => size_fits)) | ((with_reducible refine' m_alloc ?mD ?mf ?_); (case mD => assumption); (case mf => rfl); intro _ _ _) | ((with_reducible (first | apply wpAny_load' | apply wpAny_loadPart')); focus ((first | assumption | (refine' Mem.at (h := _) ?mD 0 _ _ ?me; (case mD => assumption); (case me => rfl)) | (refine' Mem.at (h := _) ?mD 1 _ _ ?me; (case mD => assumption); (case me => rfl)) | (refine' Mem.at (h := _) ?mD 2 _ _ ?me; (case mD => assumption); (case me => rfl)) | (refine' Mem.at (h := _) ?mD 3 _ _ ?me; (case mD => assumption); (case me => rfl)) | (refine' m_old ?mD ?me; (case mD => assumption); (case me => assumption))); done)) | ((with_reducible refine' m_nsGet none ?mh ?mv ?_); (case mh => (first | assumption | (refine' Mem.at (h := _) ?mD 0 _ _ ?me; (case mD => assumption); (case me => rfl)) | (refine' Mem.at (h := _) ?mD 1 _ _ ?me; (case mD => assumption); (case me => rfl)) | (refine' Mem.at (h := _) ?mD 2 _ _ ?me; (case mD => assumption); (case me => rfl)) | (refine' Mem.at (h := _) ?mD 3 _ _ ?me; (case mD => assumption); (case me => rfl)) | (refine' m_old ?mD ?me; (case mD => assumption); (case me => assumption)))); (case mv => kernel_rfl!)) | ((with_reducible apply wpAny_ite_false); focus (first | (simp only [List.any_toArray]; kernel_rfl!) | (simp only [sizeLine_eq]; simp; done) | kernel_rfl! | simp [*]; done)) | ((with_reducible apply wpAny_ite_true); focus (first | (simp only [List.any_toArray]; kernel_rfl!) | (simp only [sizeLine_eq]; simp; done) | kernel_rfl! | simp [*]; done)) | ((with_reducible show wpAny _ _ (collect _) _ _ _); refine m_collect (vs := [_]) (by assumption) (by assumption) ?_ (by simp [sizeLine_eq]); intro _ _) | with_reducible_and_instances refine wpAny_pure ?_ | with_reducible_and_instances refine wpAny_bind ?_) | ((fail_if_success (first | (with_reducible show wpAny _ _ (nsGet _ _) _ _ _) | (with_reducible show wpAny _ _ (nsSet _ _ _) _ _ _) | (with_reducible show wpAny _ _ (nsDel _ _) _ _ _) | (with_reducible show wpAny _ _ (typeLookup _ _) _ _ _) | (with_reducible show wpAny _ _ (Sem.tryCatch _ _) _ _ _) | (with_reducible show wpAny _ _ (getAttr? _ _) _ _ _) | (with_reducible show wpAny _ _ (classCode _ _ _ _ _ _) _ _ _) | (with_reducible show wpAny _ _ (builtinsFor _ _) _ _ _) | (with_reducible show wpAny _ _ (newBodyFrame _ _ _ _) _ _ _) | (with_reducible show wpAny _ _ (enterFrame) _ _ _) | (with_reducible show wpAny _ _ (run _) _ _ _) | (with_reducible show wpAny _ _ (storeName _ _ _) _ _ _) | (with_reducible show wpAny _ _ (loadName _ _) _ _ _) | (with_reducible show wpAny _ _ (call _ _) _ _ _) | (with_reducible show wpAny _ _ (call _ _ _) _ _ _) | (with_reducible show wpAny _ _ (notTheModulesDict _ _) _ _ _) | (with_reducible show wpAny _ _ (specialOf _ _) _ _ _) | (with_reducible show wpAny _ _ (newTuple _) _ _ _) | (with_reducible show wpAny _ _ (newTextTuple _) _ _ _) | (with_reducible show wpAny _ _ (buildClassGuard _) _ _ _) | (with_reducible show wpAny _ _ (bindName _ _ _) _ _ _) | (with_reducible show wpAny _ _ (buildClass _ _ _ _ _ _ _ _ _ _ _) _ _ _) | (with_reducible show wpAny _ _ (Sem.onRaise _ _) _ _ _))); wp_delta)))
  unfold newBodyFrame
  refine wpAny_bind (wpAny_nsGet T4.g ?_)
  refine wpAny_bind (wpAny_alloc ?_)
  have D5 := m_push (o := { cls := .type "frame", slots := #[some (.ref cK), some (.ref mainGlobals), some (.ref nd), none, some ((mg (Str.ofString "__name__")).getD .none), none, some (.ref builtinsNs)] }) D4 rfl
  have kp5 : h4.StaysIn (h4.push { cls := .type "frame", slots := #[some (.ref cK), some (.ref mainGlobals), some (.ref nd), none, some ((mg (Str.ofString "__name__")).getD .none), none, some (.ref builtinsNs)] }) := fun b o e => Heap.get?_push_of_some _ e
  refine wpAny_pure ?_
  show wpAny _ _ _ _ _ (⟨h4.push { cls := .type "frame", slots := #[some (.ref cK), some (.ref mainGlobals), some (.ref nd), none, some ((mg (Str.ofString "__name__")).getD .none), none, some (.ref builtinsNs)] }, g, d, t4, os⟩ : Shared)
  generalize h4.push { cls := .type "frame", slots := #[some (.ref cK), some (.ref mainGlobals), some (.ref nd), none, some ((mg (Str.ofString "__name__")).getD .none), none, some (.ref builtinsNs)] } = h5 at D5 kp5
  show wpAny _ _ ((fun fr => _) h4.objs.size) _ _ _
  generalize h4.objs.size = fr at D5
  (repeat (first | (first | with_reducible (first | refine wpAny_of_eq (t := Builtin.extendedBase _) (a := .type "object") (by kernel_rfl!) ?_ | refine wpAny_of_eq (t := Bind.madeBy (.type _)) (a := some "object.__new__") (by kernel_rfl!) ?_ | refine wpAny_of_eq (t := Builtin.notOverATurnedClass _) (a := ()) (by kernel_rfl!) ?_ | refine wpAny_of_eq (t := Builtin.Slots.bestBase _) (a := .type "object") (by kernel_rfl!) ?_ | refine wpAny_of_eq (t := Builtin.Slots.slotNamesOf (.type _)) (a := []) (by kernel_rfl!) ?_ | refine wpAny_of_eq (t := Builtin.Slots.givesDict (.type _)) (a := false) (by kernel_rfl!) ?_ | refine wpAny_of_eq (t := Builtin.Slots.givesWeak (.type _)) (a := false) (by kernel_rfl!) ?_ | refine wpAny_of_eq (t := Builtin.Slots.varSize (.type _)) (a := false) (by kernel_rfl!) ?_ | refine wpAny_of_eq (t := isSubtype (.type _) (.type _)) (a := true) (by kernel_rfl!) ?_ | refine wpAny_of_eq (t := isType (.type _)) (a := true) (by kernel_rfl!) ?_ | refine wpAny_of_eq (t := typeOf (.type _)) (a := .type "type") (by kernel_rfl!) ?_ | refine wpAny_of_eq (t := typeLookup (.type _) _) (a := some (.builtin "dict.__iter__")) (by kernel_rfl!) ?_ | refine wpAny_of_eq (t := typeLookup (.type _) _) (a := none) (by kernel_rfl!) ?_) | with_reducible (first | refine wpAny_pure ?_ | refine wpAny_bind ?_ | refine wpAny_holding ?_ | refine wpAny_standAt ?_ | refine wpAny_point ?_ | refine wpAny_rule ?_ | refine wpAny_letGo ?_ | refine wpAny_tryCatch ?_ | refine wpAny_mkInt' ?_ | refine wpAny_fresh' ?_ | refine wpAny_attempt ?_ | refine wpAny_of_eq (by assumption) ?_) | ((with_reducible refine' wpAny_mkStr' (hx := ?mX) ?_); (case mX => size_fits)) | ((with_reducible refine' m_alloc ?mD ?mf ?_); (case mD => assumption); (case mf => rfl); intro _ _ _) | ((with_reducible (first | apply wpAny_load' | apply wpAny_loadPart')); focus ((first | assumption | (refine' Mem.at (h := _) ?mD 0 _ _ ?me; (case mD => assumption); (case me => rfl)) | (refine' Mem.at (h := _) ?mD 1 _ _ ?me; (case mD => assumption); (case me => rfl)) | (refine' Mem.at (h := _) ?mD 2 _ _ ?me; (case mD => assumption); (case me => rfl)) | (refine' Mem.at (h := _) ?mD 3 _ _ ?me; (case mD => assumption); (case me => rfl)) | (refine' m_old ?mD ?me; (case mD => assumption); (case me => assumption))); done)) | ((with_reducible refine' m_nsGet none ?mh ?mv ?_); (case mh => (first | assumption | (refine' Mem.at (h := _) ?mD 0 _ _ ?me; (case mD => assumption); (case me => rfl)) | (refine' Mem.at (h := _) ?mD 1 _ _ ?me; (case mD => assumption); (case me => rfl)) | (refine' Mem.at (h := _) ?mD 2 _ _ ?me; (case mD => assumption); (case me => rfl)) | (refine' Mem.at (h := _) ?mD 3 _ _ ?me; (case mD => assumption); (case me => rfl)) | (refine' m_old ?mD ?me; (case mD => assumption); (case me => assumption)))); (case mv => kernel_rfl!)) | ((with_reducible apply wpAny_ite_false); focus (first | (simp only [List.any_toArray]; kernel_rfl!) | (simp only [sizeLine_eq]; simp; done) | kernel_rfl! | simp [*]; done)) | ((with_reducible apply wpAny_ite_true); focus (first | (simp only [List.any_toArray]; kernel_rfl!) | (simp only [sizeLine_eq]; simp; done) | kernel_rfl! | simp [*]; done)) | ((with_reducible show wpAny _ _ (collect _) _ _ _); refine m_collect (vs := [_]) (by assumption) (by assumption) ?_ (by simp [sizeLine_eq]); intro _ _) | with_reducible_and_instances refine wpAny_pure ?_ | with_reducible_and_instances refine wpAny_bind ?_) | ((fail_if_success (first | (with_reducible show wpAny _ _ (nsGet _ _) _ _ _) | (with_reducible show wpAny _ _ (nsSet _ _ _) _ _ _) | (with_reducible show wpAny _ _ (nsDel _ _) _ _ _) | (with_reducible show wpAny _ _ (typeLookup _ _) _ _ _) | (with_reducible show wpAny _ _ (Sem.tryCatch _ _) _ _ _) | (with_reducible show wpAny _ _ (getAttr? _ _) _ _ _) | (with_reducible show wpAny _ _ (classCode _ _ _ _ _ _) _ _ _) | (with_reducible show wpAny _ _ (builtinsFor _ _) _ _ _) | (with_reducible show wpAny _ _ (newBodyFrame _ _ _ _) _ _ _) | (with_reducible show wpAny _ _ (enterFrame) _ _ _) | (with_reducible show wpAny _ _ (run _) _ _ _) | (with_reducible show wpAny _ _ (storeName _ _ _) _ _ _) | (with_reducible show wpAny _ _ (loadName _ _) _ _ _) | (with_reducible show wpAny _ _ (call _ _) _ _ _) | (with_reducible show wpAny _ _ (call _ _ _) _ _ _) | (with_reducible show wpAny _ _ (notTheModulesDict _ _) _ _ _) | (with_reducible show wpAny _ _ (specialOf _ _) _ _ _) | (with_reducible show wpAny _ _ (newTuple _) _ _ _) | (with_reducible show wpAny _ _ (newTextTuple _) _ _ _) | (with_reducible show wpAny _ _ (buildClassGuard _) _ _ _) | (with_reducible show wpAny _ _ (bindName _ _ _) _ _ _) | (with_reducible show wpAny _ _ (buildClass _ _ _ _ _ _ _ _ _ _ _) _ _ _) | (with_reducible show wpAny _ _ (Sem.onRaise _ _) _ _ _))); wp_delta)))
  refine wpAny_enterFrame (T.keeps (m_stays D5)).nolimit (Nat.lt_of_le_of_lt hd (by decide)) ?_
  have hce : ({ scope := kScope, locals := nd, globals := (kEnv L).globals, cells := (Option.map (fun x => (Str.ofString "__class__", x)) none).toList ++ (Option.map (fun x => (Str.ofString "__classdict__", x)) none).toList ++ [(Str.ofString "mycmp", L + 1)], qual := Str.ofString "cmp_to_key.<locals>.K" ++ Str.ofString ".", code := .ref cK, frame := some fr, builtins := builtinsNs } : Env) = kCenv L nd fr cK := rfl
  rw [hce]
  have X5 := X.keeps (m_stays D5)
  have S5 := S4.keeps kp5
  have K5 := K30.keeps kp5
  have D5' := m_drop D5
  refine wpAny_bind (wpAny_onRaise ?_)
  refine wpAny_bind (cs_name D5' X5 0 rfl fun v1 => ?_)
  refine wpAny_bind ?_
  refine cs_store { cls := .type "dict", data := .dict #[ent w.params "__module__" t4 v1] 1 } D5' 0 rfl (.inl (by kernel_rfl!)) (by kernel_rfl!) (by kernel_rfl!) rfl fun h6 D6 k6 => ?_
  refine wpAny_bind (wpAny_mkText ?_)
  refine wpAny_bind ?_
  refine cs_store { cls := .type "dict", data := .dict #[ent w.params "__module__" t4 v1, ent w.params "__qualname__" (t4 + 1 + 1) (.str (Str.ofString "cmp_to_key.<locals>.K") (t4 + 1))] 2 } D6 0 rfl (.inr ⟨by kernel_rfl!, by kernel_rfl!⟩) (by kernel_rfl!) (by kernel_rfl!) rfl fun h7 D7 k7 => ?_
  refine wpAny_bind (wpAny_mkInt ?_)
  refine wpAny_bind ?_
  refine cs_store { cls := .type "dict", data := .dict #[ent w.params "__module__" t4 v1, ent w.params "__qualname__" (t4 + 1 + 1) (.str (Str.ofString "cmp_to_key.<locals>.K") (t4 + 1)), ent w.params "__firstlineno__" (t4 + 1 + 1 + 1 + 1) (.int 18 (t4 + 1 + 1 + 1))] 3 } D7 0 rfl (.inr ⟨by kernel_rfl!, by kernel_rfl!⟩) (by kernel_rfl!) (by kernel_rfl!) rfl fun h8 D8 k8 => ?_
  have nf : ∀ {es : Array DictEntry} {n : Nat} (vs : Array Value), ({ cls := .type "dict", data := .dict es n } : Obj).data ≠ .fields vs := fun vs q => by cases q
  have S8 := ((S5.but (D5'.at 0 _ _ rfl) nf k6).but (D6.at 0 _ _ rfl) nf k7).but (D7.at 0 _ _ rfl) nf k8
  have K8 := ((K5.but k6 (D5'.at 0 _ _ rfl) nf).but k7 (D6.at 0 _ _ rfl) nf).but k8 (D7.at 0 _ _ rfl) nf
  refine wpAny_pure ?_
  refine wpAny_bind (wpAny_run (codeAny_of_tree ?_))
  show wpAny _ _ (do blockStart kBody (kCenv L nd fr cK); return PySem.Fin.done (← (execs kBody (kCenv L nd fr cK)).onRaise (leaving (kCenv L nd fr cK)))) _ _ _
  refine wpAny_bind (wpAny_of_eq (a := ()) (by kernel_rfl!) ?_)
  refine wpAny_bind (wpAny_onRaise ?_)
  refine body_run D8 T S8 fun K ct0 ct1 pm0 pm1 c0 c1 cs' o2 o3 o4 o5 tj h9 t9 hKt2 hKt3 D9 hof S9 hc0 hc1 k9 => ?_
  refine wpAny_pure ?_
  have hP34 : (34 : Nat) ≠ PK := fun q => by
    have e1 := (S8.k.tab).2
    rw [← q, (m_old D8 (X 34 _ rfl))] at e1
    cases e1
  have hn34 : (34 : Nat) ≠ nd := fun q => by
    have e1 := D8.at 0 nd _ rfl
    rw [← q, (m_old D8 (X 34 _ rfl))] at e1
    exact absurd (congrArg (Option.map Obj.cls) e1) (by simp)
  have hn30 : (30 : Nat) ≠ nd := fun q => by
    have e1 := D8.at 0 nd _ rfl
    rw [← q, K8.tab.2] at e1
    cases e1
  have K9 : Kco h9 34 30 [rawInt (18 : Nat), rawInt (4 : Nat), .ref cK] := K8.but2 k9 hP34 (Ne.symm hP30) hn34 hn30
  refine wpAny_bind (wpAny_onRaise ?_)
  refine wpAny_bind (wpAny_mkStrs fun fs => ?_)
  refine wpAny_bind (wpAny_newTextTuple ?_)
  have D10 := m_push (o := { cls := .type "tuple", data := .seq fs.toArray }) D9 rfl
  have kp10 : h9.StaysIn (h9.push { cls := .type "tuple", data := .seq fs.toArray }) := fun b o e => Heap.get?_push_of_some _ e
  have S10 := S9.keeps kp10
  have K10 := K9.keeps kp10
  refine wpAny_bind ?_
  show wpAny _ _ (storeName (kCenv L nd fr cK) (Str.ofString "__static_attributes__") (.ref h9.objs.size)) _ _ (⟨h9.push { cls := .type "tuple", data := .seq fs.toArray }, g, d, t9 + kStat.length, os⟩ : Shared)
  generalize h9.push { cls := .type "tuple", data := .seq fs.toArray } = h10 at D10 kp10 S10 K10
  generalize h9.objs.size = st at D10
  generalize t9 + kStat.length = t10
  refine cs_store { cls := .type "dict", data := .dict (kEnts w.params { K with t13 := t10, st := st }) 12 } D10 8 rfl (.inr ⟨by kernel_rfl!, by kernel_rfl!⟩) (by kernel_rfl!) (by kernel_rfl!) rfl fun h11 D11 k11 => ?_
  have S11 := S10.but (D10.at 8 nd _ rfl) nf k11
  have K11 := K10.but k11 (D10.at 8 nd _ rfl) nf
  refine wpAny_pure ?_
  refine wpAny_bind ?_
  show wpAny _ _ (call (.type "type") [.str (Str.ofString "K") t, .ref bT, .ref nd]) _ _ _
  have X11 := X.keeps (m_stays D11)
  refine m_typecall (tn (K := { K with t13 := t10, st := st }) (D11.at 9 bT _ rfl) (D11.at 8 nd _ rfl) X11 hh hd (Nat.le_trans (Nat.add_le_add_right (Nat.add_le_add_right hu 1) 1) (by decide)) ?_ ⟨_, D11.at 0 st _ rfl, rfl⟩ (fun c nd2 md h12 h13 t13 D12 k13 => ?_) hne (D11.at 7 K.sl _ rfl))
  · intro f hf
    simp only [List.mem_cons, List.not_mem_nil, or_false] at hf
    have ho := hof
    simp only [List.forall_mem_cons, List.not_mem_nil] at ho
    obtain ⟨g2, g3, g4, g5, -⟩ := ho
    rcases hf with rfl | rfl | rfl | rfl | rfl | rfl
    · exact ⟨_, D11.at 6 K.f1 _ rfl, rfl⟩
    · exact ⟨_, D11.at 5 K.f2 _ rfl, rfl⟩
    · exact ⟨_, D11.at 4 K.f3 _ rfl, g2⟩
    · exact ⟨_, D11.at 3 K.f4 _ rfl, g3⟩
    · exact ⟨_, D11.at 2 K.f5 _ rfl, g4⟩
    · exact ⟨_, D11.at 1 K.f6 _ rfl, g5⟩
  · have e13 : ∀ b o, h11.get? b = some o → h13.get? b = some o := fun b o e => k13 _ _ (m_old D12 e)
    refine ⟨c, _, rfl, k13 _ _ (D12.at 1 c _ rfl), rfl, ?_⟩
    refine wpAny_pure ?_
    refine hq c nd2 h13 t13 ⟨md, bT, { K with t13 := t10, st := st }, t, _, ct0, ct1, pm0, pm1, c0, c1, k13 _ _ (D12.at 1 c _ rfl), k13 _ _ (D12.at 2 nd2 _ rfl), k13 _ _ (D12.at 0 md _ rfl), e13 _ _ (D11.at 6 K.f1 _ rfl), e13 _ _ (D11.at 5 K.f2 _ rfl), (S11.cr 0 c0 hc0).keeps e13, (S11.cr 1 c1 hc1).keeps e13⟩
      (by
        have q := (D12.nw _ (List.mem_of_getElem? (i := 2) rfl)).2
        cases z : g0.get? nd2 with
        | none => rfl
        | some o => rw [m_old D11 z] at q; cases q)
      (T30n.back st3 ⟨cK, PK, ⟨cs', K11.keeps e13, S11.k.keeps e13, ?_, fun j c hj => (S11.cr j c hj).keeps e13⟩, new30⟩) (m_stayed (m_trans (m_forget D11) D12) k13)
    rcases S11.size with hs | ⟨hs, _⟩ <;> exact hs
end
theorem fl26 : True := by w_top off; first | walk1 | trivial
section
open PySem PySem.W PyProof.Rows PySem.Calls PySem.Spec PySem.SeqAt
open PySem.W.X (Mem)
set_option maxHeartbeats 4000000
variable {w : World} {mean : ExcName → Option Value} {mg mb : Str → Option Value} {dp un : Nat} {gd : Option (List Code)} {outer : List Env}
theorem body_is {M : Model} {A : Around} {E : Value → Shared → Prop} {Q : Flow → Shared → Prop} {s : Shared} {env : Env} {b b' : List Stmt} (e : b = b') (h : wpAny M A (execs b' env) Q E s) : wpAny M A (execs b env) Q E s := e ▸ h
theorem K30no {w : World} : (_root_.Mine.hd.heap_1_1 w.params).lookup 30 = none := rfl
theorem hidMem {h : Heap} {P : Addr} : Mem (h.hide P) h [] [] := ⟨fun b o e _ => Heap.of_hide e, fun p hp => (nomatch hp), List.nodup_nil, fun p hp => (nomatch hp), List.Pairwise.nil⟩
theorem hidTop {s : Heap} {P : Addr} {oP : Obj} (T : Top topProg LL mean mg mb s) (e : s.get? P = some oP) (hd : ∀ es n, oP.data ≠ .dict es n) (hc : oP.cls = .none) : Top topProg LL mean mg mb (s.hide P) := by
  have up : ∀ b o, b ≠ P → s.get? b = some o → (s.hide P).get? b = some o := fun b o hb e => (Heap.hide_ne s hb).trans e
  have nsUp : ∀ {a : Addr} {mm : Str → Option Value}, s.Ns a mm → (s.hide P).Ns a mm := fun {a mm} hn => by
    obtain ⟨o, es, ep, e', hd', r⟩ := hn
    exact ⟨o, es, ep, up _ _ (fun q => by subst q; rw [e] at e'; cases e'; exact hd _ _ hd') e', hd', r⟩
  exact {
    g := nsUp T.g
    b := nsUp T.b
    nolimit := let ⟨mc, a, r⟩ := T.nolimit; ⟨mc, nsUp a, r⟩
    nodigits := let ⟨mc, a, r⟩ := T.nodigits; ⟨mc, nsUp a, r⟩
    fn := fun d hd => absurd (show d ∈ ([] : List DefRec) from hd) List.not_mem_nil
    own := fun o ho => absurd (show o ∈ ([] : List OwnSpec) from ho) List.not_mem_nil
    const := T.const
    free := T.free
    builtins := T.builtins
    tab := fun d hd => absurd (show d ∈ ([] : List DefRec) from hd) List.not_mem_nil
    bmain := let ⟨bm, ob, a1, a2, a3, a4, r⟩ := T.bmain; ⟨bm, ob, a1, a2, up _ _ (fun q => by rw [q, e] at a3; cases a3; rw [hc] at a4; cases a4) a3, a4, r⟩
    seer := fun e => absurd (show false = true from e) Bool.false_ne_true }
theorem T30.obj {h : Heap} (t : T30 h) : ∃ ps, h.get? 30 = some { cls := .none, data := .fields ps } := by
  rcases t with t | ⟨cK, PK, cs, k1, _⟩
  · exact ⟨_, t.tab.2⟩
  · exact ⟨_, k1.tab.2⟩
theorem T30.but {h h' : Heap} {a : Addr} {o : Obj} (t : T30 h) (hk : ∀ b o, b ≠ a → h.get? b = some o → h'.get? b = some o) (ha : h.get? a = some o) (hd : ∀ vs, o.data ≠ .fields vs) : T30 h' := by
  rcases t with t | ⟨cK, PK, cs, k1, k2, k3, k4⟩
  · exact .inl (t.but hk ha hd)
  · exact .inr ⟨cK, PK, cs, k1.but hk ha hd, k2.but hk ha hd, k3, fun j c hj => (k4 j c hj).keepsBut hk ha hd⟩
theorem T30s.but {c P : Addr} {h h' : Heap} {a : Addr} {o : Obj} (t : T30s c P h) (hk : ∀ b o, b ≠ a → h.get? b = some o → h'.get? b = some o) (ha : h.get? a = some o) (hd : ∀ vs, o.data ≠ .fields vs) : T30s c P h' := by
  obtain ⟨cs, k1, k2, k3, k4⟩ := t
  exact ⟨cs, k1.but hk ha hd, k2.but hk ha hd, k3, fun j c hj => (k4 j c hj).keepsBut hk ha hd⟩
theorem T30n.but {h0 h h' : Heap} {a : Addr} {o : Obj} (t : T30n h0 h) (hk : ∀ b o, b ≠ a → h.get? b = some o → h'.get? b = some o) (ha : h.get? a = some o) (hd : ∀ vs, o.data ≠ .fields vs) : T30n h0 h' :=
  let ⟨cK, PK, x, y⟩ := t; ⟨cK, PK, x.but hk ha hd, y⟩
theorem KIs.but {P : Params} {h h' : Heap} {c cell nd a : Addr} {o : Obj} {es : Array DictEntry} {n : Nat} (k : KIs P h c cell nd) (hk : ∀ b o, b ≠ a → h.get? b = some o → h'.get? b = some o) (ha : h.get? a = some o) (hd : o.data = .dict es n) (hn : nd ≠ a) : KIs P h' c cell nd := by
  obtain ⟨md, bT, K, tk, t, ct0, ct1, pm0, pm1, c0, c1, e1, e2, e3, e4, e5, e6, e7⟩ := k
  have ne : ∀ b ob, h.get? b = some ob → (∀ es n, ob.data ≠ .dict es n) → b ≠ a := fun b ob eb hb q => by subst q; rw [ha] at eb; cases eb; exact hb _ _ hd
  refine ⟨md, bT, K, tk, t, ct0, ct1, pm0, pm1, c0, c1, hk _ _ (ne _ _ e1 ?_) e1, hk _ _ hn e2, hk _ _ (ne _ _ e3 ?_) e3, hk _ _ (ne _ _ e4 ?_) e4, hk _ _ (ne _ _ e5 ?_) e5, e6.keepsBut hk ha ?_, e7.keepsBut hk ha ?_⟩
  · intro es n q; simp [kCls] at q
  · intro es n q; simp [kMem] at q
  · intro es n q; simp [kFun] at q
  · intro es n q; simp [kFun] at q
  · intro vs q; rw [hd] at q; cases q
  · intro vs q; rw [hd] at q; cases q
theorem KIs.keeps {P : Params} {h h' : Heap} {c cell nd : Addr} (k : KIs P h c cell nd) (hk : h.StaysIn h') : KIs P h' c cell nd := by
  obtain ⟨md, bT, K, tk, t, ct0, ct1, pm0, pm1, c0, c1, e1, e2, e3, e4, e5, e6, e7⟩ := k
  exact ⟨md, bT, K, tk, t, ct0, ct1, pm0, pm1, c0, c1, hk _ _ e1, hk _ _ e2, hk _ _ e3, hk _ _ e4, hk _ _ e5, e6.keeps hk, e7.keeps hk⟩
theorem nsAt {h h' : Heap} {a : Addr} {m : Str → Option Value} (hn : h.Ns a m) (k : ∀ o, h.get? a = some o → h'.get? a = some o) : h'.Ns a m := by
  obtain ⟨o, es, ep, e, r⟩ := hn
  exact ⟨o, es, ep, k _ e, r⟩
theorem cmp_call {s : Shared} {Q E : Value → Shared → Prop} {f : Addr} (Y : Rdy w mean mg mb dp un gd outer s.heap) (t30 : T30 s.heap) (hdp : dp + 1 ≤ 340) (hun : un + 3 ≤ 55)
    (hq : ∀ c cell nd oc h' tk, KIs w.params h' c cell nd → h'.get? cell = some oc → oc.data = .cell (some (.ref f)) → T30n s.heap h' → (∀ b o, b ≠ 30 → s.heap.get? b = some o → h'.get? b = some o) → Q (.ref c) { s with heap := h', toks := tk }) :
    wpAny (model PySem.Challenge.rw_ny0140_01.row.prog w) (Am dp un gd outer) (call (.ref 35) [.ref f]) Q E s := by
  have hdl : dp < recursionLimit := Nat.lt_of_le_of_lt (Nat.le_of_succ_le hdp) (by decide)
  (have fill : (fun w : World => _root_.Mine.hd.heap_1_1 w.params) = (fun w : World => _root_.Mine.hd.heap_1_1 w.params) ∧ PySem.Challenge.rw_ny0140_01.row.prog = PySem.Challenge.rw_ny0140_01.row.prog := (by k_fill; exact ⟨rfl, rfl⟩); clear fill)
  k_dflt ((refine wpAny_call ?_; refine' enterC ?kY ?k6 ?k7 ?k8 ?k9 ?kB ?kD ?_ ?c3 ?c4 ?c5; (case kY => assumption); (case k6 => k_is); (case k7 => k_is); (case k8 => omega); (case k9 => exact BindsTo.of_eq rfl); (case kB => exact rfl); (case kD => decide +kernel); (case c5 => exact rfl); (case c3 => exact rfl); (case c4 => exact rfl); k_whole; intro base g L' h' tk' cells' kG kH F' N' Y' B' X' T'; k_cells Y'; (try simp only [List.cons_append, List.nil_append] at N'); (try dsimp only); (try k_fold)))
  rename_i oc dc
  have dc' : oc.data = .cell (some (.ref f)) := dc.trans (by kernel_rfl!)
  refine body_is (b' := cmpBody) (by kernel_rfl!) ?_
  rw [cmpBody_eq]
  refine wpAny_execs_cons ?_
  have gs : s.heap.StaysIn h' := fun b o e => F'.keep _ _ (kG _ _ e)
  have t30' := t30.keeps gs
  obtain ⟨ps, e30⟩ := t30'.obj
  have Tg := T'.keeps F'.keep
  have X0 : (_root_.Mine.hd.heap_1_1 w.params).In (h'.hide 30) := fun a o ho => (Heap.hide_ne h' (fun q => by subst q; rw [K30no] at ho; cases ho)).trans (F'.keep _ _ (X' a o ho))
  refine cls_exec (fun a o ho => F'.keep _ _ (X' a o ho)) Tg ?_
  refine bld hidMem X0 (hidTop Tg e30 (fun es n q => by cases q) rfl) t30' (Heap.hide_self _ _) rfl hdp hun fun c nd h2 t2 kis hnd t30'' D2 => ?_
  have up : ∀ b o, b ≠ 30 → h'.get? b = some o → h2.get? b = some o := fun b o hb e => m_old D2 ((Heap.hide_ne h' hb).trans e)
  obtain ⟨oL, esL, epL, eL, dL, rL⟩ := id F'.ns
  have hL30 : L' ≠ 30 := fun q => by rw [q, e30] at eL; cases eL; cases dL
  have eL2 := up _ _ hL30 eL
  have ns2 := nsAt F'.ns (h' := h2) (fun o e => up _ _ hL30 e)
  have hc30 : L' + 1 ≠ 30 := fun q => by
    have := (N' _ (.head _)).1
    rw [q, e30] at this
    cases this
    cases dc'
  have hndL : nd ≠ L' := fun q => by
    rw [q, Heap.hide_ne h' hL30, eL] at hnd
    cases hnd
  unfold bindName
  refine wpAny_bind (wpAny_holding (wpAny_point (wpAny_bind ?_)))
  refine wpAny_storeName_local (by kernel_rfl!) ns2 fun h3 ns3 sb3 => ?_
  refine wpAny_point ?_
  show wpAny _ _ (execs [kRet] (kEnv L')) _ _ _
  rw [kRet_eq]
  refine wpAny_execs_cons (wpAny_Return_some (wpAny_Name (wpAny_loadName_local rfl (by kernel_rfl!) ns3 (if_pos rfl) ?_)))
  have k3 : ∀ b o, b ≠ L' → h2.get? b = some o → h3.get? b = some o := fun b o hb e => (sb3.2 b hb).trans e
  refine hq c (L' + 1) nd oc h3 _ (kis.but k3 eL2 dL hndL) (k3 _ _ (Nat.succ_ne_self _) (up _ _ hc30 (N' _ (.head _)).1)) dc' (T30n.back gs (t30''.but k3 eL2 fun vs q => by rw [dL] at q; cases q)) fun b o hb e => ?_
  have eg := kG _ _ e
  exact k3 _ _ (Nat.ne_of_lt (Nat.lt_of_lt_of_le (Heap.lt_size eg) F'.above)) (up _ _ hb (F'.keep _ _ eg))
end
theorem fl27 : True := by w_top off; first | walk1 | trivial
section
open PySem PySem.W PyProof.Rows PySem.Calls PySem.Spec PySem.SeqAt
set_option maxHeartbeats 4000000
variable {w : World}
structure KF4 (P : Params) (K : Frag) (c nd md f1 : Addr) : Prop where
  cls : ∃ sl : Array (Option Value), K.lookup c = some (kCls nd [.ref c, .type "object"] [Str.ofString "obj"] sl) ∧ sl.toList[4]? = some (some (.builtin "object.__new__"))
  own : ∃ KD more n, K.lookup nd = some (kOwn P KD more n) ∧ KD.f1 = f1 ∧ ∃ t1 t2, more = [ent P "obj" t1 (.ref md), ent P "__doc__" t2 .none]
  mem : ∃ t, K.lookup md = some (kMem c t)
  fn : ∃ fo, K.lookup f1 = some fo ∧ fo.cls = .type "function"
section
variable {P : Params} {K : Frag} {c nd md f1 : Addr}
theorem KF4.makes (k : KF4 P K c nd md f1) : makesIn K c = true := by
  obtain ⟨sl, e, h4⟩ := k.cls
  simp only [makesIn, specialIn, instIn, typeIn, e, kCls, Option.map_some, Option.bind_some, h4]
  simp only [List.isEmpty_cons, List.contains_cons, beq_self_eq_true, Bool.true_or, Bool.or_true, Bool.not_false, Bool.true_and, Option.join_some, Bool.and_eq_true, beq_iff_eq]
  exact ⟨by kernel_rfl, by kernel_rfl⟩
theorem KF4.init (k : KF4 P K c nd md f1) : findIn K (.ref c) (Str.ofString "__init__") = some (some (.ref f1)) := by
  obtain ⟨sl, e, -⟩ := k.cls
  obtain ⟨KD, more, n, e2, rfl, t1, t2, rfl⟩ := k.own
  simp only [findIn, e, kCls, alongIn, ownIn, nsIn, e2, kOwn, kOwnE]
  kernel_rfl
theorem KF4.setat (k : KF4 P K c nd md f1) : findIn K (.ref c) "__setattr__" = some (some (.builtin "object.__setattr__")) := by
  obtain ⟨sl, e, -⟩ := k.cls
  obtain ⟨KD, more, n, e2, rfl, t1, t2, rfl⟩ := k.own
  simp only [findIn, e, kCls, alongIn, ownIn, nsIn, e2, kOwn, kOwnE]
  kernel_rfl
theorem KF4.obj (k : KF4 P K c nd md f1) : findIn K (.ref c) (Str.ofString "obj") = some (some (.ref md)) := by
  obtain ⟨sl, e, -⟩ := k.cls
  obtain ⟨KD, more, n, e2, rfl, t1, t2, rfl⟩ := k.own
  simp only [findIn, e, kCls, alongIn, ownIn, nsIn, e2, kOwn, kOwnE]
  kernel_rfl
theorem KF4.fnT (k : KF4 P K c nd md f1) : typeIn K (.ref f1) = some (.type "function") := by
  obtain ⟨_, e, e'⟩ := k.fn
  simp only [typeIn, e, Option.map_some, e']
theorem KF4.memT (k : KF4 P K c nd md f1) : typeIn K (.ref md) = some (.type "member_descriptor") := by
  obtain ⟨_, e⟩ := k.mem
  simp only [typeIn, e]; rfl
theorem KF4.over (k : KF4 P K c nd md f1) : plainOver K c = true := by
  obtain ⟨sl, e, -⟩ := k.cls
  simp only [plainOver, clsIn, e, kCls]; rfl
theorem KF4.takes (k : KF4 P K c nd md f1) : takesIn K (.ref md) = some true := by
  simp only [takesIn, specialIn, k.memT, Option.bind_some]
  kernel_rfl
theorem KF4.taker (k : KF4 P K c nd md f1) : takerIn K c (Str.ofString "obj") = some (some (.ref md)) := by
  simp only [takerIn, k.obj, Option.bind_some, k.takes]; rfl
theorem KF4.slot (k : KF4 P K c nd md f1) : slotIn K md c = some 0 := by
  obtain ⟨sl, e, -⟩ := k.cls
  obtain ⟨t, e2⟩ := k.mem
  have r1 : recIn K md "member_descriptor" = some [.str (Str.ofString "obj") t, .ref c, .builtin "proto.slot", .builtin "proto.slot#set", rawInt 0] := by unfold recIn; rw [e2]; kernel_rfl
  have r2 : (clsIn K c).map (fun cd => (cd.mro, cd.slotNames)) = some ([.ref c, .type "object"], [Str.ofString "obj"]) := by unfold clsIn; rw [e]; rfl
  obtain ⟨cd, hc, hp⟩ := Option.map_eq_some_iff.mp r2
  obtain ⟨hm, hs⟩ := Prod.mk.inj hp
  unfold slotIn
  rw [r1, hc]
  show (if (_ && _ && !cd.mro.isEmpty && cd.mro.contains (.ref c) && decide (_ < cd.slotNames.length)) = true then some (cd.slotNames.length - 1 - _) else none) = _
  rw [hm, hs, List.contains_cons, beq_self_eq_true (Value.ref c), Bool.true_or]
  kernel_rfl
theorem KF4.getatt (k : KF4 P K c nd md f1) : findIn K (.ref c) "__getattribute__" = some (some (.builtin "object.__getattribute__")) := by
  obtain ⟨sl, e, -⟩ := k.cls
  obtain ⟨KD, more, n, e2, rfl, t1, t2, rfl⟩ := k.own
  simp only [findIn, e, kCls, alongIn, ownIn, nsIn, e2, kOwn, kOwnE]
  kernel_rfl
theorem KF4.noget (k : KF4 P K c nd md f1) : findIn K (.ref c) "__getattr__" = some none := by
  obtain ⟨sl, e, -⟩ := k.cls
  obtain ⟨KD, more, n, e2, rfl, t1, t2, rfl⟩ := k.own
  simp only [findIn, e, kCls, alongIn, ownIn, nsIn, e2, kOwn, kOwnE]
  kernel_rfl
theorem KF4.isC (k : KF4 P K c nd md f1) : (clsIn K c).isSome = true := by
  obtain ⟨sl, e, -⟩ := k.cls
  unfold clsIn; rw [e]; rfl
theorem KF4.mget (k : KF4 P K c nd md f1) : specialIn K (.ref md) "__get__" = some (some (.builtin "member_descriptor.__get__")) := by
  unfold specialIn; rw [k.memT]; kernel_rfl
end
theorem fB0_eq : ∃ p1 p2 p3 p4, fB 0 = [.Assign [.Attribute (.Name (Str.ofString "self") p1) (Str.ofString "obj") p2] (.Name (Str.ofString "obj") p3) p4] := ⟨_, _, _, _, rfl⟩
theorem fS0_names : (fS 0).names = [(Str.ofString "self", .local), (Str.ofString "obj", .local)] ∧ (fS 0).kind = .function := ⟨by kernel_rfl!, by kernel_rfl!⟩
structure Ins (P : Params) (h : Heap) (c x : Addr) (v : Value) : Prop where
  x : ∃ dd, h.get? x = some { cls := .ref c, dict := some dd, data := .plain, slots := #[some v] } ∧ h.get? dd = some { cls := .type "dict", data := .dict #[] 0 }
theorem Ins.keeps {P : Params} {h h' : Heap} {c x : Addr} {v : Value} (i : Ins P h c x v) (k : h.StaysIn h') : Ins P h' c x v := let ⟨dd, e1, e2⟩ := i.x; ⟨dd, k _ _ e1, k _ _ e2⟩
theorem frag_cons {h : Heap} {a : Addr} {oa : Obj} {K : Frag} (ea : h.get? a = some oa) (x : K.In h) : Frag.In ((a, oa) :: K) h := fun b o e => by
  rw [List.lookup_cons] at e
  split at e
  · rename_i q; cases e; rwa [beq_iff_eq.mp q]
  · exact x b o e
theorem frag_nil {h : Heap} : Frag.In [] h := fun _ _ e => nomatch e
theorem ne_at {h : Heap} {a b : Addr} {oa ob : Obj} (ea : h.get? a = some oa) (eb : h.get? b = some ob) (n : oa.cls ≠ ob.cls) : (a == b) = false := by
  rw [beq_eq_false_iff_ne]; rintro rfl; rw [ea] at eb; cases eb; exact n rfl
theorem kf4_of {P : Params} {h : Heap} {c cell nd : Addr} (k : KIs P h c cell nd) : ∃ K md f1 ct c0 pm, KF4 P K c nd md f1 ∧ K.In h ∧ h.get? f1 = some (kFun (fN 0) (kQ 0) (fA 0) (fB 0) (fS 0) [] ct (.ref c0) pm) ∧ Crt h c0 (kQ 0) := by
  obtain ⟨md, bT, K, tk, t, ct0, ct1, pm0, pm1, c0, c1, e1, e2, e3, e4, e5, e6, e7⟩ := k
  refine ⟨_, md, K.f1, ct0, c0, pm0, ⟨⟨_, List.lookup_cons_self, rfl⟩, ⟨K, [ent P "obj" (t + 1) (.ref md), ent P "__doc__" (t + 2) .none], 3, ?_, rfl, _, _, rfl⟩, ⟨t, ?_⟩, ⟨kFun (fN 0) (kQ 0) (fA 0) (fB 0) (fS 0) [] ct0 (.ref c0) pm0, ?_, rfl⟩⟩, frag_cons e1 (frag_cons e2 (frag_cons e3 (frag_cons e4 frag_nil))), e4, e6⟩
  · rw [List.lookup_cons, ne_at e2 e1 (by simp [kOwn, kCls])]; exact List.lookup_cons_self
  · rw [List.lookup_cons, ne_at e3 e1 (by simp [kMem, kCls]), List.lookup_cons, ne_at e3 e2 (by simp [kMem, kOwn])]; exact List.lookup_cons_self
  · rw [List.lookup_cons, ne_at e4 e1 (by simp [kFun, kCls]), List.lookup_cons, ne_at e4 e2 (by simp [kFun, kOwn]), List.lookup_cons, ne_at e4 e3 (by simp [kFun, kMem])]; exact List.lookup_cons_self
theorem inst_call {A : Around} {E : Value → Shared → Prop} {h : Heap} {g : Array GenState} {d : Drawn} {t : Nat} {os : OsState} {c cell nd : Addr} {v : Value} {Q : Value → Shared → Prop}
    (k : KIs w.params h c cell nd) (hN : h.NoLimit) (hd : A.depth ≤ 350)
    (hq : ∀ x h' t', h.StaysIn h' → Ins w.params h' c x v → Q (.ref x) ⟨h', g, d, t', os⟩) :
    wpAny (model PySem.Challenge.rw_ny0140_01.row.prog w) A (call (.ref c) [v]) Q E ⟨h, g, d, t, os⟩ := by
  obtain ⟨K, md, f1, ct, c0, pm, KF, X, e4, e6⟩ := kf4_of k
  refine wpAny_call (make_core (makes_of X KF.makes) (looks_findIn X KF.init) (fun self => bind_fn X self KF.fnT) (.inl rfl) ?_)
  have kp : h.StaysIn ((h.push emptyDict).push (instObj c h.objs.size)) := fun b o e => Heap.get?_push_of_some _ (Heap.get?_push_of_some _ e)
  refine codeAny_call_function (Nat.lt_of_le_of_lt (Nat.succ_le_succ hd) (by decide)) (kp _ _ e4) rfl (by kernel_rfl!) (by kernel_rfl!) rfl (e6.keeps kp).rec' ?_
  refine wpAny_of_eq (a := [(Str.ofString "self", .ref (h.objs.size + 1)), (Str.ofString "obj", v)]) (by kernel_rfl!) ?_
  refine wpAny_newFunctionEnv (by intro x hx; rw [show (kFd (fN 0) (kQ 0) (fA 0) (fB 0) (fS 0) [] ct (.ref c0) pm).scope.names = _ from fS0_names.1] at hx; revert x; decide) ?_ (fun h₁ hns hsb => ⟨((hN.push _).push _).fresh _ hsb, codeAny_func ?_⟩) fS0_names.2
  · intro p hp
    show (fS 0).names.lookup p.1 = some .local
    rw [fS0_names.1]
    simp only [List.mem_cons, List.not_mem_nil, or_false] at hp
    rcases hp with rfl | rfl <;> kernel_rfl!
  have kq : ((h.push emptyDict).push (instObj c h.objs.size)).StaysIn h₁ := fun b o e => hsb.extBut b o (Nat.ne_of_lt (Heap.lt_size e)) (Heap.get?_push_of_some _ e)
  have F : Fr h ((h.push emptyDict).push (instObj c h.objs.size)).objs.size h₁ (fun y' => [(Str.ofString "self", Value.ref (h.objs.size + 1)), (Str.ofString "obj", v)].reverse.lookup y') := ⟨hns, fun b o e => kq _ _ (kp _ _ e), by simp [Heap.size_push]; omega⟩
  have hx : h₁.get? (h.objs.size + 1) = some (instObj c h.objs.size) := kq _ _ (by heap_get)
  have hdd : h₁.get? h.objs.size = some emptyDict := kq _ _ (by heap_get)
  have n0 : ∀ a, h.objs.size ≤ a → h.get? a = none := fun a ha => by
    cases e : h.get? a with | none => rfl | some o => exact absurd (Heap.lt_size e) (Nat.not_lt.mpr ha)
  have N : News h ((h.push emptyDict).push (instObj c h.objs.size)).objs.size h₁ [(h.objs.size + 1, instObj c h.objs.size), (h.objs.size, emptyDict)] := by
    intro p hp
    simp only [List.mem_cons, List.not_mem_nil, or_false] at hp
    rcases hp with rfl | rfl
    · exact ⟨hx, by simp [Heap.size_push], n0 _ (Nat.le_succ _)⟩
    · exact ⟨hdd, Nat.ne_of_lt (by rw [Heap.size_push, Heap.size_push]; exact Nat.lt_succ_of_lt (Nat.lt_succ_self _)), n0 _ (Nat.le_refl _)⟩
  dsimp only
  show wpAny _ _ (execs (fB 0) (envX (kQ 0) (fS 0) _ f1 (.ref c0) [])) _ _ _
  obtain ⟨p1, p2, p3, p4, eB⟩ := fB0_eq
  rw [eB]
  refine wpAny_execs_cons (plainObj_wpAny_Assign_Attribute (hs := by kernel_rfl!) ?_)
  refine nameX_L F (v := v) (by kernel_rfl!) ?_ fS0_names.2 (by kernel_rfl!) (by kernel_rfl!)
  refine nameX_L F (v := .ref (h.objs.size + 1)) (by kernel_rfl!) ?_ fS0_names.2 (by kernel_rfl!) (by kernel_rfl!)
  refine set_slot (ox := instObj c h.objs.size) (od := emptyDict) F X N ⟨hx, rfl, rfl, hdd⟩ KF.setat KF.over KF.taker KF.memT KF.slot (by decide) rfl rfl (.head ?_) ?_
  · intro p hp; rw [List.mem_singleton.mp hp]; exact Nat.ne_of_lt (Nat.lt_succ_self _)
  intro h' F' N'
  exact wpAny_execs_nil ⟨rfl, hq _ _ _ F'.keep ⟨_, (N' _ (.head _)).1, (N' _ (.tail _ (.head _))).1⟩⟩
end
theorem fl28 : True := by w_top off; first | walk1 | trivial
section
open PySem PySem.W PyProof.Rows PySem.Calls PySem.Spec PySem.SeqAt
open PySem.W.X (Mem)
set_option maxHeartbeats 4000000
variable {w : World}
theorem type_ins {M : Model} {A : Around} {E : Value → Shared → Prop} {s : Shared} {P : Params} {c x : Addr} {v : Value} {Q : Value → Shared → Prop} (i : Ins P s.heap c x v) (hq : Q (.ref c) s) : wpAny M A (typeOf (.ref x)) Q E s := by
  obtain ⟨dd, e1, e2⟩ := i.x
  obtain ⟨h, g, d, t, os⟩ := s
  wp_walk
  exact hq
theorem slot_get {A : Around} {E : Value → Shared → Prop} {h : Heap} {g : Array GenState} {d : Drawn} {t : Nat} {os : OsState} {c cell nd x : Addr} {v : Value} {b : Bool} {Q : Value → Shared → Prop}
    (k : KIs w.params h c cell nd) (i : Ins w.params h c x v) (hv : handedOut v = pure v) (hq : ∀ t', Q v ⟨h, g, d, t', os⟩) :
    wpAny (model PySem.Challenge.rw_ny0140_01.row.prog w) A (getAttr (.ref x) (Str.ofString "obj") b) Q E ⟨h, g, d, t, os⟩ := by
  obtain ⟨K, md, f1, ct, c0, pm, KF, X, e4, e6⟩ := kf4_of k
  obtain ⟨dd, e8, e9⟩ := i.x
  have I : InstAt h x { cls := .ref c, dict := some dd, data := .plain, slots := #[some v] } c (some { cls := .type "dict", data := .dict #[] 0 }) := ⟨e8, rfl, rfl, e9⟩
  exact get_bind X I KF.getatt (findObj_data KF.isC KF.obj KF.mget KF.takes) KF.noget (wpAny_call (PySem.W.slot_get (s := ⟨h, g, d, t + 1, os⟩) X I KF.slot rfl (wpAny_of_eq hv (hq _))))
end
theorem fl29 : True := by w_top off; first | walk1 | trivial
section
open PySem PySem.W PyProof.Rows PySem.Calls PySem.Spec PySem.SeqAt
open PySem.W.X (Mem)
set_option maxHeartbeats 4000000
variable {w : World} {mean : ExcName → Option Value} {mg mb : Str → Option Value} {dp un : Nat} {gd : Option (List Code)} {outer : List Env}
theorem fB1_eq : ∃ p1 p2 p3 p4 p5 p6 p7 p8 p9, fB 1 = [.Return (some (.Compare (.Call (.Name (Str.ofString "mycmp") p1) [.Attribute (.Name (Str.ofString "self") p2) (Str.ofString "obj") p3, .Attribute (.Name (Str.ofString "other") p4) (Str.ofString "obj") p5] [] p6) [.Lt]
    [.Constant (.int 0) 0 p7] p8)) p9] := ⟨_, _, _, _, _, _, _, _, _, rfl⟩
theorem fS1_names : (fS 1).names = [(Str.ofString "self", .local), (Str.ofString "other", .local), (Str.ofString "mycmp", .free)] ∧ (fS 1).kind = .function := ⟨by kernel_rfl!, by kernel_rfl!⟩
noncomputable abbrev lEnv (L f2 c1 cell : Addr) : Env := envX (kQ 1) (fS 1) L f2 (.ref c1) [(Str.ofString "mycmp", cell)]
theorem lt_body {A : Around} {E : Value → Shared → Prop} {Q : Flow → Shared → Prop} {h : Heap} {g : Array GenState} {d : Drawn} {t : Nat} {os : OsState} {L f2 c1 cell c nd x y f : Addr} {v u : Value} {oc : Obj} {m : Str → Option Value}
    (k : KIs w.params h c cell nd) (ix : Ins w.params h c x v) (iy : Ins w.params h c y u) (hv : handedOut v = pure v) (hu' : handedOut u = pure u) 
    (hns : h.Ns L m) (hm1 : m (Str.ofString "self") = some (.ref x)) (hm2 : m (Str.ofString "other") = some (.ref y)) {of : Obj} {ffd : FuncData} (hof : h.get? f = some of) (hofd : of.data = .func ffd) (hce : h.get? cell = some oc) (hcd : oc.data = .cell (some (.ref f)))
    {n : Int} (hq : ∀ h' t', h.StaysIn h' → Q (.ret (.bool (decide (n < 0)))) ⟨h', g, d, t', os⟩)
    (hf : ∀ t Q', (∀ tk h' t', h.StaysIn h' → Q' (.int n tk) ⟨h', g, d, t', os⟩) → wpAny (model PySem.Challenge.rw_ny0140_01.row.prog w) A (call (.ref f) [v, u]) Q' E ⟨h, g, d, t, os⟩) :
    wpAny (model PySem.Challenge.rw_ny0140_01.row.prog w) A (execs (fB 1) (lEnv L f2 c1 cell)) Q E ⟨h, g, d, t, os⟩ := by
  obtain ⟨p1, p2, p3, p4, p5, p6, p7, p8, p9, eB⟩ := fB1_eq
  rw [eB]
  refine wpAny_execs_cons (wpAny_Return_some ?_)
  rw [arm_eval_Compare]
  (repeat (first | (first | with_reducible (first | refine wpAny_of_eq (t := Builtin.extendedBase _) (a := .type "object") (by kernel_rfl!) ?_ | refine wpAny_of_eq (t := Bind.madeBy (.type _)) (a := some "object.__new__") (by kernel_rfl!) ?_ | refine wpAny_of_eq (t := Builtin.notOverATurnedClass _) (a := ()) (by kernel_rfl!) ?_ | refine wpAny_of_eq (t := Builtin.Slots.bestBase _) (a := .type "object") (by kernel_rfl!) ?_ | refine wpAny_of_eq (t := Builtin.Slots.slotNamesOf (.type _)) (a := []) (by kernel_rfl!) ?_ | refine wpAny_of_eq (t := Builtin.Slots.givesDict (.type _)) (a := false) (by kernel_rfl!) ?_ | refine wpAny_of_eq (t := Builtin.Slots.givesWeak (.type _)) (a := false) (by kernel_rfl!) ?_ | refine wpAny_of_eq (t := Builtin.Slots.varSize (.type _)) (a := false) (by kernel_rfl!) ?_ | refine wpAny_of_eq (t := isSubtype (.type _) (.type _)) (a := true) (by kernel_rfl!) ?_ | refine wpAny_of_eq (t := isType (.type _)) (a := true) (by kernel_rfl!) ?_ | refine wpAny_of_eq (t := typeOf (.type _)) (a := .type "type") (by kernel_rfl!) ?_ | refine wpAny_of_eq (t := typeLookup (.type _) _) (a := some (.builtin "dict.__iter__")) (by kernel_rfl!) ?_ | refine wpAny_of_eq (t := typeLookup (.type _) _) (a := none) (by kernel_rfl!) ?_) | with_reducible (first | refine wpAny_pure ?_ | refine wpAny_bind ?_ | refine wpAny_holding ?_ | refine wpAny_standAt ?_ | refine wpAny_point ?_ | refine wpAny_rule ?_ | refine wpAny_letGo ?_ | refine wpAny_tryCatch ?_ | refine wpAny_mkInt' ?_ | refine wpAny_fresh' ?_ | refine wpAny_attempt ?_ | refine wpAny_of_eq (by assumption) ?_) | ((with_reducible refine' wpAny_mkStr' (hx := ?mX) ?_); (case mX => size_fits)) | ((with_reducible refine' m_alloc ?mD ?mf ?_); (case mD => assumption); (case mf => rfl); intro _ _ _) | ((with_reducible (first | apply wpAny_load' | apply wpAny_loadPart')); focus ((first | assumption | (refine' Mem.at (h := _) ?mD 0 _ _ ?me; (case mD => assumption); (case me => rfl)) | (refine' Mem.at (h := _) ?mD 1 _ _ ?me; (case mD => assumption); (case me => rfl)) | (refine' Mem.at (h := _) ?mD 2 _ _ ?me; (case mD => assumption); (case me => rfl)) | (refine' Mem.at (h := _) ?mD 3 _ _ ?me; (case mD => assumption); (case me => rfl)) | (refine' m_old ?mD ?me; (case mD => assumption); (case me => assumption))); done)) | ((with_reducible refine' m_nsGet none ?mh ?mv ?_); (case mh => (first | assumption | (refine' Mem.at (h := _) ?mD 0 _ _ ?me; (case mD => assumption); (case me => rfl)) | (refine' Mem.at (h := _) ?mD 1 _ _ ?me; (case mD => assumption); (case me => rfl)) | (refine' Mem.at (h := _) ?mD 2 _ _ ?me; (case mD => assumption); (case me => rfl)) | (refine' Mem.at (h := _) ?mD 3 _ _ ?me; (case mD => assumption); (case me => rfl)) | (refine' m_old ?mD ?me; (case mD => assumption); (case me => assumption)))); (case mv => kernel_rfl!)) | ((with_reducible apply wpAny_ite_false); focus (first | (simp only [List.any_toArray]; kernel_rfl!) | (simp only [sizeLine_eq]; simp; done) | kernel_rfl! | simp [*]; done)) | ((with_reducible apply wpAny_ite_true); focus (first | (simp only [List.any_toArray]; kernel_rfl!) | (simp only [sizeLine_eq]; simp; done) | kernel_rfl! | simp [*]; done)) | ((with_reducible show wpAny _ _ (collect _) _ _ _); refine m_collect (vs := [_]) (by assumption) (by assumption) ?_ (by simp [sizeLine_eq]); intro _ _) | with_reducible_and_instances refine wpAny_pure ?_ | with_reducible_and_instances refine wpAny_bind ?_) | ((fail_if_success (first | (with_reducible show wpAny _ _ (nsGet _ _) _ _ _) | (with_reducible show wpAny _ _ (nsSet _ _ _) _ _ _) | (with_reducible show wpAny _ _ (nsDel _ _) _ _ _) | (with_reducible show wpAny _ _ (typeLookup _ _) _ _ _) | (with_reducible show wpAny _ _ (Sem.tryCatch _ _) _ _ _) | (with_reducible show wpAny _ _ (getAttr? _ _) _ _ _) | (with_reducible show wpAny _ _ (classCode _ _ _ _ _ _) _ _ _) | (with_reducible show wpAny _ _ (builtinsFor _ _) _ _ _) | (with_reducible show wpAny _ _ (newBodyFrame _ _ _ _) _ _ _) | (with_reducible show wpAny _ _ (enterFrame) _ _ _) | (with_reducible show wpAny _ _ (run _) _ _ _) | (with_reducible show wpAny _ _ (storeName _ _ _) _ _ _) | (with_reducible show wpAny _ _ (loadName _ _) _ _ _) | (with_reducible show wpAny _ _ (call _ _) _ _ _) | (with_reducible show wpAny _ _ (call _ _ _) _ _ _) | (with_reducible show wpAny _ _ (notTheModulesDict _ _) _ _ _) | (with_reducible show wpAny _ _ (specialOf _ _) _ _ _) | (with_reducible show wpAny _ _ (newTuple _) _ _ _) | (with_reducible show wpAny _ _ (newTextTuple _) _ _ _) | (with_reducible show wpAny _ _ (getAttr _ _ _) _ _ _) | (with_reducible show wpAny _ _ (compareOp _ _ _) _ _ _) | (with_reducible show wpAny _ _ (callMarked _ _ _ _) _ _ _) | (with_reducible show wpAny _ _ (buildClassGuard _) _ _ _) | (with_reducible show wpAny _ _ (bindName _ _ _) _ _ _) | (with_reducible show wpAny _ _ (getAttr _ _ _) _ _ _) | (with_reducible show wpAny _ _ (compareOp _ _ _) _ _ _) | (with_reducible show wpAny _ _ (buildClass _ _ _ _ _ _ _ _ _ _ _) _ _ _) | (with_reducible show wpAny _ _ (Sem.onRaise _ _) _ _ _))); wp_delta)))
  refine wpAny_loadName_free fS1_names.2 (by kernel_rfl!) (c := cell) (v := .ref f) (by kernel_rfl!) ⟨oc, hce, hcd⟩ ?_
  (repeat (first | (first | with_reducible (first | refine wpAny_of_eq (t := Builtin.extendedBase _) (a := .type "object") (by kernel_rfl!) ?_ | refine wpAny_of_eq (t := Bind.madeBy (.type _)) (a := some "object.__new__") (by kernel_rfl!) ?_ | refine wpAny_of_eq (t := Builtin.notOverATurnedClass _) (a := ()) (by kernel_rfl!) ?_ | refine wpAny_of_eq (t := Builtin.Slots.bestBase _) (a := .type "object") (by kernel_rfl!) ?_ | refine wpAny_of_eq (t := Builtin.Slots.slotNamesOf (.type _)) (a := []) (by kernel_rfl!) ?_ | refine wpAny_of_eq (t := Builtin.Slots.givesDict (.type _)) (a := false) (by kernel_rfl!) ?_ | refine wpAny_of_eq (t := Builtin.Slots.givesWeak (.type _)) (a := false) (by kernel_rfl!) ?_ | refine wpAny_of_eq (t := Builtin.Slots.varSize (.type _)) (a := false) (by kernel_rfl!) ?_ | refine wpAny_of_eq (t := isSubtype (.type _) (.type _)) (a := true) (by kernel_rfl!) ?_ | refine wpAny_of_eq (t := isType (.type _)) (a := true) (by kernel_rfl!) ?_ | refine wpAny_of_eq (t := typeOf (.type _)) (a := .type "type") (by kernel_rfl!) ?_ | refine wpAny_of_eq (t := typeLookup (.type _) _) (a := some (.builtin "dict.__iter__")) (by kernel_rfl!) ?_ | refine wpAny_of_eq (t := typeLookup (.type _) _) (a := none) (by kernel_rfl!) ?_) | with_reducible (first | refine wpAny_pure ?_ | refine wpAny_bind ?_ | refine wpAny_holding ?_ | refine wpAny_standAt ?_ | refine wpAny_point ?_ | refine wpAny_rule ?_ | refine wpAny_letGo ?_ | refine wpAny_tryCatch ?_ | refine wpAny_mkInt' ?_ | refine wpAny_fresh' ?_ | refine wpAny_attempt ?_ | refine wpAny_of_eq (by assumption) ?_) | ((with_reducible refine' wpAny_mkStr' (hx := ?mX) ?_); (case mX => size_fits)) | ((with_reducible refine' m_alloc ?mD ?mf ?_); (case mD => assumption); (case mf => rfl); intro _ _ _) | ((with_reducible (first | apply wpAny_load' | apply wpAny_loadPart')); focus ((first | assumption | (refine' Mem.at (h := _) ?mD 0 _ _ ?me; (case mD => assumption); (case me => rfl)) | (refine' Mem.at (h := _) ?mD 1 _ _ ?me; (case mD => assumption); (case me => rfl)) | (refine' Mem.at (h := _) ?mD 2 _ _ ?me; (case mD => assumption); (case me => rfl)) | (refine' Mem.at (h := _) ?mD 3 _ _ ?me; (case mD => assumption); (case me => rfl)) | (refine' m_old ?mD ?me; (case mD => assumption); (case me => assumption))); done)) | ((with_reducible refine' m_nsGet none ?mh ?mv ?_); (case mh => (first | assumption | (refine' Mem.at (h := _) ?mD 0 _ _ ?me; (case mD => assumption); (case me => rfl)) | (refine' Mem.at (h := _) ?mD 1 _ _ ?me; (case mD => assumption); (case me => rfl)) | (refine' Mem.at (h := _) ?mD 2 _ _ ?me; (case mD => assumption); (case me => rfl)) | (refine' Mem.at (h := _) ?mD 3 _ _ ?me; (case mD => assumption); (case me => rfl)) | (refine' m_old ?mD ?me; (case mD => assumption); (case me => assumption)))); (case mv => kernel_rfl!)) | ((with_reducible apply wpAny_ite_false); focus (first | (simp only [List.any_toArray]; kernel_rfl!) | (simp only [sizeLine_eq]; simp; done) | kernel_rfl! | simp [*]; done)) | ((with_reducible apply wpAny_ite_true); focus (first | (simp only [List.any_toArray]; kernel_rfl!) | (simp only [sizeLine_eq]; simp; done) | kernel_rfl! | simp [*]; done)) | ((with_reducible show wpAny _ _ (collect _) _ _ _); refine m_collect (vs := [_]) (by assumption) (by assumption) ?_ (by simp [sizeLine_eq]); intro _ _) | with_reducible_and_instances refine wpAny_pure ?_ | with_reducible_and_instances refine wpAny_bind ?_) | ((fail_if_success (first | (with_reducible show wpAny _ _ (nsGet _ _) _ _ _) | (with_reducible show wpAny _ _ (nsSet _ _ _) _ _ _) | (with_reducible show wpAny _ _ (nsDel _ _) _ _ _) | (with_reducible show wpAny _ _ (typeLookup _ _) _ _ _) | (with_reducible show wpAny _ _ (Sem.tryCatch _ _) _ _ _) | (with_reducible show wpAny _ _ (getAttr? _ _) _ _ _) | (with_reducible show wpAny _ _ (classCode _ _ _ _ _ _) _ _ _) | (with_reducible show wpAny _ _ (builtinsFor _ _) _ _ _) | (with_reducible show wpAny _ _ (newBodyFrame _ _ _ _) _ _ _) | (with_reducible show wpAny _ _ (enterFrame) _ _ _) | (with_reducible show wpAny _ _ (run _) _ _ _) | (with_reducible show wpAny _ _ (storeName _ _ _) _ _ _) | (with_reducible show wpAny _ _ (loadName _ _) _ _ _) | (with_reducible show wpAny _ _ (call _ _) _ _ _) | (with_reducible show wpAny _ _ (call _ _ _) _ _ _) | (with_reducible show wpAny _ _ (notTheModulesDict _ _) _ _ _) | (with_reducible show wpAny _ _ (specialOf _ _) _ _ _) | (with_reducible show wpAny _ _ (newTuple _) _ _ _) | (with_reducible show wpAny _ _ (newTextTuple _) _ _ _) | (with_reducible show wpAny _ _ (getAttr _ _ _) _ _ _) | (with_reducible show wpAny _ _ (compareOp _ _ _) _ _ _) | (with_reducible show wpAny _ _ (callMarked _ _ _ _) _ _ _) | (with_reducible show wpAny _ _ (buildClassGuard _) _ _ _) | (with_reducible show wpAny _ _ (bindName _ _ _) _ _ _) | (with_reducible show wpAny _ _ (getAttr _ _ _) _ _ _) | (with_reducible show wpAny _ _ (compareOp _ _ _) _ _ _) | (with_reducible show wpAny _ _ (buildClass _ _ _ _ _ _ _ _ _ _ _) _ _ _) | (with_reducible show wpAny _ _ (Sem.onRaise _ _) _ _ _))); wp_delta)))
  refine wpAny_loadName_local fS1_names.2 (by kernel_rfl!) hns hm1 ?_
  (repeat (first | (first | with_reducible (first | refine wpAny_of_eq (t := Builtin.extendedBase _) (a := .type "object") (by kernel_rfl!) ?_ | refine wpAny_of_eq (t := Bind.madeBy (.type _)) (a := some "object.__new__") (by kernel_rfl!) ?_ | refine wpAny_of_eq (t := Builtin.notOverATurnedClass _) (a := ()) (by kernel_rfl!) ?_ | refine wpAny_of_eq (t := Builtin.Slots.bestBase _) (a := .type "object") (by kernel_rfl!) ?_ | refine wpAny_of_eq (t := Builtin.Slots.slotNamesOf (.type _)) (a := []) (by kernel_rfl!) ?_ | refine wpAny_of_eq (t := Builtin.Slots.givesDict (.type _)) (a := false) (by kernel_rfl!) ?_ | refine wpAny_of_eq (t := Builtin.Slots.givesWeak (.type _)) (a := false) (by kernel_rfl!) ?_ | refine wpAny_of_eq (t := Builtin.Slots.varSize (.type _)) (a := false) (by kernel_rfl!) ?_ | refine wpAny_of_eq (t := isSubtype (.type _) (.type _)) (a := true) (by kernel_rfl!) ?_ | refine wpAny_of_eq (t := isType (.type _)) (a := true) (by kernel_rfl!) ?_ | refine wpAny_of_eq (t := typeOf (.type _)) (a := .type "type") (by kernel_rfl!) ?_ | refine wpAny_of_eq (t := typeLookup (.type _) _) (a := some (.builtin "dict.__iter__")) (by kernel_rfl!) ?_ | refine wpAny_of_eq (t := typeLookup (.type _) _) (a := none) (by kernel_rfl!) ?_) | with_reducible (first | refine wpAny_pure ?_ | refine wpAny_bind ?_ | refine wpAny_holding ?_ | refine wpAny_standAt ?_ | refine wpAny_point ?_ | refine wpAny_rule ?_ | refine wpAny_letGo ?_ | refine wpAny_tryCatch ?_ | refine wpAny_mkInt' ?_ | refine wpAny_fresh' ?_ | refine wpAny_attempt ?_ | refine wpAny_of_eq (by assumption) ?_) | ((with_reducible refine' wpAny_mkStr' (hx := ?mX) ?_); (case mX => size_fits)) | ((with_reducible refine' m_alloc ?mD ?mf ?_); (case mD => assumption); (case mf => rfl); intro _ _ _) | ((with_reducible (first | apply wpAny_load' | apply wpAny_loadPart')); focus ((first | assumption | (refine' Mem.at (h := _) ?mD 0 _ _ ?me; (case mD => assumption); (case me => rfl)) | (refine' Mem.at (h := _) ?mD 1 _ _ ?me; (case mD => assumption); (case me => rfl)) | (refine' Mem.at (h := _) ?mD 2 _ _ ?me; (case mD => assumption); (case me => rfl)) | (refine' Mem.at (h := _) ?mD 3 _ _ ?me; (case mD => assumption); (case me => rfl)) | (refine' m_old ?mD ?me; (case mD => assumption); (case me => assumption))); done)) | ((with_reducible refine' m_nsGet none ?mh ?mv ?_); (case mh => (first | assumption | (refine' Mem.at (h := _) ?mD 0 _ _ ?me; (case mD => assumption); (case me => rfl)) | (refine' Mem.at (h := _) ?mD 1 _ _ ?me; (case mD => assumption); (case me => rfl)) | (refine' Mem.at (h := _) ?mD 2 _ _ ?me; (case mD => assumption); (case me => rfl)) | (refine' Mem.at (h := _) ?mD 3 _ _ ?me; (case mD => assumption); (case me => rfl)) | (refine' m_old ?mD ?me; (case mD => assumption); (case me => assumption)))); (case mv => kernel_rfl!)) | ((with_reducible apply wpAny_ite_false); focus (first | (simp only [List.any_toArray]; kernel_rfl!) | (simp only [sizeLine_eq]; simp; done) | kernel_rfl! | simp [*]; done)) | ((with_reducible apply wpAny_ite_true); focus (first | (simp only [List.any_toArray]; kernel_rfl!) | (simp only [sizeLine_eq]; simp; done) | kernel_rfl! | simp [*]; done)) | ((with_reducible show wpAny _ _ (collect _) _ _ _); refine m_collect (vs := [_]) (by assumption) (by assumption) ?_ (by simp [sizeLine_eq]); intro _ _) | with_reducible_and_instances refine wpAny_pure ?_ | with_reducible_and_instances refine wpAny_bind ?_) | ((fail_if_success (first | (with_reducible show wpAny _ _ (nsGet _ _) _ _ _) | (with_reducible show wpAny _ _ (nsSet _ _ _) _ _ _) | (with_reducible show wpAny _ _ (nsDel _ _) _ _ _) | (with_reducible show wpAny _ _ (typeLookup _ _) _ _ _) | (with_reducible show wpAny _ _ (Sem.tryCatch _ _) _ _ _) | (with_reducible show wpAny _ _ (getAttr? _ _) _ _ _) | (with_reducible show wpAny _ _ (classCode _ _ _ _ _ _) _ _ _) | (with_reducible show wpAny _ _ (builtinsFor _ _) _ _ _) | (with_reducible show wpAny _ _ (newBodyFrame _ _ _ _) _ _ _) | (with_reducible show wpAny _ _ (enterFrame) _ _ _) | (with_reducible show wpAny _ _ (run _) _ _ _) | (with_reducible show wpAny _ _ (storeName _ _ _) _ _ _) | (with_reducible show wpAny _ _ (loadName _ _) _ _ _) | (with_reducible show wpAny _ _ (call _ _) _ _ _) | (with_reducible show wpAny _ _ (call _ _ _) _ _ _) | (with_reducible show wpAny _ _ (notTheModulesDict _ _) _ _ _) | (with_reducible show wpAny _ _ (specialOf _ _) _ _ _) | (with_reducible show wpAny _ _ (newTuple _) _ _ _) | (with_reducible show wpAny _ _ (newTextTuple _) _ _ _) | (with_reducible show wpAny _ _ (getAttr _ _ _) _ _ _) | (with_reducible show wpAny _ _ (compareOp _ _ _) _ _ _) | (with_reducible show wpAny _ _ (callMarked _ _ _ _) _ _ _) | (with_reducible show wpAny _ _ (buildClassGuard _) _ _ _) | (with_reducible show wpAny _ _ (bindName _ _ _) _ _ _) | (with_reducible show wpAny _ _ (getAttr _ _ _) _ _ _) | (with_reducible show wpAny _ _ (compareOp _ _ _) _ _ _) | (with_reducible show wpAny _ _ (buildClass _ _ _ _ _ _ _ _ _ _ _) _ _ _) | (with_reducible show wpAny _ _ (Sem.onRaise _ _) _ _ _))); wp_delta)))
  refine slot_get k ix hv fun t1 => ?_
  (repeat (first | (first | with_reducible (first | refine wpAny_of_eq (t := Builtin.extendedBase _) (a := .type "object") (by kernel_rfl!) ?_ | refine wpAny_of_eq (t := Bind.madeBy (.type _)) (a := some "object.__new__") (by kernel_rfl!) ?_ | refine wpAny_of_eq (t := Builtin.notOverATurnedClass _) (a := ()) (by kernel_rfl!) ?_ | refine wpAny_of_eq (t := Builtin.Slots.bestBase _) (a := .type "object") (by kernel_rfl!) ?_ | refine wpAny_of_eq (t := Builtin.Slots.slotNamesOf (.type _)) (a := []) (by kernel_rfl!) ?_ | refine wpAny_of_eq (t := Builtin.Slots.givesDict (.type _)) (a := false) (by kernel_rfl!) ?_ | refine wpAny_of_eq (t := Builtin.Slots.givesWeak (.type _)) (a := false) (by kernel_rfl!) ?_ | refine wpAny_of_eq (t := Builtin.Slots.varSize (.type _)) (a := false) (by kernel_rfl!) ?_ | refine wpAny_of_eq (t := isSubtype (.type _) (.type _)) (a := true) (by kernel_rfl!) ?_ | refine wpAny_of_eq (t := isType (.type _)) (a := true) (by kernel_rfl!) ?_ | refine wpAny_of_eq (t := typeOf (.type _)) (a := .type "type") (by kernel_rfl!) ?_ | refine wpAny_of_eq (t := typeLookup (.type _) _) (a := some (.builtin "dict.__iter__")) (by kernel_rfl!) ?_ | refine wpAny_of_eq (t := typeLookup (.type _) _) (a := none) (by kernel_rfl!) ?_) | with_reducible (first | refine wpAny_pure ?_ | refine wpAny_bind ?_ | refine wpAny_holding ?_ | refine wpAny_standAt ?_ | refine wpAny_point ?_ | refine wpAny_rule ?_ | refine wpAny_letGo ?_ | refine wpAny_tryCatch ?_ | refine wpAny_mkInt' ?_ | refine wpAny_fresh' ?_ | refine wpAny_attempt ?_ | refine wpAny_of_eq (by assumption) ?_) | ((with_reducible refine' wpAny_mkStr' (hx := ?mX) ?_); (case mX => size_fits)) | ((with_reducible refine' m_alloc ?mD ?mf ?_); (case mD => assumption); (case mf => rfl); intro _ _ _) | ((with_reducible (first | apply wpAny_load' | apply wpAny_loadPart')); focus ((first | assumption | (refine' Mem.at (h := _) ?mD 0 _ _ ?me; (case mD => assumption); (case me => rfl)) | (refine' Mem.at (h := _) ?mD 1 _ _ ?me; (case mD => assumption); (case me => rfl)) | (refine' Mem.at (h := _) ?mD 2 _ _ ?me; (case mD => assumption); (case me => rfl)) | (refine' Mem.at (h := _) ?mD 3 _ _ ?me; (case mD => assumption); (case me => rfl)) | (refine' m_old ?mD ?me; (case mD => assumption); (case me => assumption))); done)) | ((with_reducible refine' m_nsGet none ?mh ?mv ?_); (case mh => (first | assumption | (refine' Mem.at (h := _) ?mD 0 _ _ ?me; (case mD => assumption); (case me => rfl)) | (refine' Mem.at (h := _) ?mD 1 _ _ ?me; (case mD => assumption); (case me => rfl)) | (refine' Mem.at (h := _) ?mD 2 _ _ ?me; (case mD => assumption); (case me => rfl)) | (refine' Mem.at (h := _) ?mD 3 _ _ ?me; (case mD => assumption); (case me => rfl)) | (refine' m_old ?mD ?me; (case mD => assumption); (case me => assumption)))); (case mv => kernel_rfl!)) | ((with_reducible apply wpAny_ite_false); focus (first | (simp only [List.any_toArray]; kernel_rfl!) | (simp only [sizeLine_eq]; simp; done) | kernel_rfl! | simp [*]; done)) | ((with_reducible apply wpAny_ite_true); focus (first | (simp only [List.any_toArray]; kernel_rfl!) | (simp only [sizeLine_eq]; simp; done) | kernel_rfl! | simp [*]; done)) | ((with_reducible show wpAny _ _ (collect _) _ _ _); refine m_collect (vs := [_]) (by assumption) (by assumption) ?_ (by simp [sizeLine_eq]); intro _ _) | with_reducible_and_instances refine wpAny_pure ?_ | with_reducible_and_instances refine wpAny_bind ?_) | ((fail_if_success (first | (with_reducible show wpAny _ _ (nsGet _ _) _ _ _) | (with_reducible show wpAny _ _ (nsSet _ _ _) _ _ _) | (with_reducible show wpAny _ _ (nsDel _ _) _ _ _) | (with_reducible show wpAny _ _ (typeLookup _ _) _ _ _) | (with_reducible show wpAny _ _ (Sem.tryCatch _ _) _ _ _) | (with_reducible show wpAny _ _ (getAttr? _ _) _ _ _) | (with_reducible show wpAny _ _ (classCode _ _ _ _ _ _) _ _ _) | (with_reducible show wpAny _ _ (builtinsFor _ _) _ _ _) | (with_reducible show wpAny _ _ (newBodyFrame _ _ _ _) _ _ _) | (with_reducible show wpAny _ _ (enterFrame) _ _ _) | (with_reducible show wpAny _ _ (run _) _ _ _) | (with_reducible show wpAny _ _ (storeName _ _ _) _ _ _) | (with_reducible show wpAny _ _ (loadName _ _) _ _ _) | (with_reducible show wpAny _ _ (call _ _) _ _ _) | (with_reducible show wpAny _ _ (call _ _ _) _ _ _) | (with_reducible show wpAny _ _ (notTheModulesDict _ _) _ _ _) | (with_reducible show wpAny _ _ (specialOf _ _) _ _ _) | (with_reducible show wpAny _ _ (newTuple _) _ _ _) | (with_reducible show wpAny _ _ (newTextTuple _) _ _ _) | (with_reducible show wpAny _ _ (getAttr _ _ _) _ _ _) | (with_reducible show wpAny _ _ (compareOp _ _ _) _ _ _) | (with_reducible show wpAny _ _ (callMarked _ _ _ _) _ _ _) | (with_reducible show wpAny _ _ (buildClassGuard _) _ _ _) | (with_reducible show wpAny _ _ (bindName _ _ _) _ _ _) | (with_reducible show wpAny _ _ (getAttr _ _ _) _ _ _) | (with_reducible show wpAny _ _ (compareOp _ _ _) _ _ _) | (with_reducible show wpAny _ _ (buildClass _ _ _ _ _ _ _ _ _ _ _) _ _ _) | (with_reducible show wpAny _ _ (Sem.onRaise _ _) _ _ _))); wp_delta)))
  refine wpAny_loadName_local fS1_names.2 (by kernel_rfl!) hns hm2 ?_
  (repeat (first | (first | with_reducible (first | refine wpAny_of_eq (t := Builtin.extendedBase _) (a := .type "object") (by kernel_rfl!) ?_ | refine wpAny_of_eq (t := Bind.madeBy (.type _)) (a := some "object.__new__") (by kernel_rfl!) ?_ | refine wpAny_of_eq (t := Builtin.notOverATurnedClass _) (a := ()) (by kernel_rfl!) ?_ | refine wpAny_of_eq (t := Builtin.Slots.bestBase _) (a := .type "object") (by kernel_rfl!) ?_ | refine wpAny_of_eq (t := Builtin.Slots.slotNamesOf (.type _)) (a := []) (by kernel_rfl!) ?_ | refine wpAny_of_eq (t := Builtin.Slots.givesDict (.type _)) (a := false) (by kernel_rfl!) ?_ | refine wpAny_of_eq (t := Builtin.Slots.givesWeak (.type _)) (a := false) (by kernel_rfl!) ?_ | refine wpAny_of_eq (t := Builtin.Slots.varSize (.type _)) (a := false) (by kernel_rfl!) ?_ | refine wpAny_of_eq (t := isSubtype (.type _) (.type _)) (a := true) (by kernel_rfl!) ?_ | refine wpAny_of_eq (t := isType (.type _)) (a := true) (by kernel_rfl!) ?_ | refine wpAny_of_eq (t := typeOf (.type _)) (a := .type "type") (by kernel_rfl!) ?_ | refine wpAny_of_eq (t := typeLookup (.type _) _) (a := some (.builtin "dict.__iter__")) (by kernel_rfl!) ?_ | refine wpAny_of_eq (t := typeLookup (.type _) _) (a := none) (by kernel_rfl!) ?_) | with_reducible (first | refine wpAny_pure ?_ | refine wpAny_bind ?_ | refine wpAny_holding ?_ | refine wpAny_standAt ?_ | refine wpAny_point ?_ | refine wpAny_rule ?_ | refine wpAny_letGo ?_ | refine wpAny_tryCatch ?_ | refine wpAny_mkInt' ?_ | refine wpAny_fresh' ?_ | refine wpAny_attempt ?_ | refine wpAny_of_eq (by assumption) ?_) | ((with_reducible refine' wpAny_mkStr' (hx := ?mX) ?_); (case mX => size_fits)) | ((with_reducible refine' m_alloc ?mD ?mf ?_); (case mD => assumption); (case mf => rfl); intro _ _ _) | ((with_reducible (first | apply wpAny_load' | apply wpAny_loadPart')); focus ((first | assumption | (refine' Mem.at (h := _) ?mD 0 _ _ ?me; (case mD => assumption); (case me => rfl)) | (refine' Mem.at (h := _) ?mD 1 _ _ ?me; (case mD => assumption); (case me => rfl)) | (refine' Mem.at (h := _) ?mD 2 _ _ ?me; (case mD => assumption); (case me => rfl)) | (refine' Mem.at (h := _) ?mD 3 _ _ ?me; (case mD => assumption); (case me => rfl)) | (refine' m_old ?mD ?me; (case mD => assumption); (case me => assumption))); done)) | ((with_reducible refine' m_nsGet none ?mh ?mv ?_); (case mh => (first | assumption | (refine' Mem.at (h := _) ?mD 0 _ _ ?me; (case mD => assumption); (case me => rfl)) | (refine' Mem.at (h := _) ?mD 1 _ _ ?me; (case mD => assumption); (case me => rfl)) | (refine' Mem.at (h := _) ?mD 2 _ _ ?me; (case mD => assumption); (case me => rfl)) | (refine' Mem.at (h := _) ?mD 3 _ _ ?me; (case mD => assumption); (case me => rfl)) | (refine' m_old ?mD ?me; (case mD => assumption); (case me => assumption)))); (case mv => kernel_rfl!)) | ((with_reducible apply wpAny_ite_false); focus (first | (simp only [List.any_toArray]; kernel_rfl!) | (simp only [sizeLine_eq]; simp; done) | kernel_rfl! | simp [*]; done)) | ((with_reducible apply wpAny_ite_true); focus (first | (simp only [List.any_toArray]; kernel_rfl!) | (simp only [sizeLine_eq]; simp; done) | kernel_rfl! | simp [*]; done)) | ((with_reducible show wpAny _ _ (collect _) _ _ _); refine m_collect (vs := [_]) (by assumption) (by assumption) ?_ (by simp [sizeLine_eq]); intro _ _) | with_reducible_and_instances refine wpAny_pure ?_ | with_reducible_and_instances refine wpAny_bind ?_) | ((fail_if_success (first | (with_reducible show wpAny _ _ (nsGet _ _) _ _ _) | (with_reducible show wpAny _ _ (nsSet _ _ _) _ _ _) | (with_reducible show wpAny _ _ (nsDel _ _) _ _ _) | (with_reducible show wpAny _ _ (typeLookup _ _) _ _ _) | (with_reducible show wpAny _ _ (Sem.tryCatch _ _) _ _ _) | (with_reducible show wpAny _ _ (getAttr? _ _) _ _ _) | (with_reducible show wpAny _ _ (classCode _ _ _ _ _ _) _ _ _) | (with_reducible show wpAny _ _ (builtinsFor _ _) _ _ _) | (with_reducible show wpAny _ _ (newBodyFrame _ _ _ _) _ _ _) | (with_reducible show wpAny _ _ (enterFrame) _ _ _) | (with_reducible show wpAny _ _ (run _) _ _ _) | (with_reducible show wpAny _ _ (storeName _ _ _) _ _ _) | (with_reducible show wpAny _ _ (loadName _ _) _ _ _) | (with_reducible show wpAny _ _ (call _ _) _ _ _) | (with_reducible show wpAny _ _ (call _ _ _) _ _ _) | (with_reducible show wpAny _ _ (notTheModulesDict _ _) _ _ _) | (with_reducible show wpAny _ _ (specialOf _ _) _ _ _) | (with_reducible show wpAny _ _ (newTuple _) _ _ _) | (with_reducible show wpAny _ _ (newTextTuple _) _ _ _) | (with_reducible show wpAny _ _ (getAttr _ _ _) _ _ _) | (with_reducible show wpAny _ _ (compareOp _ _ _) _ _ _) | (with_reducible show wpAny _ _ (callMarked _ _ _ _) _ _ _) | (with_reducible show wpAny _ _ (buildClassGuard _) _ _ _) | (with_reducible show wpAny _ _ (bindName _ _ _) _ _ _) | (with_reducible show wpAny _ _ (getAttr _ _ _) _ _ _) | (with_reducible show wpAny _ _ (compareOp _ _ _) _ _ _) | (with_reducible show wpAny _ _ (buildClass _ _ _ _ _ _ _ _ _ _ _) _ _ _) | (with_reducible show wpAny _ _ (Sem.onRaise _ _) _ _ _))); wp_delta)))
  refine slot_get k iy hu' fun t2 => ?_
  (repeat (first | (first | with_reducible (first | refine wpAny_of_eq (t := Builtin.extendedBase _) (a := .type "object") (by kernel_rfl!) ?_ | refine wpAny_of_eq (t := Bind.madeBy (.type _)) (a := some "object.__new__") (by kernel_rfl!) ?_ | refine wpAny_of_eq (t := Builtin.notOverATurnedClass _) (a := ()) (by kernel_rfl!) ?_ | refine wpAny_of_eq (t := Builtin.Slots.bestBase _) (a := .type "object") (by kernel_rfl!) ?_ | refine wpAny_of_eq (t := Builtin.Slots.slotNamesOf (.type _)) (a := []) (by kernel_rfl!) ?_ | refine wpAny_of_eq (t := Builtin.Slots.givesDict (.type _)) (a := false) (by kernel_rfl!) ?_ | refine wpAny_of_eq (t := Builtin.Slots.givesWeak (.type _)) (a := false) (by kernel_rfl!) ?_ | refine wpAny_of_eq (t := Builtin.Slots.varSize (.type _)) (a := false) (by kernel_rfl!) ?_ | refine wpAny_of_eq (t := isSubtype (.type _) (.type _)) (a := true) (by kernel_rfl!) ?_ | refine wpAny_of_eq (t := isType (.type _)) (a := true) (by kernel_rfl!) ?_ | refine wpAny_of_eq (t := typeOf (.type _)) (a := .type "type") (by kernel_rfl!) ?_ | refine wpAny_of_eq (t := typeLookup (.type _) _) (a := some (.builtin "dict.__iter__")) (by kernel_rfl!) ?_ | refine wpAny_of_eq (t := typeLookup (.type _) _) (a := none) (by kernel_rfl!) ?_) | with_reducible (first | refine wpAny_pure ?_ | refine wpAny_bind ?_ | refine wpAny_holding ?_ | refine wpAny_standAt ?_ | refine wpAny_point ?_ | refine wpAny_rule ?_ | refine wpAny_letGo ?_ | refine wpAny_tryCatch ?_ | refine wpAny_mkInt' ?_ | refine wpAny_fresh' ?_ | refine wpAny_attempt ?_ | refine wpAny_of_eq (by assumption) ?_) | ((with_reducible refine' wpAny_mkStr' (hx := ?mX) ?_); (case mX => size_fits)) | ((with_reducible refine' m_alloc ?mD ?mf ?_); (case mD => assumption); (case mf => rfl); intro _ _ _) | ((with_reducible (first | apply wpAny_load' | apply wpAny_loadPart')); focus ((first | assumption | (refine' Mem.at (h := _) ?mD 0 _ _ ?me; (case mD => assumption); (case me => rfl)) | (refine' Mem.at (h := _) ?mD 1 _ _ ?me; (case mD => assumption); (case me => rfl)) | (refine' Mem.at (h := _) ?mD 2 _ _ ?me; (case mD => assumption); (case me => rfl)) | (refine' Mem.at (h := _) ?mD 3 _ _ ?me; (case mD => assumption); (case me => rfl)) | (refine' m_old ?mD ?me; (case mD => assumption); (case me => assumption))); done)) | ((with_reducible refine' m_nsGet none ?mh ?mv ?_); (case mh => (first | assumption | (refine' Mem.at (h := _) ?mD 0 _ _ ?me; (case mD => assumption); (case me => rfl)) | (refine' Mem.at (h := _) ?mD 1 _ _ ?me; (case mD => assumption); (case me => rfl)) | (refine' Mem.at (h := _) ?mD 2 _ _ ?me; (case mD => assumption); (case me => rfl)) | (refine' Mem.at (h := _) ?mD 3 _ _ ?me; (case mD => assumption); (case me => rfl)) | (refine' m_old ?mD ?me; (case mD => assumption); (case me => assumption)))); (case mv => kernel_rfl!)) | ((with_reducible apply wpAny_ite_false); focus (first | (simp only [List.any_toArray]; kernel_rfl!) | (simp only [sizeLine_eq]; simp; done) | kernel_rfl! | simp [*]; done)) | ((with_reducible apply wpAny_ite_true); focus (first | (simp only [List.any_toArray]; kernel_rfl!) | (simp only [sizeLine_eq]; simp; done) | kernel_rfl! | simp [*]; done)) | ((with_reducible show wpAny _ _ (collect _) _ _ _); refine m_collect (vs := [_]) (by assumption) (by assumption) ?_ (by simp [sizeLine_eq]); intro _ _) | with_reducible_and_instances refine wpAny_pure ?_ | with_reducible_and_instances refine wpAny_bind ?_) | ((fail_if_success (first | (with_reducible show wpAny _ _ (nsGet _ _) _ _ _) | (with_reducible show wpAny _ _ (nsSet _ _ _) _ _ _) | (with_reducible show wpAny _ _ (nsDel _ _) _ _ _) | (with_reducible show wpAny _ _ (typeLookup _ _) _ _ _) | (with_reducible show wpAny _ _ (Sem.tryCatch _ _) _ _ _) | (with_reducible show wpAny _ _ (getAttr? _ _) _ _ _) | (with_reducible show wpAny _ _ (classCode _ _ _ _ _ _) _ _ _) | (with_reducible show wpAny _ _ (builtinsFor _ _) _ _ _) | (with_reducible show wpAny _ _ (newBodyFrame _ _ _ _) _ _ _) | (with_reducible show wpAny _ _ (enterFrame) _ _ _) | (with_reducible show wpAny _ _ (run _) _ _ _) | (with_reducible show wpAny _ _ (storeName _ _ _) _ _ _) | (with_reducible show wpAny _ _ (loadName _ _) _ _ _) | (with_reducible show wpAny _ _ (call _ _) _ _ _) | (with_reducible show wpAny _ _ (call _ _ _) _ _ _) | (with_reducible show wpAny _ _ (notTheModulesDict _ _) _ _ _) | (with_reducible show wpAny _ _ (specialOf _ _) _ _ _) | (with_reducible show wpAny _ _ (newTuple _) _ _ _) | (with_reducible show wpAny _ _ (newTextTuple _) _ _ _) | (with_reducible show wpAny _ _ (getAttr _ _ _) _ _ _) | (with_reducible show wpAny _ _ (compareOp _ _ _) _ _ _) | (with_reducible show wpAny _ _ (callMarked _ _ _ _) _ _ _) | (with_reducible show wpAny _ _ (buildClassGuard _) _ _ _) | (with_reducible show wpAny _ _ (bindName _ _ _) _ _ _) | (with_reducible show wpAny _ _ (getAttr _ _ _) _ _ _) | (with_reducible show wpAny _ _ (compareOp _ _ _) _ _ _) | (with_reducible show wpAny _ _ (buildClass _ _ _ _ _ _ _ _ _ _ _) _ _ _) | (with_reducible show wpAny _ _ (Sem.onRaise _ _) _ _ _))); wp_delta)))
  rw [hofd]
  (repeat (first | (first | with_reducible (first | refine wpAny_of_eq (t := Builtin.extendedBase _) (a := .type "object") (by kernel_rfl!) ?_ | refine wpAny_of_eq (t := Bind.madeBy (.type _)) (a := some "object.__new__") (by kernel_rfl!) ?_ | refine wpAny_of_eq (t := Builtin.notOverATurnedClass _) (a := ()) (by kernel_rfl!) ?_ | refine wpAny_of_eq (t := Builtin.Slots.bestBase _) (a := .type "object") (by kernel_rfl!) ?_ | refine wpAny_of_eq (t := Builtin.Slots.slotNamesOf (.type _)) (a := []) (by kernel_rfl!) ?_ | refine wpAny_of_eq (t := Builtin.Slots.givesDict (.type _)) (a := false) (by kernel_rfl!) ?_ | refine wpAny_of_eq (t := Builtin.Slots.givesWeak (.type _)) (a := false) (by kernel_rfl!) ?_ | refine wpAny_of_eq (t := Builtin.Slots.varSize (.type _)) (a := false) (by kernel_rfl!) ?_ | refine wpAny_of_eq (t := isSubtype (.type _) (.type _)) (a := true) (by kernel_rfl!) ?_ | refine wpAny_of_eq (t := isType (.type _)) (a := true) (by kernel_rfl!) ?_ | refine wpAny_of_eq (t := typeOf (.type _)) (a := .type "type") (by kernel_rfl!) ?_ | refine wpAny_of_eq (t := typeLookup (.type _) _) (a := some (.builtin "dict.__iter__")) (by kernel_rfl!) ?_ | refine wpAny_of_eq (t := typeLookup (.type _) _) (a := none) (by kernel_rfl!) ?_) | with_reducible (first | refine wpAny_pure ?_ | refine wpAny_bind ?_ | refine wpAny_holding ?_ | refine wpAny_standAt ?_ | refine wpAny_point ?_ | refine wpAny_rule ?_ | refine wpAny_letGo ?_ | refine wpAny_tryCatch ?_ | refine wpAny_mkInt' ?_ | refine wpAny_fresh' ?_ | refine wpAny_attempt ?_ | refine wpAny_of_eq (by assumption) ?_) | ((with_reducible refine' wpAny_mkStr' (hx := ?mX) ?_); (case mX => size_fits)) | ((with_reducible refine' m_alloc ?mD ?mf ?_); (case mD => assumption); (case mf => rfl); intro _ _ _) | ((with_reducible (first | apply wpAny_load' | apply wpAny_loadPart')); focus ((first | assumption | (refine' Mem.at (h := _) ?mD 0 _ _ ?me; (case mD => assumption); (case me => rfl)) | (refine' Mem.at (h := _) ?mD 1 _ _ ?me; (case mD => assumption); (case me => rfl)) | (refine' Mem.at (h := _) ?mD 2 _ _ ?me; (case mD => assumption); (case me => rfl)) | (refine' Mem.at (h := _) ?mD 3 _ _ ?me; (case mD => assumption); (case me => rfl)) | (refine' m_old ?mD ?me; (case mD => assumption); (case me => assumption))); done)) | ((with_reducible refine' m_nsGet none ?mh ?mv ?_); (case mh => (first | assumption | (refine' Mem.at (h := _) ?mD 0 _ _ ?me; (case mD => assumption); (case me => rfl)) | (refine' Mem.at (h := _) ?mD 1 _ _ ?me; (case mD => assumption); (case me => rfl)) | (refine' Mem.at (h := _) ?mD 2 _ _ ?me; (case mD => assumption); (case me => rfl)) | (refine' Mem.at (h := _) ?mD 3 _ _ ?me; (case mD => assumption); (case me => rfl)) | (refine' m_old ?mD ?me; (case mD => assumption); (case me => assumption)))); (case mv => kernel_rfl!)) | ((with_reducible apply wpAny_ite_false); focus (first | (simp only [List.any_toArray]; kernel_rfl!) | (simp only [sizeLine_eq]; simp; done) | kernel_rfl! | simp [*]; done)) | ((with_reducible apply wpAny_ite_true); focus (first | (simp only [List.any_toArray]; kernel_rfl!) | (simp only [sizeLine_eq]; simp; done) | kernel_rfl! | simp [*]; done)) | ((with_reducible show wpAny _ _ (collect _) _ _ _); refine m_collect (vs := [_]) (by assumption) (by assumption) ?_ (by simp [sizeLine_eq]); intro _ _) | with_reducible_and_instances refine wpAny_pure ?_ | with_reducible_and_instances refine wpAny_bind ?_) | ((fail_if_success (first | (with_reducible show wpAny _ _ (nsGet _ _) _ _ _) | (with_reducible show wpAny _ _ (nsSet _ _ _) _ _ _) | (with_reducible show wpAny _ _ (nsDel _ _) _ _ _) | (with_reducible show wpAny _ _ (typeLookup _ _) _ _ _) | (with_reducible show wpAny _ _ (Sem.tryCatch _ _) _ _ _) | (with_reducible show wpAny _ _ (getAttr? _ _) _ _ _) | (with_reducible show wpAny _ _ (classCode _ _ _ _ _ _) _ _ _) | (with_reducible show wpAny _ _ (builtinsFor _ _) _ _ _) | (with_reducible show wpAny _ _ (newBodyFrame _ _ _ _) _ _ _) | (with_reducible show wpAny _ _ (enterFrame) _ _ _) | (with_reducible show wpAny _ _ (run _) _ _ _) | (with_reducible show wpAny _ _ (storeName _ _ _) _ _ _) | (with_reducible show wpAny _ _ (loadName _ _) _ _ _) | (with_reducible show wpAny _ _ (call _ _) _ _ _) | (with_reducible show wpAny _ _ (call _ _ _) _ _ _) | (with_reducible show wpAny _ _ (notTheModulesDict _ _) _ _ _) | (with_reducible show wpAny _ _ (specialOf _ _) _ _ _) | (with_reducible show wpAny _ _ (newTuple _) _ _ _) | (with_reducible show wpAny _ _ (newTextTuple _) _ _ _) | (with_reducible show wpAny _ _ (getAttr _ _ _) _ _ _) | (with_reducible show wpAny _ _ (compareOp _ _ _) _ _ _) | (with_reducible show wpAny _ _ (callMarked _ _ _ _) _ _ _) | (with_reducible show wpAny _ _ (buildClassGuard _) _ _ _) | (with_reducible show wpAny _ _ (bindName _ _ _) _ _ _) | (with_reducible show wpAny _ _ (getAttr _ _ _) _ _ _) | (with_reducible show wpAny _ _ (compareOp _ _ _) _ _ _) | (with_reducible show wpAny _ _ (buildClass _ _ _ _ _ _ _ _ _ _ _) _ _ _) | (with_reducible show wpAny _ _ (Sem.onRaise _ _) _ _ _))); wp_delta)))
  show wpAny _ _ (callMarked plainCall (.ref f) [v, u] []) _ _ _
  unfold callMarked
  refine Calls.wpAny_keep ?_
  refine hf _ _ fun tk h' t' kh => ?_
  (repeat (first | (first | with_reducible (first | refine wpAny_of_eq (t := Builtin.extendedBase _) (a := .type "object") (by kernel_rfl!) ?_ | refine wpAny_of_eq (t := Bind.madeBy (.type _)) (a := some "object.__new__") (by kernel_rfl!) ?_ | refine wpAny_of_eq (t := Builtin.notOverATurnedClass _) (a := ()) (by kernel_rfl!) ?_ | refine wpAny_of_eq (t := Builtin.Slots.bestBase _) (a := .type "object") (by kernel_rfl!) ?_ | refine wpAny_of_eq (t := Builtin.Slots.slotNamesOf (.type _)) (a := []) (by kernel_rfl!) ?_ | refine wpAny_of_eq (t := Builtin.Slots.givesDict (.type _)) (a := false) (by kernel_rfl!) ?_ | refine wpAny_of_eq (t := Builtin.Slots.givesWeak (.type _)) (a := false) (by kernel_rfl!) ?_ | refine wpAny_of_eq (t := Builtin.Slots.varSize (.type _)) (a := false) (by kernel_rfl!) ?_ | refine wpAny_of_eq (t := isSubtype (.type _) (.type _)) (a := true) (by kernel_rfl!) ?_ | refine wpAny_of_eq (t := isType (.type _)) (a := true) (by kernel_rfl!) ?_ | refine wpAny_of_eq (t := typeOf (.type _)) (a := .type "type") (by kernel_rfl!) ?_ | refine wpAny_of_eq (t := typeLookup (.type _) _) (a := some (.builtin "dict.__iter__")) (by kernel_rfl!) ?_ | refine wpAny_of_eq (t := typeLookup (.type _) _) (a := none) (by kernel_rfl!) ?_) | with_reducible (first | refine wpAny_pure ?_ | refine wpAny_bind ?_ | refine wpAny_holding ?_ | refine wpAny_standAt ?_ | refine wpAny_point ?_ | refine wpAny_rule ?_ | refine wpAny_letGo ?_ | refine wpAny_tryCatch ?_ | refine wpAny_mkInt' ?_ | refine wpAny_fresh' ?_ | refine wpAny_attempt ?_ | refine wpAny_of_eq (by assumption) ?_) | ((with_reducible refine' wpAny_mkStr' (hx := ?mX) ?_); (case mX => size_fits)) | ((with_reducible refine' m_alloc ?mD ?mf ?_); (case mD => assumption); (case mf => rfl); intro _ _ _) | ((with_reducible (first | apply wpAny_load' | apply wpAny_loadPart')); focus ((first | assumption | (refine' Mem.at (h := _) ?mD 0 _ _ ?me; (case mD => assumption); (case me => rfl)) | (refine' Mem.at (h := _) ?mD 1 _ _ ?me; (case mD => assumption); (case me => rfl)) | (refine' Mem.at (h := _) ?mD 2 _ _ ?me; (case mD => assumption); (case me => rfl)) | (refine' Mem.at (h := _) ?mD 3 _ _ ?me; (case mD => assumption); (case me => rfl)) | (refine' m_old ?mD ?me; (case mD => assumption); (case me => assumption))); done)) | ((with_reducible refine' m_nsGet none ?mh ?mv ?_); (case mh => (first | assumption | (refine' Mem.at (h := _) ?mD 0 _ _ ?me; (case mD => assumption); (case me => rfl)) | (refine' Mem.at (h := _) ?mD 1 _ _ ?me; (case mD => assumption); (case me => rfl)) | (refine' Mem.at (h := _) ?mD 2 _ _ ?me; (case mD => assumption); (case me => rfl)) | (refine' Mem.at (h := _) ?mD 3 _ _ ?me; (case mD => assumption); (case me => rfl)) | (refine' m_old ?mD ?me; (case mD => assumption); (case me => assumption)))); (case mv => kernel_rfl!)) | ((with_reducible apply wpAny_ite_false); focus (first | (simp only [List.any_toArray]; kernel_rfl!) | (simp only [sizeLine_eq]; simp; done) | kernel_rfl! | simp [*]; done)) | ((with_reducible apply wpAny_ite_true); focus (first | (simp only [List.any_toArray]; kernel_rfl!) | (simp only [sizeLine_eq]; simp; done) | kernel_rfl! | simp [*]; done)) | ((with_reducible show wpAny _ _ (collect _) _ _ _); refine m_collect (vs := [_]) (by assumption) (by assumption) ?_ (by simp [sizeLine_eq]); intro _ _) | with_reducible_and_instances refine wpAny_pure ?_ | with_reducible_and_instances refine wpAny_bind ?_) | ((fail_if_success (first | (with_reducible show wpAny _ _ (nsGet _ _) _ _ _) | (with_reducible show wpAny _ _ (nsSet _ _ _) _ _ _) | (with_reducible show wpAny _ _ (nsDel _ _) _ _ _) | (with_reducible show wpAny _ _ (typeLookup _ _) _ _ _) | (with_reducible show wpAny _ _ (Sem.tryCatch _ _) _ _ _) | (with_reducible show wpAny _ _ (getAttr? _ _) _ _ _) | (with_reducible show wpAny _ _ (classCode _ _ _ _ _ _) _ _ _) | (with_reducible show wpAny _ _ (builtinsFor _ _) _ _ _) | (with_reducible show wpAny _ _ (newBodyFrame _ _ _ _) _ _ _) | (with_reducible show wpAny _ _ (enterFrame) _ _ _) | (with_reducible show wpAny _ _ (run _) _ _ _) | (with_reducible show wpAny _ _ (storeName _ _ _) _ _ _) | (with_reducible show wpAny _ _ (loadName _ _) _ _ _) | (with_reducible show wpAny _ _ (call _ _) _ _ _) | (with_reducible show wpAny _ _ (call _ _ _) _ _ _) | (with_reducible show wpAny _ _ (notTheModulesDict _ _) _ _ _) | (with_reducible show wpAny _ _ (specialOf _ _) _ _ _) | (with_reducible show wpAny _ _ (newTuple _) _ _ _) | (with_reducible show wpAny _ _ (newTextTuple _) _ _ _) | (with_reducible show wpAny _ _ (getAttr _ _ _) _ _ _) | (with_reducible show wpAny _ _ (compareOp _ _ _) _ _ _) | (with_reducible show wpAny _ _ (callMarked _ _ _ _) _ _ _) | (with_reducible show wpAny _ _ (buildClassGuard _) _ _ _) | (with_reducible show wpAny _ _ (bindName _ _ _) _ _ _) | (with_reducible show wpAny _ _ (getAttr _ _ _) _ _ _) | (with_reducible show wpAny _ _ (compareOp _ _ _) _ _ _) | (with_reducible show wpAny _ _ (buildClass _ _ _ _ _ _ _ _ _ _ _) _ _ _) | (with_reducible show wpAny _ _ (Sem.onRaise _ _) _ _ _))); wp_delta)))
  refine lt_int ?_
  (repeat (first | (first | with_reducible (first | refine wpAny_of_eq (t := Builtin.extendedBase _) (a := .type "object") (by kernel_rfl!) ?_ | refine wpAny_of_eq (t := Bind.madeBy (.type _)) (a := some "object.__new__") (by kernel_rfl!) ?_ | refine wpAny_of_eq (t := Builtin.notOverATurnedClass _) (a := ()) (by kernel_rfl!) ?_ | refine wpAny_of_eq (t := Builtin.Slots.bestBase _) (a := .type "object") (by kernel_rfl!) ?_ | refine wpAny_of_eq (t := Builtin.Slots.slotNamesOf (.type _)) (a := []) (by kernel_rfl!) ?_ | refine wpAny_of_eq (t := Builtin.Slots.givesDict (.type _)) (a := false) (by kernel_rfl!) ?_ | refine wpAny_of_eq (t := Builtin.Slots.givesWeak (.type _)) (a := false) (by kernel_rfl!) ?_ | refine wpAny_of_eq (t := Builtin.Slots.varSize (.type _)) (a := false) (by kernel_rfl!) ?_ | refine wpAny_of_eq (t := isSubtype (.type _) (.type _)) (a := true) (by kernel_rfl!) ?_ | refine wpAny_of_eq (t := isType (.type _)) (a := true) (by kernel_rfl!) ?_ | refine wpAny_of_eq (t := typeOf (.type _)) (a := .type "type") (by kernel_rfl!) ?_ | refine wpAny_of_eq (t := typeLookup (.type _) _) (a := some (.builtin "dict.__iter__")) (by kernel_rfl!) ?_ | refine wpAny_of_eq (t := typeLookup (.type _) _) (a := none) (by kernel_rfl!) ?_) | with_reducible (first | refine wpAny_pure ?_ | refine wpAny_bind ?_ | refine wpAny_holding ?_ | refine wpAny_standAt ?_ | refine wpAny_point ?_ | refine wpAny_rule ?_ | refine wpAny_letGo ?_ | refine wpAny_tryCatch ?_ | refine wpAny_mkInt' ?_ | refine wpAny_fresh' ?_ | refine wpAny_attempt ?_ | refine wpAny_of_eq (by assumption) ?_) | ((with_reducible refine' wpAny_mkStr' (hx := ?mX) ?_); (case mX => size_fits)) | ((with_reducible refine' m_alloc ?mD ?mf ?_); (case mD => assumption); (case mf => rfl); intro _ _ _) | ((with_reducible (first | apply wpAny_load' | apply wpAny_loadPart')); focus ((first | assumption | (refine' Mem.at (h := _) ?mD 0 _ _ ?me; (case mD => assumption); (case me => rfl)) | (refine' Mem.at (h := _) ?mD 1 _ _ ?me; (case mD => assumption); (case me => rfl)) | (refine' Mem.at (h := _) ?mD 2 _ _ ?me; (case mD => assumption); (case me => rfl)) | (refine' Mem.at (h := _) ?mD 3 _ _ ?me; (case mD => assumption); (case me => rfl)) | (refine' m_old ?mD ?me; (case mD => assumption); (case me => assumption))); done)) | ((with_reducible refine' m_nsGet none ?mh ?mv ?_); (case mh => (first | assumption | (refine' Mem.at (h := _) ?mD 0 _ _ ?me; (case mD => assumption); (case me => rfl)) | (refine' Mem.at (h := _) ?mD 1 _ _ ?me; (case mD => assumption); (case me => rfl)) | (refine' Mem.at (h := _) ?mD 2 _ _ ?me; (case mD => assumption); (case me => rfl)) | (refine' Mem.at (h := _) ?mD 3 _ _ ?me; (case mD => assumption); (case me => rfl)) | (refine' m_old ?mD ?me; (case mD => assumption); (case me => assumption)))); (case mv => kernel_rfl!)) | ((with_reducible apply wpAny_ite_false); focus (first | (simp only [List.any_toArray]; kernel_rfl!) | (simp only [sizeLine_eq]; simp; done) | kernel_rfl! | simp [*]; done)) | ((with_reducible apply wpAny_ite_true); focus (first | (simp only [List.any_toArray]; kernel_rfl!) | (simp only [sizeLine_eq]; simp; done) | kernel_rfl! | simp [*]; done)) | ((with_reducible show wpAny _ _ (collect _) _ _ _); refine m_collect (vs := [_]) (by assumption) (by assumption) ?_ (by simp [sizeLine_eq]); intro _ _) | with_reducible_and_instances refine wpAny_pure ?_ | with_reducible_and_instances refine wpAny_bind ?_) | ((fail_if_success (first | (with_reducible show wpAny _ _ (nsGet _ _) _ _ _) | (with_reducible show wpAny _ _ (nsSet _ _ _) _ _ _) | (with_reducible show wpAny _ _ (nsDel _ _) _ _ _) | (with_reducible show wpAny _ _ (typeLookup _ _) _ _ _) | (with_reducible show wpAny _ _ (Sem.tryCatch _ _) _ _ _) | (with_reducible show wpAny _ _ (getAttr? _ _) _ _ _) | (with_reducible show wpAny _ _ (classCode _ _ _ _ _ _) _ _ _) | (with_reducible show wpAny _ _ (builtinsFor _ _) _ _ _) | (with_reducible show wpAny _ _ (newBodyFrame _ _ _ _) _ _ _) | (with_reducible show wpAny _ _ (enterFrame) _ _ _) | (with_reducible show wpAny _ _ (run _) _ _ _) | (with_reducible show wpAny _ _ (storeName _ _ _) _ _ _) | (with_reducible show wpAny _ _ (loadName _ _) _ _ _) | (with_reducible show wpAny _ _ (call _ _) _ _ _) | (with_reducible show wpAny _ _ (call _ _ _) _ _ _) | (with_reducible show wpAny _ _ (notTheModulesDict _ _) _ _ _) | (with_reducible show wpAny _ _ (specialOf _ _) _ _ _) | (with_reducible show wpAny _ _ (newTuple _) _ _ _) | (with_reducible show wpAny _ _ (newTextTuple _) _ _ _) | (with_reducible show wpAny _ _ (getAttr _ _ _) _ _ _) | (with_reducible show wpAny _ _ (compareOp _ _ _) _ _ _) | (with_reducible show wpAny _ _ (callMarked _ _ _ _) _ _ _) | (with_reducible show wpAny _ _ (buildClassGuard _) _ _ _) | (with_reducible show wpAny _ _ (bindName _ _ _) _ _ _) | (with_reducible show wpAny _ _ (getAttr _ _ _) _ _ _) | (with_reducible show wpAny _ _ (compareOp _ _ _) _ _ _) | (with_reducible show wpAny _ _ (buildClass _ _ _ _ _ _ _ _ _ _ _) _ _ _) | (with_reducible show wpAny _ _ (Sem.onRaise _ _) _ _ _))); wp_delta)))
  exact hq _ _ kh
noncomputable def Cmp (w : World) (mean : ExcName → Option Value) (mg mb : Str → Option Value) (gd : Option (List Code)) (N M : Nat) (h : Heap) (f : Addr) (v u : Value) (n : Int) : Prop :=
  ∀ dp un outer (s : Shared) (E : Value → Shared → Prop) (Q : Value → Shared → Prop), h.StaysIn s.heap → Rdy w mean mg mb dp un gd outer s.heap → dp ≤ N → un ≤ M → (∀ tk h' t', s.heap.StaysIn h' → Q (.int n tk) { s with heap := h', toks := t' }) →
    wpAny (model PySem.Challenge.rw_ny0140_01.row.prog w) (Am dp un gd outer) (call (.ref f) [v, u]) Q E s
theorem lt_call {s : Shared} {E Q : Value → Shared → Prop} {c cell nd x y f f2 : Addr} {v u : Value} {oc of : Obj} {ffd : FuncData} {n : Int} {N M : Nat} (Y : Rdy w mean mg mb dp un gd outer s.heap)
    (k : KIs w.params s.heap c cell nd) (ix : Ins w.params s.heap c x v) (iy : Ins w.params s.heap c y u) (hv : handedOut v = pure v) (hu' : handedOut u = pure u) (hof : s.heap.get? f = some of) (hofd : of.data = .func ffd) (hce : s.heap.get? cell = some oc) (hcd : oc.data = .cell (some (.ref f)))
    {ct pm : Value} {c1 : Addr} (e5 : s.heap.get? f2 = some (kFun (fN 1) (kQ 1) (fA 1) (fB 1) (fS 1) [(Str.ofString "mycmp", cell)] ct (.ref c1) pm)) (e7 : Crt s.heap c1 (kQ 1))
    (hc : Cmp w mean mg mb gd N M s.heap f v u n) (hN : dp + 1 ≤ N) (hM : un + 3 ≤ M) (hN2 : dp + 1 ≤ 350) (hM2 : un + 3 ≤ 80)
    (hq : ∀ h' t', s.heap.StaysIn h' → Q (.bool (decide (n < 0))) { s with heap := h', toks := t' }) :
    wpAny (model PySem.Challenge.rw_ny0140_01.row.prog w) (Am dp un gd outer) (call (.ref f2) [.ref x, .ref y]) Q E s := by
  obtain ⟨⟨base, B⟩, YK, YT⟩ := id Y
  refine wpAny_call (codeAny_call_function (Nat.lt_of_le_of_lt (Nat.le_of_succ_le hN2) (by decide)) e5 rfl (by kernel_rfl!) (by kernel_rfl!) rfl e7.rec' ?_)
  refine wpAny_of_eq (a := [(Str.ofString "self", .ref x), (Str.ofString "other", .ref y)]) (by kernel_rfl!) ?_
  refine wpAny_newFunctionEnv (by intro x hx; rw [show (kFd (fN 1) (kQ 1) (fA 1) (fB 1) (fS 1) [(Str.ofString "mycmp", cell)] ct (.ref c1) pm).scope.names = _ from fS1_names.1] at hx; revert x; decide) ?_ (fun h₁ hns hsb => ⟨YT.nolimit.fresh _ hsb, codeAny_func ?_⟩) fS1_names.2
  · intro p hp
    show (fS 1).names.lookup p.1 = some .local
    rw [fS1_names.1]
    simp only [List.mem_cons, List.not_mem_nil, or_false] at hp
    rcases hp with rfl | rfl <;> kernel_rfl!
  have hk₁ : ∀ b o, s.heap.get? b = some o → h₁.get? b = some o := fun b o e => hsb.extBut b o (Nat.ne_of_lt (Heap.lt_size e)) (Heap.get?_push_of_some _ e)
  have F : Fr s.heap s.heap.objs.size h₁ (fun y' => [(Str.ofString "self", Value.ref x), (Str.ofString "other", Value.ref y)].reverse.lookup y') := ⟨hns, hk₁, Nat.le_refl _⟩
  have Y1 : Rdy w mean mg mb (dp + 1) (un + 3) gd (lEnv s.heap.objs.size f2 c1 cell :: outer) h₁ := Rdy.inner B YK YT F fS1_names.2
  show wpAny _ (Am (dp + 1) (un + 3) gd (lEnv s.heap.objs.size f2 c1 cell :: outer)) (execs (fB 1) (lEnv s.heap.objs.size f2 c1 cell)) _ _ _
  refine lt_body (k.keeps hk₁) (ix.keeps hk₁) (iy.keeps hk₁) hv hu' hns (by kernel_rfl!) (by kernel_rfl!) (hk₁ _ _ hof) hofd (hk₁ _ _ hce) hcd (fun h' t' k' => hq h' t' fun b o e => k' _ _ (hk₁ b o e)) fun t' Q' hr => ?_
  exact hc _ _ _ _ _ Q' hk₁ Y1 hN hM fun tk h' t'' k' => hr tk h' t'' k'
theorem m_lookupOwn {M : Model} {A : Around} {E : Value → Shared → Prop} {s : Shared} {c nd : Addr} {oc on : Obj} {cd : ClassData} {name : Str} {v : Value} {Q : Option Value → Shared → Prop}
    (hc : s.heap.get? c = some oc) (hcd : oc.data = .cls cd) (hm : cd.mro = [.ref c, .type "object"]) (hnd : cd.ns = nd) (hn : s.heap.get? nd = some on) (hv : nsLook name on = pure (some v)) (hq : Q (some v) s) :
    wpAny M A (typeLookup (.ref c) name) Q E s := by
  subst hnd
  unfold typeLookup mroOf classData
  refine wpAny_bind (wpAny_bind (wpAny_bind (wpAny_load hc ?_)))
  rw [hcd]
  refine wpAny_pure (wpAny_pure ?_)
  rw [hm]
  have e2 : wpAny M A (classOwn (.ref c) name) (fun v' s' => v' = some v ∧ s' = s) E s := by
    unfold classOwn classData
    refine wpAny_bind (wpAny_bind (wpAny_load hc ?_))
    rw [hcd]
    exact wpAny_pure (m_nsGet (some v) hn hv ⟨rfl, rfl⟩)
  simp only [List.forIn_cons, List.forIn_nil]
  refine wpAny_bind (wpAny_bind (wpAny_bind (wpAny_mono e2 (fun v' s' hh => ?_) fun _ _ x => x)))
  obtain ⟨rfl, rfl⟩ := hh
  exact wpAny_pure (wpAny_pure (wpAny_pure hq))
theorem lt_ask {s : Shared} {E : Value → Shared → Prop} {Q : Bool → Shared → Prop} {c cell nd x y f : Addr} {v u : Value} {oc of : Obj} {ffd : FuncData} {n : Int} {N M : Nat} (Y : Rdy w mean mg mb dp un gd outer s.heap)
    (k : KIs w.params s.heap c cell nd) (ix : Ins w.params s.heap c x v) (iy : Ins w.params s.heap c y u) (hv : handedOut v = pure v) (hu' : handedOut u = pure u) (hof : s.heap.get? f = some of) (hofd : of.data = .func ffd) (hce : s.heap.get? cell = some oc) (hcd : oc.data = .cell (some (.ref f)))
    (hc : Cmp w mean mg mb gd N M s.heap f v u n) (hN : dp + 1 ≤ N) (hM : un + 3 ≤ M) (hN2 : dp + 1 ≤ 350) (hM2 : un + 3 ≤ 80)
    (hq : ∀ h' t', s.heap.StaysIn h' → Q (decide (n < 0)) { s with heap := h', toks := t' }) :
    wpAny (model PySem.Challenge.rw_ny0140_01.row.prog w) (Am dp un gd outer) (keyLt' oneType' (.ref x) (.ref y)) Q E s := by
  obtain ⟨md, bT, K, tk, tm, ct0, ct1, pm0, pm1, c0, c1, e1, e2, e3, e4, e5, e6, e7⟩ := id k
  rw [keyLt'_oneType, oneLt'_eq]
  simp only [if_true]
  refine wpAny_bind (wpAny_cRoomFor (Nat.lt_of_le_of_lt (Nat.le_trans (Nat.le_add_right un 3) hM2) (by decide)) ?_)
  refine wpAny_bind ?_
  have call2 : ∀ (E2 : Value → Shared → Prop) (Q2 : Value → Shared → Prop), (∀ h' t', s.heap.StaysIn h' → Q2 (.bool (decide (n < 0))) { s with heap := h', toks := t' }) → wpAny (model PySem.Challenge.rw_ny0140_01.row.prog w) (Am dp un gd outer) (call (.ref K.f2) [.ref x, .ref y]) Q2 E2 s :=
    fun E2 Q2 h2 => lt_call Y k ix iy hv hu' hof hofd hce hcd e5 e7 hc hN hM hN2 hM2 h2
  simp only [callSpecialIfBound?, bindSpecialIfBound?]
  refine wpAny_holding (wpAny_bind (wpAny_bind (wpAny_bind (type_ins (P := w.params) ix ?_))))
  refine m_lookupOwn e1 rfl rfl rfl e2 (v := .ref K.f2) (by kernel_rfl!) ?_
  refine wpAny_bind (wpAny_askSetting (wpAny_ite ?_))
  have bs : ∀ (E3 : Value → Shared → Prop) (Q3 : Value × List Value → Shared → Prop), Q3 (.ref K.f2, [.ref x]) s → wpAny (model PySem.Challenge.rw_ny0140_01.row.prog w) (Am dp un gd outer) (bindSpecial (.ref K.f2) (.ref x)) Q3 E3 s := fun E3 Q3 h3 => by
    unfold bindSpecial
    refine wpAny_bind (wpAny_typeOf (T := "function") ⟨_, e5, rfl⟩ ?_)
    exact wpAny_ite_true (by kernel_rfl!) (wpAny_pure h3)
  have fin : wpAny (model PySem.Challenge.rw_ny0140_01.row.prog w) (Am dp un gd outer) (do let v ← call (.ref K.f2) ([.ref x] ++ [.ref y]); pure (some v)) (fun a s' => wpAny (model PySem.Challenge.rw_ny0140_01.row.prog w) (Am dp un gd outer)
      (match a with
        | some .notImplemented => do rule "list.sort.lt-declined"; truthOfDropped (← richCompare .Lt (.ref x) (.ref y))
        | none => do rule "list.sort.lt-declined"; truthOfDropped (← richCompare .Lt (.ref x) (.ref y))
        | some r => truthOfDropped r) Q E s') E s := by
    refine wpAny_bind (call2 _ _ fun h' t' kh => wpAny_pure ?_)
    show wpAny _ _ (truthOfDropped (.bool (decide (n < 0)))) _ _ _
    unfold truthOfDropped
    exact wpAny_truthy_bool (hq h' t' kh)
  split
  · exact wpAny_bind (bs _ _ (wpAny_pure fin))
  · exact wpAny_tryCatch (wpAny_bind (bs _ _ (wpAny_pure fin)))
end
section
open PySem PySem.W PySem.Calls PyProof.Rows
set_option maxHeartbeats 4000000
noncomputable abbrev gt (p : Array Nat) (i : Nat) : Nat := p.getD i 0
theorem gt_some {p : Array Nat} {i : Nat} (h : i < p.size) : p[i]? = some (gt p i) := by simp [gt, Array.getD, h]
theorem gt_of {p : Array Nat} {i v : Nat} (h : p[i]? = some v) : gt p i = v := by
  obtain ⟨hi, rfl⟩ := Array.getElem?_eq_some_iff.mp h
  simp [gt, Array.getD, hi]
section
variable {n : Nat} {lt : Nat → Nat → Bool} {cmp : Nat → Nat → (Bool → Shared → Prop) → Shared → Prop} {I : Shared → Prop}
structure Pm (n : Nat) (p : Array Nat) : Prop where
  size : p.size = n
  perm : p.Perm (List.range n).toArray
theorem Pm.bd {p : Array Nat} (h : Pm n p) {i : Nat} (hi : i < n) : gt p i < n := by
  have hi' : i < p.size := by rw [h.size]; exact hi
  have hm : gt p i ∈ p.toList := by
    have : p.toList[i]? = some (gt p i) := by rw [Array.getElem?_toList]; exact gt_some hi'
    exact List.mem_of_getElem? this
  have := (Array.perm_iff_toList_perm.mp h.perm).mem_iff.mp hm
  simpa using this
theorem Pm.rev {p : Array Nat} (h : Pm n p) (i j : Nat) : Pm n (kas_rev p i j) := ⟨(mirror_size _ _ _ _).trans h.size, (mirror_perm _ _ _ _).trans h.perm⟩
theorem Pm.bub {p : Array Nat} (h : Pm n p) (i j : Nat) : Pm n (bubble p i j) := ⟨(bubble_size _ _ _).trans h.size, (bubble_perm _ _ _).trans h.perm⟩
theorem rev_at {p : Array Nat} {i j k : Nat} (hj : j ≤ p.size) (hij : i ≤ j) (hk : k < p.size) : gt (kas_rev p i j) k = if i ≤ k ∧ k < j then gt p (i + j - 1 - k) else gt p k := by
  have e := getElem?_mirror (xs := p) (i := i) hj ((j - i) / 2) (by lia) k
  refine gt_of (e.trans ?_)
  by_cases hin : i ≤ k ∧ k < j
  · rw [if_pos hin]
    by_cases hd : (i ≤ k ∧ k < i + (j - i) / 2) ∨ (j - (j - i) / 2 ≤ k ∧ k < j)
    · rw [if_pos hd]; exact gt_some (by lia)
    · rw [if_neg hd]
      have : k = i + j - 1 - k := by lia
      rw [← this]; exact gt_some hk
  · rw [if_neg hin, if_neg (by lia)]; exact gt_some hk
theorem bub_at {p : Array Nat} {k l i : Nat} (hk : k < p.size) (hl : l ≤ k) (hi : i < p.size) : gt (bubble p k (k - l)) i = if i = l then gt p k else if l < i ∧ i ≤ k then gt p (i - 1) else gt p i := by
  have e := getElem?_bubble (xs := p) hk (k - l) (by lia) i
  refine gt_of (e.trans ?_)
  have h1 : k - (k - l) = l := by lia
  rw [h1]
  by_cases a : i = l
  · rw [if_pos a, if_pos a]; exact gt_some hk
  · rw [if_neg a, if_neg a]
    by_cases b : l < i ∧ i ≤ k
    · rw [if_pos b, if_pos b]; exact gt_some (by lia)
    · rw [if_neg b, if_neg b]; exact gt_some hi
noncomputable def Up (lt : Nat → Nat → Bool) (p : Array Nat) (m : Nat) : Prop := ∀ i j, i ≤ j → j < m → lt (gt p j) (gt p i) = false
noncomputable def Dn (lt : Nat → Nat → Bool) (p : Array Nat) (m : Nat) : Prop := ∀ i j, i ≤ j → j < m → lt (gt p i) (gt p j) = false
variable (asym : ∀ i j, lt i j = true → lt j i = false) (trans : ∀ i j k, lt j i = false → lt k j = false → lt k i = false)
  (H : ∀ i j (C : Bool → Shared → Prop) s, i < n → j < n → I s → (∀ s', I s' → C (lt i j) s') → cmp i j C s)
include asym trans in
theorem irr (i : Nat) : lt i i = false := by
  cases h : lt i i with
  | false => rfl
  | true => rw [asym i i h] at h; cases h
include asym trans in
theorem Up.one (p : Array Nat) : Up lt p 1 := fun i j hij hj => by
  have : i = j := by lia
  subst this; exact irr asym trans _
include asym trans in
theorem Up.more {p : Array Nat} {m : Nat} (h : Up lt p m) (h1 : 1 ≤ m) (hc : lt (gt p m) (gt p (m - 1)) = false) : Up lt p (m + 1) := fun i j hij hj => by
  by_cases hjm : j < m
  · exact h i j hij hjm
  · have : j = m := by lia
    subst this
    by_cases him : i = j
    · subst him; exact irr asym trans _
    · exact trans _ _ _ (h i (j - 1) (by lia) (by lia)) hc
include asym trans H in
theorem asc_ok {p : Array Nat} (hp : Pm n p) {Q : Nat → Shared → Prop} : ∀ (f m : Nat) (s : Shared), Up lt p m → 1 ≤ m → m + f ≤ n → I s →
    (∀ m' s', I s' → m ≤ m' → m' ≤ m + f → Up lt p m' → (m' < m + f → lt (gt p m') (gt p (m' - 1)) = true) → Q m' s') → (kas_asc p f m).kasWp cmp Q s
  | 0, m, s, hu, h1, hn, hs, hq => hq m s hs (Nat.le_refl _) (Nat.le_refl _) hu (fun h => absurd h (Nat.lt_irrefl _))
  | f + 1, m, s, hu, h1, hn, hs, hq => by
    refine H _ _ _ s (hp.bd (by lia)) (hp.bd (by lia)) hs fun s' hs' => ?_
    cases hc : lt (gt p m) (gt p (m - 1)) with
    | true =>
      show (if true = true then KasT.ret m else kas_asc p f (m + 1)).kasWp cmp Q s'
      exact hq m s' hs' (Nat.le_refl _) (by lia) hu fun _ => hc
    | false =>
      show (if false = true then KasT.ret m else kas_asc p f (m + 1)).kasWp cmp Q s'
      rw [if_neg (by decide)]
      exact asc_ok hp f (m + 1) s' (hu.more asym trans h1 hc) (by lia) (by lia) hs' fun m' s'' h2 h3 h4 h5 h6 => hq m' s'' h2 (by lia) (by lia) h5 fun h => h6 (by lia)
include asym trans in
theorem Dn.more {p : Array Nat} {m : Nat} (h : Dn lt p m) (h1 : 1 ≤ m) (hc : lt (gt p (m - 1)) (gt p m) = false) : Dn lt p (m + 1) := fun i j hij hj => by
  by_cases hjm : j < m
  · exact h i j hij hjm
  · have : j = m := by lia
    subst this
    by_cases him : i = j
    · subst him; exact irr asym trans _
    · exact trans _ _ _ hc (h i (j - 1) (by lia) (by lia))
noncomputable def Al (lt : Nat → Nat → Bool) (p : Array Nat) (a m : Nat) : Prop := ∀ i j, a ≤ i → i < m → a ≤ j → j < m → lt (gt p i) (gt p j) = false
theorem Al.rev {p : Array Nat} {a m : Nat} (h : Al lt p a m) (hm : m ≤ p.size) (ham : a ≤ m) : Al lt (kas_rev p a m) a m := fun i j h1 h2 h3 h4 => by
  rw [rev_at hm ham (by lia), rev_at hm ham (by lia), if_pos ⟨h1, h2⟩, if_pos ⟨h3, h4⟩]
  exact h _ _ (by lia) (by lia) (by lia) (by lia)
theorem Dn.rev {p : Array Nat} {a m : Nat} (h : Dn lt p m) (ha : Al lt p a m) (hm : m ≤ p.size) (ham : a ≤ m) : Dn lt (kas_rev p a m) m := fun i j hij hj => by
  by_cases h1 : a ≤ i
  · exact ha.rev hm ham i j h1 (by lia) (by lia) hj
  · rw [rev_at hm ham (by lia), if_neg (by lia), rev_at hm ham (by lia)]
    by_cases h2 : a ≤ j
    · rw [if_pos ⟨h2, hj⟩]; exact h _ _ (by lia) (by lia)
    · rw [if_neg (by lia)]; exact h _ _ hij hj
include asym trans H in
theorem desc_ok {Q : Array Nat × Nat × Nat → Shared → Prop} : ∀ (f : Nat) (p : Array Nat) (m q : Nat) (s : Shared), Pm n p → Dn lt p m → q + 1 ≤ m → Al lt p (m - (q + 1)) m → m + f ≤ n → I s →
    (∀ p' m' q' s', I s' → Pm n p' → Dn lt p' m' → q' + 1 ≤ m' → Al lt p' (m' - (q' + 1)) m' → m ≤ m' → m' ≤ m + f → Q (p', m', q') s') → (kas_desc f p m q).kasWp cmp Q s
  | 0, p, m, q, s, hp, hd, hq1, ha, hn, hs, hq => hq p m q s hs hp hd hq1 ha (Nat.le_refl _) (Nat.le_refl _)
  | f + 1, p, m, q, s, hp, hd, hq1, ha, hn, hs, hq => by
    have hsz := hp.size
    refine H _ _ _ s (hp.bd (by lia)) (hp.bd (by lia)) hs fun s' hs' => ?_
    have one : ∀ (p : Array Nat) (m : Nat), Al lt p (m + 1 - (0 + 1)) (m + 1) := fun p m i j h1 h2 h3 h4 => by
      have : i = j := by lia
      subst this; exact irr asym trans _
    cases hc : lt (gt p m) (gt p (m - 1)) with
    | true =>
      have hc' := asym _ _ hc
      show (if true = true then _ else _ : KasT _).kasWp cmp Q s'
      rw [if_pos rfl]
      by_cases hq0 : q > 0
      · rw [if_pos hq0]
        have hd' := hd.rev ha (by lia) (by lia)
        refine desc_ok f _ (m + 1) 0 s' (hp.rev _ _) (hd'.more asym trans (by lia) ?_) (by lia) (one _ _) (by lia) hs' fun p' m' q' s'' h1 h2 h3 h4 h5 h6 h7 => hq p' m' q' s'' h1 h2 h3 h4 h5 (by lia) (by lia)
        rw [rev_at (by lia) (by lia) (by lia), if_pos (by lia), rev_at (by lia) (by lia) (by lia), if_neg (by lia)]
        exact trans _ _ _ hc' (hd _ _ (by lia) (by lia))
      · rw [if_neg hq0]
        exact desc_ok f _ (m + 1) 0 s' hp (hd.more asym trans (by lia) hc') (by lia) (one _ _) (by lia) hs' fun p' m' q' s'' h1 h2 h3 h4 h5 h6 h7 => hq p' m' q' s'' h1 h2 h3 h4 h5 (by lia) (by lia)
    | false =>
      show (if false = true then _ else _ : KasT _).kasWp cmp Q s'
      rw [if_neg (by decide)]
      refine H _ _ _ s' (hp.bd (by lia)) (hp.bd (by lia)) hs' fun s2 hs2 => ?_
      cases hc2 : lt (gt p (m - 1)) (gt p m) with
      | true =>
        show (if true = true then _ else _ : KasT _).kasWp cmp Q s2
        rw [if_pos rfl]
        exact hq p m q s2 hs2 hp hd hq1 ha (Nat.le_refl _) (by lia)
      | false =>
        show (if false = true then _ else _ : KasT _).kasWp cmp Q s2
        rw [if_neg (by decide)]
        refine desc_ok f _ (m + 1) (q + 1) s2 hp (hd.more asym trans (by lia) hc2) (by lia) (fun i j h1 h2 h3 h4 => ?_) (by lia) hs2 fun p' m' q' s'' h1 h2 h3 h4 h5 h6 h7 => hq p' m' q' s'' h1 h2 h3 h4 h5 (by lia) (by lia)
        have e1 : ∀ i, m + 1 - (q + 1 + 1) ≤ i → i < m + 1 → lt (gt p m) (gt p i) = false := fun i h1 h2 => by
          by_cases him : i = m
          · subst him; exact irr asym trans _
          · exact trans _ _ _ (ha (m - 1) i (by lia) (by lia) (by lia) (by lia)) hc
        have e2 : ∀ i, m + 1 - (q + 1 + 1) ≤ i → i < m + 1 → lt (gt p i) (gt p m) = false := fun i h1 h2 => by
          by_cases him : i = m
          · subst him; exact irr asym trans _
          · exact trans _ _ _ hc2 (hd i (m - 1) (by lia) (by lia))
        exact trans _ _ _ (e1 j h3 h4) (e2 i h1 h2)
theorem Up.of_dn {p : Array Nat} {m : Nat} (h : Dn lt p m) (hm : m ≤ p.size) : Up lt (kas_rev p 0 m) m := fun i j hij hj => by
  rw [rev_at hm (Nat.zero_le _) (by lia), rev_at hm (Nat.zero_le _) (by lia), if_pos ⟨Nat.zero_le _, hj⟩, if_pos ⟨Nat.zero_le _, by lia⟩]
  exact h _ _ (by lia) (by lia)
include asym trans H in
theorem tail3_ok {p : Array Nat} {m : Nat} {Q : Nat × Array Nat → Shared → Prop} {s : Shared} (hp : Pm n p) (hd : Dn lt p m) (h1 : 1 ≤ m) (hm : m ≤ n) (hs : I s)
    (hq : ∀ m' p' s', I s' → Pm n p' → Up lt p' m' → 1 ≤ m' → m' ≤ n → Q (m', p') s') : (kas_tail3 m n p).kasWp cmp Q s := by
  unfold kas_tail3
  rw [KasT.kasWp_bind]
  have hsz := hp.size
  exact asc_ok asym trans H (hp.rev _ _) (n - m) m s (Up.of_dn hd (by lia)) h1 (by lia) hs fun m' s' h2 h3 h4 h5 _ => hq m' _ s' h2 (hp.rev _ _) h5 (by lia) (by lia)
include asym trans H in
theorem descPart_ok {p : Array Nat} {m : Nat} {Q : Nat × Array Nat → Shared → Prop} {s : Shared} (hp : Pm n p) (hd : Dn lt p (m + 1)) (hm : m + 1 ≤ n) (hs : I s)
    (hq : ∀ m' p' s', I s' → Pm n p' → Up lt p' m' → 1 ≤ m' → m' ≤ n → Q (m', p') s') : (kas_descPart m n p).kasWp cmp Q s := by
  unfold kas_descPart
  rw [KasT.kasWp_bind]
  refine desc_ok asym trans H (n - (m + 1)) p (m + 1) 0 s hp hd (by lia) (fun i j h1 h2 h3 h4 => ?_) (by lia) hs fun p' m' q' s' h1 h2 h3 h4 h5 h6 h7 => ?_
  · have : i = j := by lia
    subst this; exact irr asym trans _
  · have hsz := h2.size
    show (if q' > 0 then kas_tail3 m' n (kas_rev p' (m' - (q' + 1)) m') else kas_tail3 m' n p').kasWp cmp Q s'
    by_cases hq0 : q' > 0
    · rw [if_pos hq0]
      exact tail3_ok asym trans H (h2.rev _ _) (h3.rev h5 (by lia) (by lia)) (by lia) (by lia) h1 hq
    · rw [if_neg hq0]
      exact tail3_ok asym trans H h2 h3 (by lia) (by lia) h1 hq
include asym trans H in
theorem count_ok {p : Array Nat} {Q : Nat × Array Nat → Shared → Prop} {s : Shared} (hp : Pm n p) (hn : 1 ≤ n) (hs : I s)
    (hq : ∀ m' p' s', I s' → Pm n p' → Up lt p' m' → 1 ≤ m' → m' ≤ n → Q (m', p') s') : (kas_count n p).kasWp cmp Q s := by
  unfold kas_count
  rw [KasT.kasWp_bind]
  have hsz := hp.size
  refine asc_ok asym trans H hp (n - 1) 1 s (Up.one asym trans p) (Nat.le_refl _) (by lia) hs fun m s' h1 h2 h3 h4 h5 => ?_
  by_cases hmn : m = n
  · subst hmn
    simp only [beq_self_eq_true, if_true]
    exact hq _ p s' h1 hp h4 h2 (Nat.le_refl _)
  · have hb : (m == n) = false := by simpa using hmn
    simp only [hb, Bool.false_eq_true, if_false]
    have hlt := h5 (by lia)
    have hlt' := asym _ _ hlt
    by_cases hm1 : m > 1
    · rw [if_pos hm1]
      refine H _ _ _ s' (hp.bd (by lia)) (hp.bd (by lia)) h1 fun s2 hs2 => ?_
      cases hc : lt (gt p 0) (gt p (m - 1)) with
      | true =>
        show (if true = true then _ else _ : KasT _).kasWp cmp Q s2
        rw [if_pos rfl]
        exact hq _ p s2 hs2 hp h4 h2 (by lia)
      | false =>
        show (if false = true then _ else _ : KasT _).kasWp cmp Q s2
        rw [if_neg (by decide)]
        have al : Al lt p 0 m := fun i j _ a2 _ a4 => trans _ _ _ (h4 j (m - 1) (by lia) (by lia)) (trans _ _ _ hc (h4 0 i (by lia) (by lia)))
        have dn : Dn lt (kas_rev p 0 m) m := fun i j hij hj => al.rev (by lia) (by lia) i j (by lia) (by lia) (by lia) hj
        refine descPart_ok asym trans H (hp.rev _ _) (dn.more asym trans (by lia) ?_) (by lia) hs2 hq
        rw [rev_at (by lia) (by lia) (by lia), if_pos (by lia), rev_at (by lia) (by lia) (by lia), if_neg (by lia)]
        exact trans _ _ _ hlt' (al _ _ (by lia) (by lia) (by lia) (by lia))
    · rw [if_neg hm1]
      have : m = 1 := by lia
      subst this
      refine descPart_ok asym trans H hp (fun i j hij hj => ?_) (by lia) h1 hq
      by_cases hij2 : i = j
      · subst hij2; exact irr asym trans _
      · have e1 : i = 0 := by lia
        have e2 : j = 1 := by lia
        subst e1 e2; exact hlt'
include asym trans H in
theorem place_ok {p : Array Nat} (hp : Pm n p) {k : Nat} (hk : k < n) (hu : Up lt p k) {Q : Nat → Shared → Prop} : ∀ (f l r : Nat) (s : Shared), l ≤ r → r ≤ k → r - l ≤ f → (∀ i, i < l → lt (gt p k) (gt p i) = false) → (∀ i, r ≤ i → i < k → lt (gt p i) (gt p k) = false) → I s →
    (∀ l' s', I s' → l' ≤ k → (∀ i, i < l' → lt (gt p k) (gt p i) = false) → (∀ i, l' ≤ i → i < k → lt (gt p i) (gt p k) = false) → Q l' s') → (kas_place p k f l r).kasWp cmp Q s
  | 0, l, r, s, hlr, hrk, hf, h1, h2, hs, hq => hq l s hs (by lia) h1 fun i a b => h2 i (by lia) b
  | f + 1, l, r, s, hlr, hrk, hf, h1, h2, hs, hq => by
    show (if l ≥ r then _ else _ : KasT _).kasWp cmp Q s
    by_cases hge : l ≥ r
    · rw [if_pos hge]; exact hq l s hs (by lia) h1 fun i a b => h2 i (by lia) b
    · rw [if_neg hge]
      refine H _ _ _ s (hp.bd hk) (hp.bd (by lia)) hs fun s' hs' => ?_
      cases hc : lt (gt p k) (gt p ((l + r) / 2)) with
      | true =>
        show (if true = true then _ else _ : KasT _).kasWp cmp Q s'
        rw [if_pos rfl]
        exact place_ok hp hk hu f l ((l + r) / 2) s' (by lia) (by lia) (by lia) h1 (fun i a b => trans _ _ _ (asym _ _ hc) (hu _ _ a b)) hs' hq
      | false =>
        show (if false = true then _ else _ : KasT _).kasWp cmp Q s'
        rw [if_neg (by decide)]
        exact place_ok hp hk hu f ((l + r) / 2 + 1) r s' (by lia) (by lia) (by lia) (fun i a => trans _ _ _ (hu i _ (by lia) (by lia)) hc) h2 hs' hq
include asym trans H in
theorem bin_ok {Q : Array Nat → Shared → Prop} : ∀ (f : Nat) (p : Array Nat) (k : Nat) (s : Shared), Pm n p → Up lt p k → k + f = n → I s → (∀ p' s', I s' → Pm n p' → Up lt p' n → Q p' s') → (kas_bin f p k).kasWp cmp Q s
  | 0, p, k, s, hp, hu, hk, hs, hq => by
    have : k = n := by lia
    subst this; exact hq p s hs hp hu
  | f + 1, p, k, s, hp, hu, hk, hs, hq => by
    show ((kas_place p k k 0 k).bind fun l => kas_bin f (bubble p k (k - l)) (k + 1)).kasWp cmp Q s
    rw [KasT.kasWp_bind]
    have hsz := hp.size
    refine place_ok asym trans H hp (by lia) hu k 0 k s (by lia) (Nat.le_refl _) (by lia) (fun i a => absurd a (Nat.not_lt_zero _)) (fun i a b => by lia) hs fun l s' hs' hl h1 h2 => ?_
    refine bin_ok f _ (k + 1) s' (hp.bub _ _) (fun i j hij hj => ?_) (by lia) hs' hq
    rw [bub_at (by lia) hl (by lia), bub_at (by lia) hl (by lia)]
    by_cases a1 : j = l
    · rw [if_pos a1]
      by_cases a2 : i = l
      · rw [if_pos a2]; exact irr asym trans _
      · rw [if_neg a2, if_neg (by lia)]; exact h1 i (by lia)
    · rw [if_neg a1]
      by_cases a3 : l < j ∧ j ≤ k
      · rw [if_pos a3]
        by_cases a2 : i = l
        · rw [if_pos a2]; exact h2 (j - 1) (by lia) (by lia)
        · rw [if_neg a2]
          by_cases a4 : l < i ∧ i ≤ k
          · rw [if_pos a4]; exact hu _ _ (by lia) (by lia)
          · rw [if_neg a4]; exact hu _ _ (by lia) (by lia)
      · rw [if_neg a3]
        rw [if_neg (by lia), if_neg (by lia)]; exact hu _ _ hij (by lia)
include asym trans H in
theorem sort_ok {Q : Array Nat → Shared → Prop} {s : Shared} (hn : 1 ≤ n) (hs : I s) (hq : ∀ p' s', I s' → Pm n p' → Up lt p' n → Q p' s') : (kas_sort n).kasWp cmp Q s := by
  unfold kas_sort
  rw [KasT.kasWp_bind]
  refine count_ok asym trans H ⟨by simp, Array.Perm.refl _⟩ hn hs fun m p s' hs' hp hu h1 h2 => ?_
  show (if m < n then _ else _ : KasT _).kasWp cmp Q s'
  by_cases hm : m < n
  · rw [if_pos hm]
    have e : max m 1 = m := by lia
    rw [e]
    exact bin_ok asym trans H (n - m) p m s' hp hu (by lia) hs' hq
  · rw [if_neg hm]
    have : m = n := by lia
    subst this
    exact hq p s' hs' hp hu
end
end
theorem fl30 : True := by w_top off; first | walk1 | trivial
section
open PySem PySem.W PyProof.Rows PySem.Calls PySem.Spec PySem.SeqAt
open PySem.W.X (Mem)
set_option maxHeartbeats 4000000
variable {w : World} {mean : ExcName → Option Value} {mg mb : Str → Option Value} {dp un : Nat} {gd : Option (List Code)} {outer : List Env}
theorem Ins.but {P : Params} {h h' : Heap} {c x a : Addr} {v : Value} {o : Obj} {xs : Array Value} {n : Nat} (i : Ins P h c x v) (hk : ∀ b o, b ≠ a → h.get? b = some o → h'.get? b = some o) (ha : h.get? a = some o) (hd : o.data = .seq xs n) : Ins P h' c x v := by
  obtain ⟨dd, e1, e2⟩ := i.x
  refine ⟨⟨dd, hk _ _ (fun q => ?_) e1, hk _ _ (fun q => ?_) e2⟩⟩
  · subst q; rw [ha] at e1; cases e1; cases hd
  · subst q; rw [ha] at e2; cases e2; cases hd
theorem m_lu {M : Model} {A : Around} {E : Value → Shared → Prop} {h0 h : Heap} {news : List (Addr × Obj)} {g : Array GenState} {d : Drawn} {t : Nat} {os : OsState} {a : Addr} {xs : Array Value} {n : Nat} {f : Array Value → Array Value} {Q : Unit → Shared → Prop}
    (D : Mem h0 h [] news) (i : Nat) (hi : news[i]? = some (a, seqObj "list" xs n)) (h1 : xs.size ≤ sizeLine) (h2 : (f xs).size ≤ sizeLine + 1)
    (x : ∀ h' e, Mem h0 h' [] (news.set i (a, seqObj "list" (f xs) e)) → (∀ b o, b ≠ a → h.get? b = some o → h'.get? b = some o) → Q () ⟨h', g, d, t, os⟩) :
    wpAny M A (Builtin.List.listUpdate (.ref a) f) Q E ⟨h, g, d, t, os⟩ := by
  refine listUpdate_at (D.at i _ _ hi) rfl ?_ h1 h2
  have hg := get?_update_seq (D.at i _ _ hi) f
  have hf : (Obj.mapSeq f (seqObj "list" xs n)).isFreed = false := rfl
  have D' := D.update (f := Obj.mapSeq f) hi hf
  have e := D'.at i a (Obj.mapSeq f (seqObj "list" xs n)) (by
    have := (List.getElem?_eq_some_iff.mp hi).1
    rw [List.getElem?_set_self this])
  rw [hg] at e
  have e' := Option.some.inj e
  rw [← e'] at D'
  exact x _ _ D' fun b o hb eb => ((Heap.SameBut.update ..).2 b hb).trans eb
theorem m_drop2 {h0 h : Heap} {chg : List (Addr × Obj)} {p : Addr × Obj} {news : List (Addr × Obj)} (D : Mem h0 h chg (p :: news)) : Mem h0 h chg news := m_drop D
structure Sk (P : Params) (h0 h : Heap) (c a kS : Addr) (vs : List Value) (kx : List Addr) (e1 : Nat) : Prop where
  D : ∃ e, Mem h0 h [] [(kS, seqObj "list" (kx.map Value.ref).toArray e), (a, seqObj "list" #[] e1)]
  ins : ∀ (j : Nat) (x : Addr) (v : Value), kx[j]? = some x → vs[j]? = some v → Ins P h c x v
theorem Sk.stays {P : Params} {h0 h h' : Heap} {c a kS : Addr} {vs : List Value} {kx : List Addr} {e1 : Nat} (S : Sk P h0 h c a kS vs kx e1) (k : h.StaysIn h') : Sk P h0 h' c a kS vs kx e1 :=
  ⟨let ⟨e, D⟩ := S.D; ⟨e, m_stayed D k⟩, fun j x v a b => (S.ins j x v a b).keeps k⟩
noncomputable def sortLt (ns : Nat → Nat → Int) (i j : Nat) : Bool := decide (ns i j < 0)
section
variable {s : Shared} {vs : List Value} {l c cell nd f : Addr} {oc of : Obj} {ffd : FuncData} {N M : Nat} {ns : Nat → Nat → Int}
theorem keys_made {E : Value → Shared → Prop} {Q : PySem.Fin → Shared → Prop} {a kS e1 : Nat} {h1 : Heap} {t1 : Nat} (k : KIs w.params s.heap c cell nd) (hN : s.heap.NoLimit) (h64 : vs.length < 64) (hd : dp ≤ 350)
    (S : Sk w.params s.heap h1 c a kS vs [] e1)
    (hq : ∀ h2 t2 kx, kx.length = vs.length → Sk w.params s.heap h2 c a kS vs kx e1 → wpAny (model PySem.Challenge.rw_ny0140_01.row.prog w) (Am dp un gd outer) (ksk_end a false vs.toArray e1 (.ref kS) (kx.map Value.ref).toArray) Q E { s with heap := h2, toks := t2 }) :
    wpAny (model PySem.Challenge.rw_ny0140_01.row.prog w) (Am dp un gd outer) (ksk_rest a (.ref c) false vs.toArray e1 (.ref kS)) Q E { s with heap := h1, toks := t1 } := by
  unfold ksk_rest
  refine wpAny_bind (wpAny_rule ?_)
  first
    | rw [List.forIn_toArray]
    | (rw [← Array.forIn_toList]; simp only [List.toList_toArray])
    | rw [← Array.forIn_toList]
  refine wpAny_bind (ksk_fold (fun i s' => ∃ h' tk kx, s' = { s with heap := h', toks := tk } ∧ kx.length = i ∧ Sk w.params s.heap h' c a kS vs kx e1) vs 0 _ ⟨h1, t1, [], rfl, rfl, S⟩ ?step ?done)
  case step =>
    rintro j x s' hx ⟨h', tk, kx, rfl, hl, S'⟩
    simp only [Nat.zero_add] at hl ⊢
    have hj : j < vs.length := (List.getElem?_eq_some_iff.mp hx).1
    obtain ⟨e, D'⟩ := S'.D
    refine wpAny_bind (wpAny_attempt ?_)
    refine inst_call (k.keeps (m_stays D')) (hN.keeps (m_stays D')) hd fun y h2 t2 k2 iy => ?_
    refine wpAny_bind (m_lu (m_stayed D' k2) 0 rfl (by simp; rw [sizeLine_eq]; lia) (by simp; rw [sizeLine_eq]; lia) fun h3 e3 D3 k3 => ?_)
    refine wpAny_pure ⟨rfl, h3, t2, kx ++ [y], rfl, by simp [hl], ⟨e3, by simpa using D3⟩, fun i z v hz hv => ?_⟩
    have hkS := (m_stayed D' k2).at 0 kS _ rfl
    by_cases hi : i < kx.length
    · rw [List.getElem?_append_left hi] at hz
      exact ((S'.ins i z v hz hv).keeps k2).but k3 hkS rfl
    · rw [List.getElem?_append_right (by lia)] at hz
      have : i = kx.length := by
        have := (List.getElem?_eq_some_iff.mp hz).1
        simp at this; lia
      subst this
      simp at hz
      subst hz
      rw [hl, hx] at hv
      cases hv
      exact iy.but k3 hkS rfl
  case done =>
    rintro s' ⟨h', tk, kx, rfl, hl, S'⟩
    obtain ⟨e, D'⟩ := S'.D
    refine wpAny_bind (listItems_at (D'.at 0 kS _ rfl) rfl ?_)
    exact hq h' tk kx (by lia) S'
theorem tail_done {E : Value → Shared → Prop} {Q : PySem.Fin → Shared → Prop} {A : Around} {prog : Program} {a kS e1 : Nat} {kx : List Addr} {st : SortSt} {h1 : Heap} {t1 : Nat} (S : Sk w.params s.heap h1 c a kS vs kx e1) (h64 : vs.length < 64) (hk : kx.length = vs.length)
    (hsz : (arrOf st).size = vs.length) (hf : failedOf st = none)
    (hq : ∀ h2 e0 e2, Mem s.heap h2 [] [(kS, seqObj "list" #[] e0), (a, seqObj "list" ((arrOf st).map (·.2)) e2)] → Q (.done (.ret .none)) { s with heap := h2, toks := t1 }) :
    wpAny (model prog w) A (ksk_tail a false e1 (.ref kS) st) Q E { s with heap := h1, toks := t1 } := by
  obtain ⟨e, D⟩ := S.D
  unfold ksk_tail
  try dsimp only
  refine wpAny_bind (m_lu D 0 rfl (by simp; rw [sizeLine_eq]; lia) (Nat.zero_le _) fun h2 e2 D2 k2 => ?_)
  refine wpAny_bind (wpAny_letGo ?_)
  refine wpAny_bind (seqEpoch_at (D2.at 1 a _ rfl) rfl ?_)
  refine wpAny_bind (m_lu D2 1 rfl (Nat.zero_le _) (by simp only [Bool.false_eq_true, if_false, Array.size_map]; rw [hsz, sizeLine_eq]; lia) fun h3 e3 D3 k3 => ?_)
  rw [hf]
  simp only [bne_self_eq_false, Bool.false_eq_true, if_false]
  exact wpAny_pure (hq h3 e2 e3 D3)
theorem item_fst {kx : List Addr} (hk : kx.length = vs.length) {i : Nat} (hi : i < vs.length) : ∃ x v, kx[i]? = some x ∧ vs[i]? = some v ∧ kas_item ((kx.map Value.ref).toArray.zip vs.toArray) i = (.ref x, v) := by
  refine ⟨kx[i]'(by lia), vs[i], List.getElem?_eq_getElem (by lia), List.getElem?_eq_getElem hi, ?_⟩
  unfold kas_item
  have hz : i < ((kx.map Value.ref).toArray.zip vs.toArray).size := by simp; lia
  simp [Array.getD, hz, hk, hi]
theorem end_sorted {E : Value → Shared → Prop} {Q : PySem.Fin → Shared → Prop} {a kS e1 : Nat} {h1 : Heap} {t1 : Nat} {kx : List Addr} (Y : Rdy w mean mg mb dp un gd outer s.heap) (k : KIs w.params s.heap c cell nd) (h64 : vs.length < 64) (hk : kx.length = vs.length)
    (hN : dp + 1 ≤ N) (hM : un + 3 ≤ M) (hd : dp + 1 ≤ 350) (hu : un + 3 ≤ 80) (hv : ∀ v ∈ vs, handedOut v = pure v) (hof : s.heap.get? f = some of) (hofd : of.data = .func ffd) (hce : s.heap.get? cell = some oc) (hcd : oc.data = .cell (some (.ref f)))
    (hc : ∀ i j v u, vs[i]? = some v → vs[j]? = some u → Cmp w mean mg mb gd N M s.heap f v u (ns i j))
    (asym : ∀ i j, sortLt ns i j = true → sortLt ns j i = false) (trans : ∀ i j k, sortLt ns j i = false → sortLt ns k j = false → sortLt ns k i = false)
    (S : Sk w.params s.heap h1 c a kS vs kx e1)
    (hq : ∀ h2 t2 e0 e2 (p : Array Nat), Pm vs.length p → Up (sortLt ns) p vs.length → Mem s.heap h2 [] [(kS, seqObj "list" #[] e0), (a, seqObj "list" (p.toList.map fun i => vs.getD i .none).toArray e2)] → Q (.done (.ret .none)) { s with heap := h2, toks := t2 }) :
    wpAny (model PySem.Challenge.rw_ny0140_01.row.prog w) (Am dp un gd outer) (ksk_end a false vs.toArray e1 (.ref kS) (kx.map Value.ref).toArray) Q E { s with heap := h1, toks := t1 } := by
  have hz : ((kx.map Value.ref).toArray.zip vs.toArray).size = vs.length := by simp [hk]
  unfold ksk_end
  try dsimp only
  by_cases h2 : vs.toArray.size < 2
  · rw [if_pos h2, if_pos h2]
    simp only [Bool.false_eq_true, if_false]
    refine wpAny_bind (wpAny_pure ?_)
    rw [StateT.run_pure]
    refine wpAny_bind (wpAny_pure ?_)
    try dsimp only
    refine tail_done (st := SortSt.mk' general' ((kx.map Value.ref).toArray.zip vs.toArray) #[] 7 none) S h64 hk hz rfl fun h3 e0 e2 D3 => ?_
    refine hq h3 t1 e0 e2 (List.range vs.length).toArray ⟨by simp, Array.Perm.refl _⟩ (fun i j hij hj => ?_) ?_
    · have : i = j := by simp at h2; lia
      subst this; exact irr asym trans _
    · have e : (((List.range vs.length).toArray).toList.map fun i => vs.getD i .none).toArray = ((kx.map Value.ref).toArray.zip vs.toArray).map (·.2) := by
        apply Array.ext
        · simp [hk]
        · intro i h1 h2
          have hi : i < vs.length := by simpa using h1
          simp [hi]
      rw [e]; exact D3
  · rw [if_neg h2, if_neg h2]
    simp only [Bool.false_eq_true, if_false]
    have hn2 : 2 ≤ vs.length := by simp at h2; lia
    obtain ⟨e, D⟩ := S.D
    refine wpAny_bind (kas_kind (vs := kx.map Value.ref) (T := .ref c) (by simpa [hk] using hn2) (fun v hv => ?looks) (by simp) (by simp) ?_)
    case looks =>
      obtain ⟨x, hx, rfl⟩ := List.mem_map.mp hv
      obtain ⟨j, hj⟩ := List.getElem?_of_mem hx
      have hjl : j < vs.length := by
        have := (List.getElem?_eq_some_iff.mp hj).1
        lia
      have i1 := S.ins j x _ hj (List.getElem?_eq_getElem hjl)
      exact fun A Q E s' k' q => type_ins (P := w.params) (i1.keeps k') q
    have est : SortSt.mk' oneType' ((kx.map Value.ref).toArray.zip vs.toArray) #[] 7 none = kas_st oneType' ((kx.map Value.ref).toArray.zip vs.toArray) (List.toArray (List.range vs.length)) := by
      have e := kas_range ((kx.map Value.ref).toArray.zip vs.toArray)
      rw [hz] at e
      show SortSt.mk' oneType' ((kx.map Value.ref).toArray.zip vs.toArray) #[] 7 none = SortSt.mk' oneType' ((List.toArray (List.range vs.length)).map (kas_item ((kx.map Value.ref).toArray.zip vs.toArray))) #[] 7 none
      rw [e]
    have ask : (kas_sort vs.length).kasWp (kas_cmp PySem.Challenge.rw_ny0140_01.row.prog w (Am dp un gd outer) oneType' ((kx.map Value.ref).toArray.zip vs.toArray))
        (fun p s' => (∃ h' t', s' = { s with heap := h', toks := t' } ∧ Sk w.params s.heap h' c a kS vs kx e1) ∧ Pm vs.length p ∧ Up (sortLt ns) p vs.length) { s with heap := h1, toks := t1 } := by
      refine sort_ok (I := fun s' => ∃ h' t', s' = { s with heap := h', toks := t' } ∧ Sk w.params s.heap h' c a kS vs kx e1) asym trans (fun i j C s' hi hj hI hC => ?_) (by lia) ⟨h1, t1, rfl, S⟩ fun p s' hI hp hu => ⟨hI, hp, hu⟩
      obtain ⟨h', t', rfl, S'⟩ := hI
      obtain ⟨x, v, hx, hvi, ei⟩ := item_fst (vs := vs) hk hi
      obtain ⟨y, u, hy, hui, ej⟩ := item_fst (vs := vs) hk hj
      obtain ⟨e', D'⟩ := S'.D
      have st := m_stays D'
      unfold kas_cmp
      rw [ei, ej]
      refine lt_ask (Y.ext st) (k.keeps st) (S'.ins i x v hx hvi) (S'.ins j y u hy hui) (hv v (List.mem_of_getElem? hvi)) (hv u (List.mem_of_getElem? hui)) (st _ _ hof) hofd (st _ _ hce) hcd (n := ns i j) (N := N) (M := M)
        (fun dp' un' outer' s2 E' Q' k2 => hc i j v u hvi hui dp' un' outer' s2 E' Q' (fun b o e => k2 _ _ (st _ _ e))) hN hM hd hu fun h2 t2 k2 => ?_
      exact hC _ ⟨h2, t2, rfl, S'.stays k2⟩
    have run := kas_runs (E := E) (Q := fun _ st' s' => ∃ p : Array Nat, p.size = vs.length ∧ arrOf st' = p.map (kas_item ((kx.map Value.ref).toArray.zip vs.toArray)) ∧ failedOf st' = none ∧
      ((∃ h' t', s' = { s with heap := h', toks := t' } ∧ Sk w.params s.heap h' c a kS vs kx e1) ∧ Pm vs.length p ∧ Up (sortLt ns) p vs.length)) hn2 h64 (fun p' st' s' a1 a2 a3 a4 => ⟨p', a1, a2, a3, a4⟩) ask
    rw [← est] at run
    refine wpAny_bind (wpAny_mono run ?_ fun _ _ e => e)
    rintro ⟨⟨⟩, st'⟩ s' ⟨p, hp, har, hf, ⟨h', t', rfl, S'⟩, hPm, hUp⟩
    dsimp only
    refine tail_done (st := st') S' h64 hk (by rw [har, Array.size_map, hp]) hf fun h3 e0 e2 D3 => ?_
    refine hq h3 t' e0 e2 p hPm hUp ?_
    have hout : (arrOf st').map (·.2) = List.toArray (p.toList.map fun i => vs.getD i Value.none) := by
      apply Array.toList_inj.mp
      rw [har, Array.map_map, Array.toList_map]
      refine List.map_congr_left fun i hi => ?_
      have hin : i < vs.length := by
        have := (Array.perm_iff_toList_perm.mp hPm.perm).mem_iff.mp hi
        simpa using this
      obtain ⟨x, v, hx, hvi, ei⟩ := item_fst (vs := vs) hk hin
      show (kas_item _ i).2 = _
      rw [ei]
      simp [hvi]
    rw [hout] at D3
    exact D3
theorem Rdy.anyU {un' : Nat} {h : Heap} (Y : Rdy w mean mg mb dp un gd outer h) : Rdy w mean mg mb dp un' gd outer h := ⟨let ⟨base, B⟩ := Y.below; ⟨base, ⟨B.stack, B.stays, B.frames⟩⟩, Y.K, Y.top⟩
theorem sorted_key {E Q : Value → Shared → Prop} (Y : Rdy w mean mg mb dp un gd outer s.heap) (k : KIs w.params s.heap c cell nd) (hl : s.heap.IsList l vs.toArray) (h64 : vs.length < 64)
    (hN : dp + 1 ≤ N) (hM : un + 5 ≤ M) (hd : dp + 1 ≤ 350) (hu : un + 5 ≤ 80) (hv : ∀ v ∈ vs, handedOut v = pure v) (hof : s.heap.get? f = some of) (hofd : of.data = .func ffd) (hce : s.heap.get? cell = some oc) (hcd : oc.data = .cell (some (.ref f)))
    (hc : ∀ i j v u, vs[i]? = some v → vs[j]? = some u → Cmp w mean mg mb gd N M s.heap f v u (ns i j))
    (asym : ∀ i j, sortLt ns i j = true → sortLt ns j i = false) (trans : ∀ i j k, sortLt ns j i = false → sortLt ns k j = false → sortLt ns k i = false)
    (hq : ∀ D h' t' (p : Array Nat), Pm vs.length p → Up (sortLt ns) p vs.length → s.heap.StaysIn h' → h'.IsList D (p.toList.map fun i => vs.getD i .none).toArray → (∀ b o, s.heap.get? b = some o → b < D) → Q (.ref D) { s with heap := h', toks := t' }) :
    wpAny (model PySem.Challenge.rw_ny0140_01.row.prog w) (Am dp un gd outer) (call (.builtin "sorted") [.ref l] [(Str.ofString "key", .ref c)]) Q E s := by
  refine call_function_entry_kw kind_sorted plain_sorted entry_sorted (ksk_s1 _ _) ?_
  unfold Builtin.«sorted»
  refine wpAny_bind (m := checkCount "sorted" 1 1 _) (wpAny_pure ?_)
  refine wpAny_bind (m_collect (Mem.start s.heap) hl (fun h1 D1 => ?_) (by rw [sizeLine_eq]; lia))
  refine wpAny_bind (wpAny_newList ?_ (by rw [sizeLine_eq]; lia))
  have D2 := m_push (o := seqObj "list" vs.toArray 0) D1 rfl
  show wpAny _ _ _ _ _ (⟨h1.push (seqObj "list" vs.toArray 0), s.gens, s.drawn, s.toks, s.os⟩ : Shared)
  generalize h1.push (seqObj "list" vs.toArray 0) = h2 at D2
  show wpAny _ _ ((fun v => _) (Value.ref h1.objs.size)) _ _ _
  have hlt : ∀ b o, s.heap.get? b = some o → b < h1.objs.size := fun b o e => Heap.lt_size (m_stays D1 _ _ e)
  generalize h1.objs.size = a at D2 hlt
  refine wpAny_bind (wpAny_holding (wpAny_call_entry_kw slot_list_sort ⟨_, D2.at 0 a _ rfl, rfl⟩ entry_list_sort ?body (ksk_l1 _ _)))
  case body =>
    rw [ksk_t1]
    unfold ksk_tree
    refine wpAny_bind (listItems_at (D2.at 0 a _ rfl) rfl ?_)
    refine wpAny_bind (m_lu D2 0 rfl (by rw [List.size_toArray, sizeLine_eq]; lia) (Nat.zero_le _) fun h3 e1 D3 k3 => ?_)
    refine wpAny_bind (seqEpoch_at (D3.at 0 a _ rfl) rfl ?_)
    refine wpAny_bind (wpAny_newTuple ?_ (by show vs.toArray.toList.length ≤ _; rw [Array.length_toList, List.size_toArray, sizeLine_eq]; lia))
    have D4 := m_drop2 (m_push (o := { cls := .type "tuple", data := .seq vs.toArray.toList.toArray }) D3 rfl)
    show wpAny _ _ _ _ _ (⟨h3.push { cls := .type "tuple", data := .seq vs.toArray.toList.toArray }, s.gens, s.drawn, s.toks, s.os⟩ : Shared)
    generalize h3.push { cls := .type "tuple", data := .seq vs.toArray.toList.toArray } = h4 at D4
    refine wpAny_bind (wpAny_newList ?_ (Nat.zero_le _))
    have D5 := m_push (o := seqObj "list" #[] 0) D4 rfl
    show wpAny _ _ _ _ _ (⟨h4.push (seqObj "list" #[] 0), s.gens, s.drawn, s.toks, s.os⟩ : Shared)
    generalize h4.push (seqObj "list" #[] 0) = h5 at D5
    show wpAny _ _ ((fun v => _) (Value.ref h4.objs.size)) _ _ _
    generalize h4.objs.size = kS at D5
    refine wpAny_holding ?_
    refine keys_made (dp := dp) (un := un + 1 + 1) (gd := gd) (outer := outer) (s := s) k Y.top.nolimit h64 (by lia) ⟨⟨0, D5⟩, fun j x v hj => by simp at hj⟩ fun h6 t6 kx hkx S6 => ?_
    refine end_sorted (dp := dp) (un := un + 1 + 1) (gd := gd) (outer := outer) (s := s) Y.anyU k h64 hkx hN (by lia) hd (by lia) hv hof hofd hce hcd hc asym trans S6 fun h7 t7 e0 e2 p hPm hUp D7 => ⟨_, rfl, ?_⟩
    refine wpAny_pure ⟨_, rfl, hq a h7 t7 p hPm hUp (m_stays D7) ⟨_, D7.at 1 a _ rfl, rfl, e2, rfl⟩ hlt⟩
end
end
theorem fl31 : True := by w_top off; first | walk1 | trivial
section
open PySem PySem.W PyProof.Rows
set_option maxHeartbeats 4000000
theorem digs_small {n : Nat} (h : n < 10) : digs n = [48 + n] := by
  match n, h with
  | 0, _ => rfl
  | 1, _ => rfl
  | 2, _ => rfl
  | 3, _ => rfl
  | 4, _ => rfl
  | 5, _ => rfl
  | 6, _ => rfl
  | 7, _ => rfl
  | 8, _ => rfl
  | 9, _ => rfl
  | n + 10, h => lia
theorem digs_big {n : Nat} (h : 10 ≤ n) : digs n = digs (n / 10) ++ [48 + n % 10] := by
  unfold digs
  rw [Nat.toDigits_of_base_le (by decide) h, List.map_append]
  have hm : n % 10 < 10 := Nat.mod_lt _ (by decide)
  generalize n % 10 = m at hm
  match m, hm with
  | 0, _ => rfl
  | 1, _ => rfl
  | 2, _ => rfl
  | 3, _ => rfl
  | 4, _ => rfl
  | 5, _ => rfl
  | 6, _ => rfl
  | 7, _ => rfl
  | 8, _ => rfl
  | 9, _ => rfl
  | n + 10, h => lia
noncomputable def Diff (u v : List Nat) : Prop := ∃ p c d u' v', u = p ++ c :: u' ∧ v = p ++ d :: v' ∧ c < d
theorem Diff.pre (p : List Nat) {u v : List Nat} (h : Diff u v) : Diff (p ++ u) (p ++ v) := by
  obtain ⟨q, c, d, u', v', rfl, rfl, h⟩ := h
  exact ⟨p ++ q, c, d, u', v', by simp, by simp, h⟩
theorem Diff.suf (x y : List Nat) {u v : List Nat} (h : Diff u v) : Diff (u ++ x) (v ++ y) := by
  obtain ⟨q, c, d, u', v', rfl, rfl, h⟩ := h
  exact ⟨q, c, d, u' ++ x, v' ++ y, by simp, by simp, h⟩
theorem Diff.head {c d : Nat} (h : c < d) (x y : List Nat) : Diff (c :: x) (d :: y) := ⟨[], c, d, x, y, rfl, rfl, h⟩
theorem Diff.lt {u v : List Nat} (h : Diff u v) : u < v := by
  obtain ⟨p, c, d, u', v', rfl, rfl, h⟩ := h
  induction p with
  | nil => exact List.cons_lt_cons_iff.mpr (.inl h)
  | cons x p ih => exact List.cons_lt_cons_iff.mpr (.inr ⟨rfl, ih⟩)
theorem digs_mono {m k : Nat} : m ≤ k → (digs m).length ≤ (digs k).length := by
  induction k using Nat.strongRecOn generalizing m with
  | ind k ih =>
    intro h
    by_cases hk : k < 10
    · rw [digs_small hk, digs_small (by lia)]; exact Nat.le_refl _
    · rw [digs_big (n := k) (by lia)]
      by_cases hm : m < 10
      · rw [digs_small hm]; simp
      · rw [digs_big (n := m) (by lia)]
        have := @ih (k / 10) (by lia) (m / 10) (by lia)
        simpa using this
theorem digs_diff {m k : Nat} : m < k → (digs m).length = (digs k).length → Diff (digs m) (digs k) := by
  induction k using Nat.strongRecOn generalizing m with
  | ind k ih =>
    intro h hl
    by_cases hk : k < 10
    · rw [digs_small hk, digs_small (by lia)]; exact Diff.head (by lia) _ _
    · by_cases hm : m < 10
      · rw [digs_small hm, digs_big (n := k) (by lia)] at hl
        have := digs_pos (k / 10)
        simp at hl
        rw [hl] at this; simp at this
      · rw [digs_big (n := k) (by lia), digs_big (n := m) (by lia)] at hl ⊢
        by_cases he : m / 10 = k / 10
        · rw [he]
          exact Diff.pre _ (Diff.head (by lia) _ _)
        · exact (@ih (k / 10) (by lia) (m / 10) (by lia) (by simpa using hl)).suf _ _
theorem map_diff {u v : List Nat} (h : Diff u v) (hv : ∀ c ∈ v, c ≤ 57) : Diff (v.map (105 - ·)) (u.map (105 - ·)) := by
  obtain ⟨p, c, d, u', v', rfl, rfl, h⟩ := h
  have := hv d (by simp)
  exact ⟨p.map (105 - ·), 105 - d, 105 - c, v'.map (105 - ·), u'.map (105 - ·), by simp, by simp, by lia⟩
theorem wrt_diff {a b : Int} (ha : a.natAbs < 10 ^ 15) (hb : b.natAbs < 10 ^ 15) (h : a < b) : Diff (wrt a) (wrt b) := by
  have la := digs_len (by decide) ha
  have lb := digs_len (by decide) hb
  have pa := digs_pos a.natAbs
  have pb := digs_pos b.natAbs
  unfold wrt
  by_cases h1 : a < 0
  · rw [if_pos h1]
    by_cases h2 : b < 0
    · rw [if_pos h2]
      have hab : b.natAbs < a.natAbs := by lia
      have hm := digs_mono (Nat.le_of_lt hab)
      by_cases he : (digs b.natAbs).length = (digs a.natAbs).length
      · rw [he]
        exact Diff.pre [_] (map_diff (digs_diff hab he) fun c hc => (digs_digit _ c hc).2)
      · exact Diff.head (by lia) _ _
    · rw [if_neg h2]; exact Diff.head (by lia) _ _
  · rw [if_neg h1, if_neg (by lia)]
    have hab : a.natAbs < b.natAbs := by lia
    have hm := digs_mono (Nat.le_of_lt hab)
    by_cases he : (digs a.natAbs).length = (digs b.natAbs).length
    · rw [he]; exact Diff.pre [_] (digs_diff hab he)
    · exact Diff.head (by lia) _ _
theorem wrt_head {n : Int} (h : n.natAbs < 10 ^ 15) : ∃ c r, wrt n = c :: r ∧ 47 < c := by
  have la := digs_len (by decide) h
  unfold wrt
  split
  · exact ⟨_, _, rfl, by lia⟩
  · exact ⟨_, _, rfl, by lia⟩
theorem piece_cons (n : Int) (r : List Int) : piece (n :: r) = wrt n ++ (if r = [] then [] else 47 :: piece r) := by
  unfold piece
  cases r with
  | nil => simp [joinL]
  | cons m r => simp [joinL]
noncomputable def End (t : List Nat) : Prop := t = [] ∨ ∃ r, t = 46 :: r
theorem inner_lt {x y : List Int} (hx : ∀ n ∈ x, n.natAbs < 10 ^ 15) (hy : ∀ n ∈ y, n.natAbs < 10 ^ 15) (h : x < y) {s t : List Nat} (hs : End s) : piece x ++ s < piece y ++ t := by
  induction y generalizing x with
  | nil => exact absurd h (List.not_lt_nil _)
  | cons b y ih =>
    cases x with
    | nil =>
      obtain ⟨c, r, e, hc⟩ := wrt_head (hy b (by simp))
      rw [piece_cons, e]
      show [] ++ s < _
      rcases hs with rfl | ⟨r', rfl⟩
      · simp
      · exact List.cons_lt_cons_iff.mpr (.inl (by lia))
    | cons a x =>
      rw [piece_cons, piece_cons]
      rcases List.cons_lt_cons_iff.mp h with h1 | ⟨rfl, h1⟩
      · rw [List.append_assoc, List.append_assoc]
        exact ((wrt_diff (hx a (by simp)) (hy b (by simp)) h1).suf _ _).lt
      · rw [List.append_assoc, List.append_assoc]
        have hyn : y ≠ [] := fun q => by subst q; exact absurd h1 (List.not_lt_nil _)
        rw [if_neg hyn]
        have ih' := ih (x := x) (fun n hn => hx n (.tail _ hn)) (fun n hn => hy n (.tail _ hn)) h1
        have cut : ∀ (p u v : List Nat), u < v → p ++ u < p ++ v := fun p u v huv => by
          induction p with
          | nil => exact huv
          | cons z p ihp => exact List.cons_lt_cons_iff.mpr (.inr ⟨rfl, ihp⟩)
        refine cut _ _ _ ?_
        by_cases hxn : x = []
        · rw [if_pos hxn]
          show [] ++ s < _
          rcases hs with rfl | ⟨r', rfl⟩
          · simp
          · exact List.cons_lt_cons_iff.mpr (.inl (by lia))
        · rw [if_neg hxn]
          exact List.cons_lt_cons_iff.mpr (.inr ⟨rfl, ih'⟩)
noncomputable def tailOf (row : List (List Int)) : List Nat := row.flatMap fun i => 46 :: piece i
theorem tail_end (row : List (List Int)) : End (tailOf row) := by
  cases row with
  | nil => exact .inl rfl
  | cons i row => exact .inr ⟨_, by simp [tailOf]; rfl⟩
theorem row_lt {x y : List (List Int)} (hx : ∀ i ∈ x, ∀ n ∈ i, n.natAbs < 10 ^ 15) (hy : ∀ i ∈ y, ∀ n ∈ i, n.natAbs < 10 ^ 15) (h : x < y) : tailOf x < tailOf y := by
  induction y generalizing x with
  | nil => exact absurd h (List.not_lt_nil _)
  | cons b y ih =>
    cases x with
    | nil => simp [tailOf]
    | cons a x =>
      have e1 : tailOf (a :: x) = 46 :: (piece a ++ tailOf x) := by simp [tailOf]
      have e2 : tailOf (b :: y) = 46 :: (piece b ++ tailOf y) := by simp [tailOf]
      rw [e1, e2]
      refine List.cons_lt_cons_iff.mpr (.inr ⟨rfl, ?_⟩)
      rcases List.cons_lt_cons_iff.mp h with h1 | ⟨rfl, h1⟩
      · exact inner_lt (hx a (by simp)) (hy b (by simp)) h1 (tail_end x)
      · have ih' := ih (x := x) (fun i hi => hx i (.tail _ hi)) (fun i hi => hy i (.tail _ hi)) h1
        have cut : ∀ (p u v : List Nat), u < v → p ++ u < p ++ v := fun p u v huv => by
          induction p with
          | nil => exact huv
          | cons z p ihp => exact List.cons_lt_cons_iff.mpr (.inr ⟨rfl, ihp⟩)
        exact cut _ _ _ ih'
theorem cps_app (a b : Str) : (a ++ b).cps.toList = a.cps.toList ++ b.cps.toList := by
  show (a.cps ++ b.cps).toList = _
  rw [Array.toList_append]
theorem glued_codes (row : List (List Int)) (acc : Str) : ∃ r, ((row.map piece).map mkS).foldl gluedTo (some acc) = some r ∧ r.cps.toList = acc.cps.toList ++ tailOf row := by
  induction row generalizing acc with
  | nil => exact ⟨acc, rfl, by simp [tailOf]⟩
  | cons i row ih =>
    obtain ⟨r, e, h⟩ := ih (acc ++ Str.ofString "." ++ mkS (piece i))
    refine ⟨r, e, ?_⟩
    rw [h, cps_app, cps_app]
    have : tailOf (i :: row) = 46 :: (piece i ++ tailOf row) := by simp [tailOf]
    rw [this]
    show _ ++ [46] ++ (piece i) ++ _ = _
    simp
theorem name_codes (row : List (List Int)) : (nameOf row).cps.toList = 67 :: tailOf row := by
  unfold nameOf
  cases row with
  | nil => rfl
  | cons i row =>
    obtain ⟨r, e, h⟩ := glued_codes (i :: row) (Str.ofString "C")
    have : (((i :: row).map piece).map mkS).foldl gluedTo none = some r := e
    rw [this]
    exact h
end
section
section
variable {α : Type} [DecidableEq α] [LT α] [DecidableLT α]
structure Lin (α : Type) [LT α] : Prop where
  irr : ∀ a : α, ¬ a < a
  tr : ∀ {a b c : α}, a < b → b < c → a < c
  tot : ∀ {a b : α}, ¬ a < b → ¬ b < a → a = b
theorem Lin.lt_of_lt_of_not {a b c : α} (L : Lin α) (h : a < b) (h' : ¬ c < b) : a < c := by
  by_cases q : b < c
  · exact L.tr h q
  · exact L.tot q h' ▸ h
theorem Lin.lt_of_not_of_lt {a b c : α} (L : Lin α) (h : ¬ b < a) (h' : b < c) : a < c := by
  by_cases q : a < b
  · exact L.tr q h'
  · exact (L.tot q h) ▸ h'
theorem Lin.asym {a b : α} (L : Lin α) (h : a < b) : ¬ b < a := fun q => L.irr _ (L.tr h q)
theorem Lin.not_trans {a b c : α} (L : Lin α) (h : ¬ b < a) (h' : ¬ c < b) : ¬ c < a := fun q => h' (L.lt_of_lt_of_not q h)
noncomputable def Srt (l : List α) : Prop := l.Pairwise fun a b => ¬ b < a
noncomputable def bigOf (ys : List α) (z : α) : Bool := match ys.getLast? with | none => false | some l => decide (z < l)
noncomputable def memOf (ys : List α) (z : α) : Bool := decide (z ∈ ys)
noncomputable def keepB (big mem : α → Bool) (seen : List α) (x : α) : Bool := !mem x && (!big x || !decide (x ∈ seen))
noncomputable def oneOf (big mem : α → Bool) : List α → List α → List α
  | _, [] => []
  | seen, x :: xs => (if keepB big mem seen x = true then [x] else []) ++ oneOf big mem (x :: seen) xs
theorem one_cons {big mem : α → Bool} {seen xs : List α} {x : α} : oneOf big mem seen (x :: xs) = (if keepB big mem seen x = true then [x] else []) ++ oneOf big mem (x :: seen) xs := rfl
theorem one_congr {big mem big' mem' : α → Bool} : ∀ (xs seen seen' : List α), (∀ z ∈ xs, mem z = mem' z ∧ big z = big' z) → (∀ z ∈ xs, z ∈ seen ↔ z ∈ seen') → oneOf big mem seen xs = oneOf big' mem' seen' xs
  | [], _, _, _, _ => rfl
  | x :: xs, seen, seen', h, hs => by
    rw [one_cons, one_cons]
    have e : keepB big mem seen x = keepB big' mem' seen' x := by
      unfold keepB
      rw [(h x (.head _)).1, (h x (.head _)).2, decide_eq_decide.mpr (hs x (.head _))]
    rw [e]
    rw [one_congr xs (x :: seen) (x :: seen') (fun z hz => h z (.tail _ hz)) (fun z hz => by simp only [List.mem_cons, hs z (.tail _ hz)])]
theorem one_run {big mem : α → Bool} {x : α} (hk : mem x = true ∨ big x = true) : ∀ (xs seen : List α), x ∈ seen → oneOf big mem seen xs = oneOf big mem seen (xs.dropWhile (· == x))
  | [], _, _ => rfl
  | y :: ys, seen, hx => by
    by_cases e : y = x
    · subst e
      have e0 : keepB big mem seen y = false := by
        unfold keepB
        rcases hk with h | h <;> simp [h, hx]
      rw [List.dropWhile_cons_of_pos (by simp)]
      rw [← one_run hk ys seen hx]
      rw [one_cons, e0]
      simp only [Bool.false_eq_true, if_false, List.nil_append]
      refine one_congr _ _ _ (fun z _ => ⟨rfl, rfl⟩) (fun z _ => ?_)
      simp only [List.mem_cons]
      exact ⟨fun h => h.elim (fun q => q ▸ hx) id, .inr⟩
    · rw [List.dropWhile_cons_of_neg (by simpa using e)]
theorem drop_gt (L : Lin α) {x : α} : ∀ {xs : List α}, Srt (x :: xs) → ∀ z ∈ xs.dropWhile (· == x), x < z
  | [], _, _, hz => nomatch hz
  | y :: ys, h, z, hz => by
    by_cases e : y = x
    · subst e
      rw [List.dropWhile_cons_of_pos (by simp)] at hz
      exact drop_gt L (List.pairwise_cons.mp h).2 z hz
    · rw [List.dropWhile_cons_of_neg (by simpa using e)] at hz
      have h1 := List.pairwise_cons.mp h
      have h2 := List.pairwise_cons.mp h1.2
      have hxy : x < y := by
        by_cases q : x < y
        · exact q
        · exact absurd (L.tot (h1.1 y (.head _)) q) e
      rcases List.mem_cons.mp hz with rfl | hz
      · exact hxy
      · exact L.lt_of_lt_of_not hxy (h2.1 z hz)
theorem srt_drop {xs : List α} (p : α → Bool) (h : Srt xs) : Srt (xs.dropWhile p) := List.Pairwise.sublist (List.dropWhile_sublist p) h
theorem mem_drop {y z : α} (h : z ≠ y) : ∀ {ys : List α}, z ∈ ys.dropWhile (· == y) ↔ z ∈ ys
  | [] => Iff.rfl
  | x :: ys => by
    by_cases e : x = y
    · subst e
      rw [List.dropWhile_cons_of_pos (by simp), mem_drop h]
      simp [h]
    · rw [List.dropWhile_cons_of_neg (by simpa using e)]
theorem last_drop {y : α} : ∀ {ys : List α}, (ys.dropWhile (· == y) = [] ∧ (y :: ys).getLast? = some y) ∨ (ys.dropWhile (· == y)).getLast? = (y :: ys).getLast?
  | [] => .inl ⟨rfl, rfl⟩
  | x :: ys => by
    by_cases e : x = y
    · subst e
      rw [List.dropWhile_cons_of_pos (by simp)]
      rcases last_drop (y := x) (ys := ys) with ⟨h1, h2⟩ | h
      · exact .inl ⟨h1, by rw [List.getLast?_cons_cons]; exact h2⟩
      · exact .inr (by rw [List.getLast?_cons_cons]; exact h)
    · rw [List.dropWhile_cons_of_neg (by simpa using e)]
      exact .inr (by rw [List.getLast?_cons_cons])
theorem drop_same (L : Lin α) {y z : α} {ys : List α} (h : y < z) : memOf (y :: ys) z = memOf (ys.dropWhile (· == y)) z ∧ bigOf (y :: ys) z = bigOf (ys.dropWhile (· == y)) z := by
  have hne : z ≠ y := fun q => L.irr _ (q ▸ h)
  constructor
  · unfold memOf
    rw [decide_eq_decide, mem_drop hne]
    simp [hne]
  · unfold bigOf
    rcases last_drop (y := y) (ys := ys) with ⟨h1, h2⟩ | h1
    · rw [h1, h2]
      simp [L.asym h]
    · rw [h1]
theorem sld_one (L : Lin α) : ∀ (n : Nat) (xs ys : List α), xs.length + ys.length ≤ n → Srt xs → Srt ys → (sldL xs ys).1 = oneOf (bigOf ys) (memOf ys) [] xs := by
  intro n
  have fr : ∀ (xs seen : List α), oneOf (bigOf ([] : List α)) (memOf []) seen xs = xs := by
    intro xs
    induction xs with
    | nil => intro _; rfl
    | cons x xs ih => intro seen; rw [one_cons, ih]; simp [keepB, memOf, bigOf]
  induction n with
  | zero =>
    intro xs ys h _ _
    have e1 : xs = [] := List.length_eq_zero_iff.mp (by lia)
    subst e1
    rw [sldL_nil_left]; rfl
  | succ n ih =>
    intro xs ys h hx hy
    cases xs with
    | nil => rw [sldL_nil_left]; rfl
    | cons x xs =>
      cases ys with
      | nil => rw [sldL_nil_right, fr]
      | cons y ys =>
        have lx := dropWhile_len (· == x) xs
        have ly := dropWhile_len (· == y) ys
        simp only [List.length_cons] at h
        have hx1 := List.pairwise_cons.mp hx
        have hy1 := List.pairwise_cons.mp hy
        rw [sldL_cons]
        by_cases h1 : x < y
        · rw [if_pos h1]
          show x :: (sldL (xs.dropWhile (· == x)) (y :: ys)).1 = _
          rw [ih _ _ (by simp only [List.length_cons]; lia) (srt_drop _ hx1.2) hy]
          have m0 : memOf (y :: ys) x = false := by
            unfold memOf
            rw [decide_eq_false_iff_not]
            intro q
            rcases List.mem_cons.mp q with rfl | q
            · exact L.irr _ h1
            · exact hy1.1 _ q h1
          have b1 : bigOf (y :: ys) x = true := by
            unfold bigOf
            have hne : (y :: ys) ≠ [] := nofun
            rw [List.getLast?_eq_some_getLast hne]
            simp only [decide_eq_true_iff]
            rcases List.mem_cons.mp (List.getLast_mem hne) with q | q
            · rw [q]; exact h1
            · exact L.lt_of_lt_of_not h1 (hy1.1 _ q)
          have : oneOf (bigOf (y :: ys)) (memOf (y :: ys)) [] (x :: xs) = x :: oneOf (bigOf (y :: ys)) (memOf (y :: ys)) [x] xs := by
            rw [one_cons]; unfold keepB
            rw [m0]; simp
          rw [this, one_run (.inr b1) xs [x] (.head _)]
          congr 1
          refine one_congr _ _ _ (fun z _ => ⟨rfl, rfl⟩) (fun z hz => ?_)
          have := drop_gt L hx z hz
          simp only [List.not_mem_nil, List.mem_singleton, false_iff]
          exact fun q => L.irr _ (q ▸ this)
        · rw [if_neg h1]
          by_cases h2 : y < x
          · rw [if_pos h2]
            show (sldL (x :: xs) (ys.dropWhile (· == y))).1 = _
            rw [ih _ _ (by simp only [List.length_cons]; lia) hx (srt_drop _ hy1.2)]
            refine one_congr _ _ _ (fun z hz => ?_) (fun z _ => Iff.rfl)
            have hz' : y < z := by
              rcases List.mem_cons.mp hz with rfl | hz
              · exact h2
              · exact L.lt_of_lt_of_not h2 (hx1.1 z hz)
            exact ⟨(drop_same L hz').1.symm, (drop_same L hz').2.symm⟩
          · rw [if_neg h2]
            have e := L.tot h1 h2
            subst e
            rw [ih _ _ (by lia) (srt_drop _ hx1.2) (srt_drop _ hy1.2)]
            have m1 : memOf (x :: ys) x = true := by unfold memOf; simp
            have : oneOf (bigOf (x :: ys)) (memOf (x :: ys)) [] (x :: xs) = oneOf (bigOf (x :: ys)) (memOf (x :: ys)) [x] xs := by
              rw [one_cons]; unfold keepB
              rw [m1]; simp
            rw [this, one_run (.inl m1) xs [x] (.head _)]
            refine one_congr _ _ _ (fun z hz => ?_) (fun z hz => ?_)
            · have hz' := drop_gt L hx z hz
              exact ⟨(drop_same L hz').1.symm, (drop_same L hz').2.symm⟩
            · have := drop_gt L hx z hz
              simp only [List.not_mem_nil, List.mem_singleton, false_iff]
              exact fun q => L.irr _ (q ▸ this)
theorem sld_swap (L : Lin α) : ∀ (n : Nat) (xs ys : List α), xs.length + ys.length ≤ n → (sldL ys xs).1 = (sldL xs ys).2 := by
  intro n
  induction n with
  | zero =>
    intro xs ys h
    have e1 : xs = [] := List.length_eq_zero_iff.mp (by lia)
    have e2 : ys = [] := List.length_eq_zero_iff.mp (by lia)
    subst e1 e2
    rw [sldL_nil_left]
  | succ n ih =>
    intro xs ys h
    cases xs with
    | nil => rw [sldL_nil_left, sldL_nil_right]
    | cons x xs =>
      cases ys with
      | nil => rw [sldL_nil_right, sldL_nil_left]
      | cons y ys =>
        have lx := dropWhile_len (· == x) xs
        have ly := dropWhile_len (· == y) ys
        simp only [List.length_cons] at h
        rw [sldL_cons, sldL_cons]
        by_cases h1 : x < y
        · simp only [if_pos h1, if_neg (L.asym h1)]
          exact ih _ _ (by simp only [List.length_cons]; lia)
        · by_cases h2 : y < x
          · simp only [if_neg h1, if_pos h2]
            rw [ih _ _ (by simp only [List.length_cons]; lia)]
          · simp only [if_neg h1, if_neg h2]
            exact ih _ _ (by lia)
end
theorem lin_int : Lin Int := ⟨Int.lt_irrefl, Int.lt_trans, fun h h' => by lia⟩
theorem lin_ints : Lin (List Int) := ⟨List.lt_irrefl, List.lt_trans, fun h h' => List.le_antisymm (List.not_lt.mp h') (List.not_lt.mp h)⟩
theorem lin_rows : Lin (List (List Int)) := ⟨List.lt_irrefl, List.lt_trans, fun h h' => List.le_antisymm (List.not_lt.mp h') (List.not_lt.mp h)⟩
theorem keeps_one {mine yours : List (List (List Int))} {k : Nat} {x : List (List Int)} : keepsRow mine yours k x = keepB (bigOf yours) (memOf yours) (mine.take k) x := by
  unfold keepsRow keepB memOf bigOf
  cases yours.getLast? <;> by_cases a : x ∈ yours <;> by_cases b : x ∈ mine.take k <;> simp [a, b]
theorem lack_one {mine yours : List (List (List Int))} : ∀ i, i ≤ mine.length → lackTo mine yours i ++ oneOf (bigOf yours) (memOf yours) (mine.take i) (mine.drop i) = oneOf (bigOf yours) (memOf yours) [] mine := by
  intro i
  induction i with
  | zero => intro _; rfl
  | succ i ih =>
    intro h
    rw [← ih (by lia)]
    have e : mine[i]? = some mine[i] := List.getElem?_eq_getElem (by lia)
    rw [List.drop_eq_getElem_cons (by lia : i < mine.length)]
    have es : lackTo mine yours (i + 1) = lackTo mine yours i ++ (if keepsRow mine yours i mine[i] = true then [mine[i]] else []) := by
      show lackTo mine yours i ++ (match mine[i]? with | some x => if keepsRow mine yours i x then [x] else [] | none => []) = _
      rw [e]
    rw [one_cons, es, ← keeps_one, List.append_assoc]
    congr 2
    refine one_congr _ _ _ (fun z _ => ⟨rfl, rfl⟩) (fun z _ => ?_)
    rw [List.take_succ_eq_append_getElem (by lia)]
    simp only [List.mem_append, List.mem_cons, List.not_mem_nil, or_false]
    exact or_comm
theorem sld_lack {x y : List (List (List Int))} (hx : Srt x) (hy : Srt y) : sldL x y = (lackTo x y x.length, lackTo y x y.length) := by
  have h1 := lack_one (mine := x) (yours := y) x.length (Nat.le_refl _)
  have h2 := lack_one (mine := y) (yours := x) y.length (Nat.le_refl _)
  rw [List.drop_length, show ∀ s, oneOf (bigOf y) (memOf y) s [] = [] from fun _ => rfl, List.append_nil] at h1
  rw [List.drop_length, show ∀ s, oneOf (bigOf x) (memOf x) s [] = [] from fun _ => rfl, List.append_nil] at h2
  rw [h1, h2, ← sld_one lin_rows _ x y (Nat.le_refl _) hx hy, ← sld_one lin_rows _ y x (Nat.le_refl _) hy hx, sld_swap lin_rows _ x y (Nat.le_refl _)]
theorem Srt.sorted {x : List (List (List Int))} (h : Srt x) : Sorted x := by
  intro k a b ha hb
  obtain ⟨h1, rfl⟩ := List.getElem?_eq_some_iff.mp ha
  obtain ⟨h2, rfl⟩ := List.getElem?_eq_some_iff.mp hb
  exact List.pairwise_iff_getElem.mp h k (k + 1) h1 h2 (Nat.lt_succ_self _)
theorem srt_unique {x y : List (List (List Int))} (hx : Srt x) (hy : Srt y) (hp : x.Perm y) : x = y :=
  List.Perm.eq_of_pairwise (fun a b _ _ h1 h2 => lin_rows.tot h2 h1) hx hy hp
theorem ordG_neg {x y : List (List Int)} : ordG x y < 0 ↔ x < y := by
  unfold ordG
  by_cases h1 : y < x
  · rw [if_pos h1]; exact ⟨fun h => absurd h (by decide), fun h => absurd h (lin_rows.asym h1)⟩
  · rw [if_neg h1]
    by_cases h2 : x < y
    · rw [if_pos h2]; exact ⟨fun _ => h2, fun _ => by decide⟩
    · rw [if_neg h2]; exact ⟨fun h => absurd h (by decide), fun h => absurd h h2⟩
noncomputable def pick (rows : List (List (List Int))) (p : Array Nat) : List (List (List Int)) := p.toList.map fun i => rows.getD i []
theorem pick_perm {rows : List (List (List Int))} {p : Array Nat} (h : Pm rows.length p) : (pick rows p).Perm rows := by
  have h1 := (Array.perm_iff_toList_perm.mp h.perm).map fun i => rows.getD i []
  refine h1.trans (List.Perm.of_eq ?_)
  apply List.ext_getElem
  · simp
  · intro i h1 h2
    simp [h2]
theorem pick_srt {rows : List (List (List Int))} {p : Array Nat} (h : Pm rows.length p) (u : Up (fun i j => decide (ordG (rows.getD i []) (rows.getD j []) < 0)) p rows.length) : Srt (pick rows p) := by
  refine List.pairwise_iff_getElem.mpr fun i j hi hj hij => ?_
  unfold pick at hi hj ⊢
  rw [List.length_map, Array.length_toList, h.size] at hi hj
  have := u i j (Nat.le_of_lt hij) hj
  rw [decide_eq_false_iff_not, ordG_neg] at this
  have e : ∀ k, (hk : k < rows.length) → gt p k = p[k]'(by rw [h.size]; exact hk) := fun k hk => by
    have := gt_some (p := p) (i := k) (by rw [h.size]; exact hk)
    have h2 : p[k]? = some (p[k]'(by rw [h.size]; exact hk)) := Array.getElem?_eq_getElem _
    rw [h2] at this; exact (Option.some.inj this).symm
  rw [e i hi, e j hj] at this
  simpa using this
theorem ord_asym (rows : List (List (List Int))) : ∀ i j : Nat, decide (ordG (rows.getD i []) (rows.getD j []) < 0) = true → decide (ordG (rows.getD j []) (rows.getD i []) < 0) = false := by
  intro i j h
  rw [decide_eq_true_iff, ordG_neg] at h
  rw [decide_eq_false_iff_not, ordG_neg]
  exact lin_rows.asym h
theorem ord_trans (rows : List (List (List Int))) : ∀ i j k : Nat, decide (ordG (rows.getD j []) (rows.getD i []) < 0) = false → decide (ordG (rows.getD k []) (rows.getD j []) < 0) = false → decide (ordG (rows.getD k []) (rows.getD i []) < 0) = false := by
  intro i j k h h'
  rw [decide_eq_false_iff_not, ordG_neg] at h h' ⊢
  exact lin_rows.not_trans h h'
end
theorem fl32 : True := by w_top off; first | walk1 | trivial
section
open PySem PySem.W PyProof.Rows PySem.Calls PySem.Spec PySem.SeqAt
set_option maxHeartbeats 4000000
@[irreducible] def newsOf (g k : Heap) : List (Addr × Obj) := (List.range k.objs.size).filterMap fun b => match g.get? b with | some _ => none | none => (k.get? b).map fun o => (b, o)
theorem newsOf_mem {g k : Heap} {p : Addr × Obj} (h : p ∈ newsOf g k) : k.get? p.1 = some p.2 ∧ g.get? p.1 = none := by
  unfold newsOf at h
  obtain ⟨b, -, e⟩ := List.mem_filterMap.mp h
  cases q : g.get? b with
  | some _ => rw [q] at e; cases e
  | none =>
    rw [q] at e
    cases q2 : k.get? b with
    | none => rw [q2] at e; cases e
    | some o => rw [q2] at e; cases e; exact ⟨q2, q⟩
theorem mem_newsOf {g k : Heap} {b : Addr} {o : Obj} (e : k.get? b = some o) (n : g.get? b = none) : (b, o) ∈ newsOf g k := by
  unfold newsOf
  refine List.mem_filterMap.mpr ⟨b, List.mem_range.mpr (Heap.lt_size e), ?_⟩
  rw [n, e]; rfl
structure Base (g k : Heap) (L : Addr) : Prop where
  up : g.StaysIn k
  no : k.get? L = none
theorem Base.back {g k h : Heap} {L : Addr} {m : Str → Option Value} {news : List (Addr × Obj)} (B : Base g k L) (F : Fr g L h m) (N : News g L h news) (sub : ∀ p ∈ newsOf g k, p ∈ news) : k.StaysIn h := by
  intro b o e
  cases q : g.get? b with
  | some og => have := B.up _ _ q; rw [e] at this; cases this; exact F.keep _ _ q
  | none => exact (N _ (sub _ (mem_newsOf e q))).1
theorem Base.news {g k h : Heap} {L : Addr} (B : Base g k L) (st : k.StaysIn h) : News g L h (newsOf g k) := fun p hp => by
  obtain ⟨e, n⟩ := newsOf_mem hp
  have hb : p.1 ≠ L := by intro q; rw [q, B.no] at e; cases e
  exact ⟨st _ _ e, hb, n⟩
theorem mile {g h : Heap} {L : Addr} {m : Str → Option Value} (F : Fr g L h m) : Base g (h.hide L) L ∧ (h.hide L).StaysIn h ∧ ∀ b o, b ≠ L → h.get? b = some o → (h.hide L).get? b = some o :=
  ⟨⟨fun b o e => (Heap.hide_ne _ (Nat.ne_of_lt (Nat.lt_of_lt_of_le (Heap.lt_size e) F.above))).trans (F.keep _ _ e), Heap.hide_self _ _⟩, fun b o e => Heap.of_hide e, fun b o hb e => (Heap.hide_ne _ hb).trans e⟩
theorem fr_but {g h h' : Heap} {L : Addr} {ps : List Addr} {m : Str → Option Value} (x : Kx ps h h') (hL : L ∉ ps) (hg : ∀ p ∈ ps, g.get? p = none) (F : Fr g L h m) : Fr g L h' m := by
  obtain ⟨oL, es, ep, e, r⟩ := F.ns
  exact ⟨⟨oL, es, ep, x _ _ hL e, r⟩, fun b o e => x b o (fun q => by rw [hg _ q] at e; cases e) (F.keep b o e), F.above⟩
theorem news_but {g h h' : Heap} {L : Addr} {ps : List Addr} {news : List (Addr × Obj)} (x : Kx ps h h') (hn : ∀ p ∈ news, p.1 ∉ ps) (N : News g L h news) : News g L h' news :=
  fun p hp => ⟨x _ _ (hn p hp) (N p hp).1, (N p hp).2⟩
noncomputable def NoList (o : Obj) : Prop := o.cls ≠ .type "list" ∨ ∀ items n, o.data ≠ .seq items n
theorem isList_but {k k' : Heap} {ps : List Addr} (x : Kx ps k k') (hp : ∀ p ∈ ps, ∀ o, k.get? p = some o → NoList o) {a : Addr} {vs : Array Value} (l : k.IsList a vs) : k'.IsList a vs := by
  obtain ⟨o, e, c, n, d⟩ := l
  refine ⟨o, x _ _ (fun q => ?_) e, c, n, d⟩
  rcases hp _ q _ e with h | h
  · exact h c
  · exact h _ _ d
theorem ListAt.but {α : Type} {P P' : Value → α → Prop} {k k' : Heap} {ps : List Addr} (x : Kx ps k k') (hp : ∀ p ∈ ps, ∀ o, k.get? p = some o → NoList o) (hP : ∀ v x, P v x → P' v x) {v : Value} {xs : List α} (l : ListAt P k v xs) : ListAt P' k' v xs := by
  obtain ⟨a, vs, e, l, p⟩ := l
  exact ⟨a, vs, e, isList_but x hp l, Paired.imp p fun v x _ _ => hP v x⟩
theorem RowAt.but {k k' : Heap} {ps : List Addr} (x : Kx ps k k') (hp : ∀ p ∈ ps, ∀ o, k.get? p = some o → NoList o) {v : Value} {r : List (List Int)} (l : RowAt k v r) : RowAt k' v r :=
  ListAt.but x hp (fun _ _ y => ListAt.but x hp (fun _ _ z => z) y) l
theorem ShelfAt.but {k k' : Heap} {ps : List Addr} (x : Kx ps k k') (hp : ∀ p ∈ ps, ∀ o, k.get? p = some o → NoList o) {v : Value} {r : List (List (List Int))} (l : ShelfAt k v r) : ShelfAt k' v r :=
  ListAt.but x hp (fun _ _ y => y.but x hp) l
theorem tab_noList {ps : Array Value} : NoList (tabObj ps) := .inl nofun
theorem T91.noList {h : Heap} (t : T91 h) : ∀ p ∈ [91], ∀ o, h.get? p = some o → NoList o := by
  intro p hp o e
  obtain rfl := List.mem_singleton.mp hp
  obtain ⟨ps, e'⟩ := t.tab
  rw [e'] at e; cases e; exact tab_noList
theorem kx_hide {g h h' : Heap} {L : Addr} {ps : List Addr} (x : Kx ps h h') : Kx ps (h.hide L) (h'.hide L) := fun b o hb e => by
  have hbL : b ≠ L := fun q => by rw [q, Heap.hide_self] at e; cases e
  exact (Heap.hide_ne _ hbL).trans (x b o hb (Heap.of_hide e))
theorem fr_dict {g h : Heap} {L : Addr} {m : Str → Option Value} (F : Fr g L h m) : ∃ o es ep, h.get? L = some o ∧ o.data = .dict es ep := let ⟨o, es, ep, e, d, _⟩ := F.ns; ⟨o, es, ep, e, d⟩
theorem hide_but {h : Heap} {L : Addr} : ∀ b o, b ≠ L → h.get? b = some o → (h.hide L).get? b = some o := fun b o hb e => (Heap.hide_ne _ hb).trans e
theorem fr_noList {g h : Heap} {L : Addr} {m : Str → Option Value} (F : Fr g L h m) : ∀ p ∈ [L], ∀ o, h.get? p = some o → NoList o := by
  intro p hp o e
  obtain rfl := List.mem_singleton.mp hp
  obtain ⟨o', es, ep, e', d⟩ := fr_dict F
  rw [e'] at e; cases e
  exact .inr fun items n q => by rw [d] at q; cases q
theorem kx_one {h h' : Heap} {L : Addr} (x : ∀ b o, b ≠ L → h.get? b = some o → h'.get? b = some o) : Kx [L] h h' := fun b o hb e => x b o (fun q => hb (q ▸ .head _)) e
theorem T91.mile {g h : Heap} {L : Addr} {m : Str → Option Value} (F : Fr g L h m) (t : T91 h) (hL : 91 < L) : T91 (h.hide L) := by
  obtain ⟨o, es, ep, e, d⟩ := fr_dict F
  refine T91.stable.on h _ (fun b => b = L) (fun b ob hb eb => ?_) (fun b ob hb eb => hide_but b ob hb eb) t
  subst hb
  rw [e] at eb; cases eb
  have nr : NotRec o := by intro vs q t h; rw [d] at h; cases h
  have nb : b ∉ [91] := by intro q; obtain rfl := List.mem_singleton.mp q; exact absurd hL (Nat.lt_irrefl _)
  exact ⟨nr, nb⟩
theorem T30.mile {g h : Heap} {L : Addr} {m : Str → Option Value} (F : Fr g L h m) (t : T30 h) : T30 (h.hide L) := by
  obtain ⟨o, es, ep, e, d⟩ := fr_dict F
  exact t.but hide_but e fun vs q => by rw [d] at q; cases q
theorem ShelfAt.mile {g h : Heap} {L : Addr} {m : Str → Option Value} (F : Fr g L h m) {v : Value} {r : List (List (List Int))} (l : ShelfAt h v r) : ShelfAt (h.hide L) v r := ShelfAt.but (kx_one hide_but) (fr_noList F) l
theorem RowAt.mile {g h : Heap} {L : Addr} {m : Str → Option Value} (F : Fr g L h m) {v : Value} {r : List (List Int)} (l : RowAt h v r) : RowAt (h.hide L) v r := RowAt.but (kx_one hide_but) (fr_noList F) l
theorem StrsAt.mile {g h : Heap} {L : Addr} {m : Str → Option Value} (F : Fr g L h m) {v : Value} {r : List Str} (l : StrsAt h v r) : StrsAt (h.hide L) v r := ListAt.but (kx_one hide_but) (fr_noList F) (fun _ _ q => q) l
theorem kco_first {k k' : Heap} {P : Addr} (x : Kx [P] k k') (t : Kco k 34 30 []) (h1 : P ≠ 34) (h2 : P ≠ 30) : Kco k' 34 30 [] := by
  have hk : ∀ b o, b ≠ P → k.get? b = some o → k'.get? b = some o := fun b o hb e => x b o (fun q => hb (List.mem_singleton.mp q)) e
  exact ⟨t.code.extBut (a := P) hk h1.symm h2.symm, t.tab.extBut (a := P) hk h1.symm h2.symm⟩
theorem T91.but30 {h h' : Heap} (t : T91 h) (t30 : T30 h) (x : ∀ b o, b ≠ 30 → h.get? b = some o → h'.get? b = some o) : T91 h' := by
  refine T91.stable.on h h' (fun b => b = 30) (fun b ob hb eb => ?_) x t
  subst hb
  refine ⟨?_, by decide⟩
  rcases t30 with t30 | ⟨cK, PK, cs, k1, _⟩
  · rw [t30.tab.2] at eb; cases eb
    intro vs q t h; cases h; simp
  · rw [k1.tab.2] at eb; cases eb
    intro vs q t h; cases h; intro z; cases z
theorem next_k {g k h h' : Heap} {L : Addr} {ps : List Addr} (B : Base g k L) (st : k.StaysIn h) (x : Kx ps h h') : Kx ps k (h'.hide L) := fun b o hb e => by
  have hbL : b ≠ L := fun q => by rw [q, B.no] at e; cases e
  exact hide_but _ _ hbL (x b o hb (st _ _ e))
theorem kco_mile {g h : Heap} {L : Addr} {m : Str → Option Value} (F : Fr g L h m) (t : Kco h 34 30 []) (hL : 34 < L) : Kco (h.hide L) 34 30 [] := kco_first (kx_one hide_but) t (Nat.ne_of_gt hL) (Nat.ne_of_gt (Nat.lt_trans (by decide) hL))
theorem shelf_len {x : List Int} : (shelfOf x).length ≤ 23 := by
  have h := small_fold (scriptOf x) 0 _ small_zero
  have l22 : (scriptOf x).length ≤ 22 := by unfold scriptOf; rw [List.length_append, List.length_take]; show _ + 10 ≤ 22; lia
  have := h.len
  unfold shelfOf shelfP
  rw [List.length_append, List.length_singleton]; lia
theorem SmallR.good {k : Nat} {r : List (List Int)} (h : SmallR k r) (hk : k ≤ 40) : GoodRow r := ⟨Nat.le_trans h.len hk, fun i hi => ⟨Nat.le_trans (h.ins i hi).len hk, (h.ins i hi).num⟩⟩
theorem shelf_good {x : List Int} : ∀ r ∈ shelfOf x, GoodRow r := by
  have h := small_fold (scriptOf x) 0 _ small_zero
  have l22 : (scriptOf x).length ≤ 22 := by unfold scriptOf; rw [List.length_append, List.length_take]; show _ + 10 ≤ 22; lia
  intro r hr
  rcases List.mem_append.mp hr with hr | hr
  · exact (h.done r hr).good (by lia)
  · rw [List.mem_singleton.mp hr]; exact h.cur.good (by lia)
theorem T91.off {h : Heap} (t : T91 h) {a : Addr} {vs : Array Value} (l : h.IsList a vs) : ∀ b ∈ [91], b < h.objs.size ∧ b ≠ a := by
  intro b hb
  obtain rfl := List.mem_singleton.mp hb
  obtain ⟨ps, e⟩ := t.tab
  refine ⟨Heap.lt_size e, ?_⟩
  rintro rfl
  obtain ⟨o, e', c, _⟩ := l
  rw [e] at e'; cases e'; cases c
theorem T91.butCell {h h' : Heap} {c : Addr} {v : Option Value} (t : T91 h) (hc : h.IsCell c v) (x : Kx [c] h h') (hn : c ≠ 91) : T91 h' := by
  obtain ⟨o, e, d⟩ := hc
  refine T91.stable.on h h' (fun b => b = c) (fun b ob hb eb => ?_) (fun b ob hb eb => x b ob (fun q => hb (List.mem_singleton.mp q)) eb) t
  subst hb
  rw [e] at eb; cases eb
  have nr : NotRec o := by intro vs q t h; rw [d] at h; cases h
  have nb : b ∉ [91] := fun q => hn (List.mem_singleton.mp q)
  exact ⟨nr, nb⟩
theorem cell_noList {h : Heap} {c : Addr} {v : Option Value} (hc : h.IsCell c v) : ∀ p ∈ [c], ∀ o, h.get? p = some o → NoList o := by
  intro p hp o e
  obtain rfl := List.mem_singleton.mp hp
  obtain ⟨o', e', d⟩ := hc
  rw [e'] at e; cases e
  exact .inr fun items n q => by rw [d] at q; cases q
theorem name_mk (row : List (List Int)) : nameOf row = mkS (67 :: tailOf row) := by
  have h := name_codes row
  have e : nameOf row = mkS ((nameOf row).cps.toList) := by
    show _ = (⟨(nameOf row).cps.toList.toArray⟩ : Str)
    rw [Array.toArray_toList]
  rw [e, h]
theorem joinL_head (x : List Nat) (row : List (List Nat)) : joinL [46] (x :: row) = x ++ row.flatMap fun p => 46 :: p := by
  induction row generalizing x with
  | nil => simp [joinL]
  | cons y row ih =>
    show x ++ [46] ++ joinL [46] (y :: row) = _
    rw [ih]
    simp
theorem name_join (row : List (List Int)) : Txt.join (Str.ofString ".") (Str.ofString "C" :: (row.map piece).map mkS) = nameOf row := by
  have h := join_mkS [46] ([67] :: row.map piece)
  rw [joinL_head] at h
  rw [name_mk]
  have e : tailOf row = (row.map piece).flatMap fun p => 46 :: p := by
    unfold tailOf
    rw [List.flatMap_map]
  rw [e]
  exact h
theorem ns_stable {L : Addr} {m : Str → Option Value} : Stable [L] (fun h => h.Ns L m) where
  alive := fun h hn b hb => by
    obtain rfl := List.mem_singleton.mp hb
    obtain ⟨o, _, _, e, _⟩ := hn
    exact ⟨o, e⟩
  on := fun h h' bad hb hk hn => nsAt hn fun o e => by
    have nb : ¬ bad L := fun q => (hb _ _ q e).2 (.head _)
    exact hk _ _ nb e
theorem ns_off {h : Heap} {L a : Addr} {m : Str → Option Value} {vs : Array Value} (hn : h.Ns L m) (l : h.IsList a vs) : ∀ b ∈ [L], b < h.objs.size ∧ b ≠ a := by
  intro b hb
  obtain rfl := List.mem_singleton.mp hb
  obtain ⟨o, es, ep, e, d, _⟩ := hn
  refine ⟨Heap.lt_size e, ?_⟩
  rintro rfl
  obtain ⟨o', e', c, n, d'⟩ := l
  rw [e] at e'; cases e'; rw [d] at d'; cases d'
theorem fr_ns {g h h' : Heap} {L : Addr} {m : Str → Option Value} (F : Fr g L h m) (hk : Kx [L] h h') (hn : h'.Ns L m) : Fr g L h' m :=
  ⟨hn, fun b o e => hk b o (fun q => by rw [List.mem_singleton.mp q] at e; exact absurd F.above (Nat.not_le.mpr (Heap.lt_size e))) (F.keep _ _ e), F.above⟩
theorem k_on {g k h h' : Heap} {L : Addr} (B : Base g k L) (st : k.StaysIn h) (hk : Kx [L] h h') : k.StaysIn h' := fun b o e =>
  hk b o (fun q => by rw [List.mem_singleton.mp q, B.no] at e; cases e) (st _ _ e)
theorem cmp_names {a b : List (List Int)} (ga : GoodRow a) (gb : GoodRow b) : cmpS (nameOf a) (nameOf b) = ordG a b := by
  have na : ∀ i ∈ a, ∀ n ∈ i, n.natAbs < 10 ^ 15 := fun i hi => (ga.ins i hi).num
  have nb : ∀ i ∈ b, ∀ n ∈ i, n.natAbs < 10 ^ 15 := fun i hi => (gb.ins i hi).num
  have up : ∀ {u v : List Nat}, u < v → 67 :: u < 67 :: v := fun h => List.cons_lt_cons_iff.mpr (.inr ⟨rfl, h⟩)
  unfold cmpS ordG
  rw [name_codes, name_codes]
  by_cases h1 : b < a
  · rw [if_pos h1, if_pos (up (row_lt nb na h1))]
  · by_cases h2 : a < b
    · have h3 := up (row_lt na nb h2)
      rw [if_neg h1, if_pos h2, if_neg (List.lt_asymm h3), if_pos h3]
    · have e : a = b := List.le_antisymm (List.not_lt.mp h1) (List.not_lt.mp h2)
      subst e
      rw [if_neg (List.lt_irrefl _), if_neg (List.lt_irrefl _), if_neg h1, if_neg h1]
end
theorem fl33 : True := by w_top off; first | walk1 | trivial
section
open PySem PySem.W PyProof.Rows PySem.Calls PySem.Spec PySem.SeqAt
set_option maxHeartbeats 4000000
variable {w : World}
noncomputable def NmV (v : Value) (r : List (List Int)) : Prop := GoodRow r ∧ StrV v (nameOf r)
theorem name_lt {a b : List (List Int)} (ga : GoodRow a) (gb : GoodRow b) : (nameOf a).cps.toList < (nameOf b).cps.toList ↔ a < b := by
  have up : ∀ {u v : List Nat}, u < v → 67 :: u < 67 :: v := fun h => List.cons_lt_cons_iff.mpr (.inr ⟨rfl, h⟩)
  have na : ∀ i ∈ a, ∀ n ∈ i, n.natAbs < 10 ^ 15 := fun i hi => (ga.ins i hi).num
  have nb : ∀ i ∈ b, ∀ n ∈ i, n.natAbs < 10 ^ 15 := fun i hi => (gb.ins i hi).num
  rw [name_codes, name_codes]
  constructor
  · intro h
    by_cases h1 : a < b
    · exact h1
    · by_cases h2 : b < a
      · exact absurd (up (row_lt nb na h2)) (List.lt_asymm h)
      · rw [lin_rows.tot h1 h2] at h
        exact absurd h (List.lt_irrefl _)
  · exact fun h => up (row_lt na nb h)
theorem name_inj {a b : List (List Int)} (ga : GoodRow a) (gb : GoodRow b) (h : nameOf a = nameOf b) : a = b := by
  refine lin_rows.tot (fun q => ?_) (fun q => ?_)
  · have := (name_lt ga gb).mpr q
    rw [h] at this
    exact List.lt_irrefl _ this
  · have := (name_lt gb ga).mpr q
    rw [h] at this
    exact List.lt_irrefl _ this
theorem NmV.rc {A : Around} {s : Shared} : RcOk A s NmV := by
  rintro v x u y ⟨gx, t, rfl⟩ ⟨gy, t', rfl⟩
  have := RcAt.str_str (A := A) (s := s) (nameOf x) t (nameOf y) t'
  rwa [show (nameOf x == nameOf y) = decide (x = y) from (show (nameOf x == nameOf y) = decide (nameOf x = nameOf y) from rfl).trans (decide_eq_decide.mpr ⟨name_inj gx gy, fun e => e ▸ rfl⟩)] at this
theorem NmV.lt {A : Around} {s : Shared} : LtOk A s NmV := by
  rintro v x u y ⟨gx, t, rfl⟩ ⟨gy, t', rfl⟩ prog w E Q h
  refine P.lt_str (x := nameOf x) (y := nameOf y) (t := t) (u := t') ?_
  rwa [show decide ((nameOf x).cps.toList < (nameOf y).cps.toList) = decide (x < y) from decide_eq_decide.mpr (name_lt gx gy)]
theorem NmV.gt {A : Around} {s : Shared} : GtOk A s NmV := by
  rintro v x u y ⟨gx, t, rfl⟩ ⟨gy, t', rfl⟩ prog w E Q h
  refine P.gt_str (x := nameOf x) (y := nameOf y) (t := t) (u := t') ?_
  rwa [show decide ((nameOf y).cps.toList < (nameOf x).cps.toList) = decide (y < x) from decide_eq_decide.mpr (name_lt gy gx)]
theorem row_rc {A : Around} {s : Shared} {k : Heap} (st : k.StaysIn s.heap) (hu : A.units + 3 < cLine) : RcOk A s (RowAt k) := fun v x u y hx hy =>
  rc_lists (eq_inner (by show A.units + 1 + 1 < cLine; omega)) (hx.keeps st) (hy.keeps st) (by omega)
theorem row_lt' {A : Around} {s : Shared} {k : Heap} (st : k.StaysIn s.heap) (hu : A.units + 3 < cLine) : LtOk A s (RowAt k) := fun v x u y hx hy =>
  lt_row (by omega) v x u y (hx.keeps st) (hy.keeps st)
theorem row_gt' {A : Around} {s : Shared} {k : Heap} (st : k.StaysIn s.heap) (hu : A.units + 3 < cLine) : GtOk A s (RowAt k) := fun v x u y hx hy =>
  gt_row (by omega) v x u y (hx.keeps st) (hy.keeps st)
end
section
open PySem PySem.W PyProof.Rows PySem.Calls PySem.Spec PySem.SeqAt
set_option maxHeartbeats 4000000
noncomputable def pickI {α : Type} (lo : Option Int) (xs : List α) : List α := (sliceRange (sliceBounds lo none (some 2) xs.length).1 (sliceBounds lo none (some 2) xs.length).2.1 (sliceBounds lo none (some 2) xs.length).2.2).filterMap (xs[·]?)
theorem paired_filterMap {α β : Type} {P : β → α → Prop} {vs : List β} {xs : List α} (p : Paired P vs xs) : ∀ is : List Nat, Paired P (is.filterMap (vs[·]?)) (is.filterMap (xs[·]?))
  | [] => .nil
  | i :: is => by
    have ih := paired_filterMap p is
    cases e : vs[i]? with
    | none =>
      have e2 : xs[i]? = none := by
        rw [List.getElem?_eq_none_iff] at e ⊢
        rw [← p.length]; exact e
      rw [List.filterMap_cons_none e, List.filterMap_cons_none e2]
      exact ih
    | some v =>
      obtain ⟨x, e2, h⟩ := Paired.get p e
      rw [List.filterMap_cons_some e, List.filterMap_cons_some e2]
      exact .cons h ih
theorem slice_paired {α : Type} {P : Value → α → Prop} {vs : List Value} {xs : List α} (p : Paired P vs xs) (lo : Option Int) : Paired P (slicePick vs.toArray lo none (some 2)).toList (pickI lo xs) := by
  have h := paired_filterMap p (sliceRange (sliceBounds lo none (some 2) xs.length).1 (sliceBounds lo none (some 2) xs.length).2.1 (sliceBounds lo none (some 2) xs.length).2.2)
  have e : (slicePick vs.toArray lo none (some 2)).toList = (sliceRange (sliceBounds lo none (some 2) xs.length).1 (sliceBounds lo none (some 2) xs.length).2.1 (sliceBounds lo none (some 2) xs.length).2.2).filterMap (vs[·]?) := by
    unfold slicePick
    rw [List.size_toArray, p.length]
    show List.filterMap (fun x => vs.toArray[x]?) _ = _
    congr 1
    funext x
    simp
  rw [e]; exact h
theorem pickI_sub {α : Type} {lo : Option Int} {xs : List α} : ∀ x ∈ pickI lo xs, x ∈ xs := by
  intro x hx
  obtain ⟨i, -, e⟩ := List.mem_filterMap.mp hx
  exact List.mem_of_getElem? e
theorem pickI_len {α : Type} {lo : Option Int} {xs : List α} (n : Nat) (h : xs.length ≤ n) : (pickI lo xs).length ≤ n := by
  have q := slicePick_size_le (xs.map fun _ => Value.none).toArray lo none (some 2)
  have p : Paired (fun (_ : Value) (_ : α) => True) (xs.map fun _ => Value.none) xs := by
    clear h q
    induction xs with
    | nil => exact .nil
    | cons x xs ih => exact .cons trivial ih
  have := (slice_paired p lo).length
  rw [Array.length_toList] at this
  rw [← this]
  refine Nat.le_trans q ?_
  simpa using h
theorem pickI_map {α β : Type} {lo : Option Int} {f : α → β} {xs : List α} : pickI lo (xs.map f) = (pickI lo xs).map f := by
  unfold pickI
  rw [List.length_map, List.map_filterMap]
  congr 1
  funext i
  simp
end
theorem fl34 : True := by w_top off; first | walk1 | trivial
section
open PySem PySem.W PyProof.Rows PySem.Calls PySem.Spec PySem.SeqAt
set_option maxHeartbeats 4000000
variable {w : World} {mean : ExcName → Option Value} {mg mb : Str → Option Value} {dp un : Nat} {gd : Option (List Code)} {outer : List Env}
theorem paired_pick {P : Value → List (List Int) → Prop} {vs : List Value} {rows : List (List (List Int))} (hp : Paired P vs rows) : ∀ is : List Nat, (∀ i ∈ is, i < rows.length) → Paired P (is.map fun i => vs.getD i .none) (is.map fun i => rows.getD i [])
  | [], _ => .nil
  | i :: is, h => by
    have hi := h i (.head _)
    have e : rows[i]? = some rows[i] := List.getElem?_eq_getElem hi
    obtain ⟨v, ev, hv⟩ := Paired.get' hp e
    rw [List.map_cons, List.map_cons]
    refine .cons ?_ (paired_pick hp is fun j hj => h j (.tail _ hj))
    rw [List.getD_eq_getElem?_getD, List.getD_eq_getElem?_getD, e, ev]
    exact hv
theorem sort_by {s : Shared} {E Q : Value → Shared → Prop} {l c cell nd f : Addr} {oc of : Obj} {ffd : FuncData} {P : Value → List (List Int) → Prop} {vs : List Value} {rows : List (List (List Int))}
    (Y : Rdy w mean mg mb dp un gd outer s.heap) (k : KIs w.params s.heap c cell nd) (hl : s.heap.IsList l vs.toArray) (hp : Paired P vs rows) (h40 : rows.length ≤ 40)
    (hd : dp + 1 ≤ 350) (hu : un + 5 ≤ 80) (hv : ∀ v r, P v r → handedOut v = pure v) (hof : s.heap.get? f = some of) (hofd : of.data = .func ffd) (hce : s.heap.get? cell = some oc) (hcd : oc.data = .cell (some (.ref f)))
    (hc : ∀ v u x y, x ∈ rows → y ∈ rows → P v x → P u y → Cmp w mean mg mb gd (dp + 1) (un + 5) s.heap f v u (ordG x y))
    (hq : ∀ D h' t' ws out, out.Perm rows → Srt out → s.heap.StaysIn h' → h'.IsList D (List.toArray ws) → Paired P ws out → (∀ b o, s.heap.get? b = some o → b < D) → Q (.ref D) { s with heap := h', toks := t' }) :
    wpAny (model PySem.Challenge.rw_ny0140_01.row.prog w) (Am dp un gd outer) (call (.builtin "sorted") [.ref l] [(Str.ofString "key", .ref c)]) Q E s := by
  have hn := hp.length
  refine sorted_key (ns := fun i j => ordG (rows.getD i []) (rows.getD j [])) Y k hl (by omega) (Nat.le_refl _) (Nat.le_refl _) hd hu (fun v hm => ?_) hof hofd hce hcd (fun i j v u hi hj => ?_) (ord_asym rows) (ord_trans rows) (fun D h' t' p hPm hUp st hD hno => ?_)
  · obtain ⟨i, hi⟩ := List.getElem?_of_mem hm
    obtain ⟨x, _, hx⟩ := Paired.get hp hi
    exact hv _ _ hx
  · obtain ⟨x, ex, hx⟩ := Paired.get hp hi
    obtain ⟨y, ey, hy⟩ := Paired.get hp hj
    have e1 : rows.getD i [] = x := by rw [List.getD_eq_getElem?_getD, ex]; rfl
    have e2 : rows.getD j [] = y := by rw [List.getD_eq_getElem?_getD, ey]; rfl
    show Cmp w mean mg mb gd _ _ _ f v u (ordG (rows.getD i []) (rows.getD j []))
    rw [e1, e2]
    exact hc v u x y (List.mem_of_getElem? ex) (List.mem_of_getElem? ey) hx hy
  · rw [hn] at hPm hUp
    refine hq D h' t' _ (pick rows p) (pick_perm hPm) (pick_srt hPm hUp) st hD ?_ hno
    refine paired_pick hp _ fun i hi => ?_
    have := (Array.perm_iff_toList_perm.mp hPm.perm).mem_iff.mp hi
    simpa using this
theorem sort_rows {s : Shared} {E Q : Value → Shared → Prop} {l c cell nd : Addr} {oc : Obj} {vs : List Value} {rows : List (List (List Int))}
    (Y : Rdy w mean mg mb dp un gd outer s.heap) (k : KIs w.params s.heap c cell nd) (hl : s.heap.IsList l vs.toArray) (hp : Paired (RowAt s.heap) vs rows) (h40 : rows.length ≤ 40)
    (hd : dp + 1 ≤ 350) (hu : un + 5 ≤ 80) (hce : s.heap.get? cell = some oc) (hcd : oc.data = .cell (some (.ref 65)))
    (hq : ∀ D h' t' out, out.Perm rows → Srt out → s.heap.StaysIn h' → ShelfAt h' (.ref D) out → (∀ b o, s.heap.get? b = some o → b < D) → Q (.ref D) { s with heap := h', toks := t' }) :
    wpAny (model PySem.Challenge.rw_ny0140_01.row.prog w) (Am dp un gd outer) (call (.builtin "sorted") [.ref l] [(Str.ofString "key", .ref c)]) Q E s := by
  have rl : recursionLimit = 1000 := rfl
  have cl : 5000 ≤ cLine := by decide
  refine sort_by Y k hl hp h40 hd hu (fun v r h => ?_) (Y.K 65 _ rfl) rfl hce hcd (fun v u x y _ _ hx hy => ?_) (fun D h' t' ws out h1 h2 h3 h4 h5 h6 => hq D h' t' out h1 h2 h3 ⟨D, ws, rfl, h4, Paired.imp h5 fun _ _ _ _ q => q.keeps h3⟩ h6)
  · obtain ⟨a, _, rfl, _⟩ := h; rfl
  · intro dp' un' outer' s' E' Q' st Y' h1 h2 hr
    exact three_call (hx.keeps st) (hy.keeps st) Y' (by omega) (by omega) fun v' h' t' st' ⟨tk, e⟩ => by rw [e]; exact hr tk h' t' st'
theorem sort_names {s : Shared} {E Q : Value → Shared → Prop} {l c cell nd : Addr} {oc : Obj} {vs : List Value} {rows : List (List (List Int))}
    (Y : Rdy w mean mg mb dp un gd outer s.heap) (k : KIs w.params s.heap c cell nd) (hl : s.heap.IsList l vs.toArray) (hp : Paired NmV vs rows) (h40 : rows.length ≤ 40)
    (hd : dp + 1 ≤ 350) (hu : un + 5 ≤ 80) (hce : s.heap.get? cell = some oc) (hcd : oc.data = .cell (some (.ref 21)))
    (hq : ∀ D h' t' ws out, out.Perm rows → Srt out → s.heap.StaysIn h' → h'.IsList D (List.toArray ws) → Paired NmV ws out → (∀ b o, s.heap.get? b = some o → b < D) → Q (.ref D) { s with heap := h', toks := t' }) :
    wpAny (model PySem.Challenge.rw_ny0140_01.row.prog w) (Am dp un gd outer) (call (.builtin "sorted") [.ref l] [(Str.ofString "key", .ref c)]) Q E s := by
  have rl : recursionLimit = 1000 := rfl
  refine sort_by Y k hl hp h40 hd hu (fun v r h => ?_) (Y.K 21 _ rfl) rfl hce hcd (fun v u x y _ _ hx hy => ?_) hq
  · obtain ⟨_, t, rfl⟩ := h; rfl
  · intro dp' un' outer' s' E' Q' st Y' h1 h2 hr
    obtain ⟨gx, t, rfl⟩ := hx
    obtain ⟨gy, u, rfl⟩ := hy
    exact coll_call Y' (by omega) fun v' h' t' st' ⟨tk, e⟩ => by rw [e, cmp_names gx gy]; exact hr tk h' t' st'
end
theorem fl35 : True := by w_top off; first | walk1 | trivial
section
open PySem PySem.W PyProof.Rows PySem.Calls PySem.Spec PySem.SeqAt
set_option maxHeartbeats 4000000
variable {w : World} {mean : ExcName → Option Value} {mg mb : Str → Option Value} {dp un : Nat} {gd : Option (List Code)} {outer : List Env}
local macro_rules | `(tactic| walk_at $k:str) => if ["eval ListComp", "call ref", "exec For", "pyIter ref"].contains k.getString then `(tactic| walk_at "HALT") else Lean.Macro.throwUnsupported
noncomputable abbrev lawScope : Scope := { kind := ScopeKind.function, names := [(Str.ofString "script", NameKind.local), (Str.ofString "shelf", NameKind.local), (Str.ofString "names", NameKind.cell), (Str.ofString "k", NameKind.local), (Str.ofString "due", NameKind.local), (Str.ofString "evens", NameKind.local), (Str.ofString "odds", NameKind.local), (Str.ofString "told", NameKind.local), (Str.ofString "lacked", NameKind.local), (Str.ofString "_law_shelf", NameKind.globalImplicit), (Str.ofString "range", NameKind.globalImplicit), (Str.ofString "len", NameKind.globalImplicit), (Str.ofString "_law_order", NameKind.globalImplicit), (Str.ofString "three_way_cmp", NameKind.globalImplicit), (Str.ofString "_strcoll", NameKind.globalImplicit), (Str.ofString "sorted", NameKind.globalImplicit), (Str.ofString "cmp_to_key", NameKind.globalImplicit), (Str.ofString "_law_in_order", NameKind.globalImplicit), (Str.ofString "_law_lacked", NameKind.globalImplicit), (Str.ofString "sorted_list_difference", NameKind.globalImplicit), (Str.ofString "tuple", NameKind.globalImplicit)], isGenerator := false, isCoroutine := false, more := [(Str.ofString "fast", Const.str (Str.ofString "script")), (Str.ofString "fast", Const.str (Str.ofString "shelf")), (Str.ofString "fast", Const.str (Str.ofString "row")), (Str.ofString "fast", Const.str (Str.ofString "names")), (Str.ofString "fast", Const.str (Str.ofString "k")), (Str.ofString "fast", Const.str (Str.ofString "due")), (Str.ofString "fast", Const.str (Str.ofString "evens")), (Str.ofString "fast", Const.str (Str.ofString "odds")), (Str.ofString "fast", Const.str (Str.ofString "j")), (Str.ofString "fast", Const.str (Str.ofString "told")), (Str.ofString "fast", Const.str (Str.ofString "rows")), (Str.ofString "fast", Const.str (Str.ofString "lacked"))] }
noncomputable def lawBody : List Stmt := match PySem.Challenge.rw_ny0140_01.row.prog.main.body.find? (fun s => match s with | .FunctionDef n .. => n == Str.ofString "law" | _ => false) with | some (.FunctionDef _ _ b ..) => b | _ => []
noncomputable abbrev lenv (L fa : Addr) (cd : Value) : Env := envOfC (Str.ofString "law") lawScope L fa cd
structure W2 (g k : Heap) (L : Addr) (x : List Int) (aS D : Addr) : Prop where
  base : Base g k L
  t91 : T91 k
  shelf : ShelfAt k (.ref aS) (shelfOf x)
  cell : k.IsCell (L + 1) (some (.ref D))
  names : StrsAt k (.ref D) ((shelfOf x).map nameOf)
end
section
open PySem PySem.W PyProof.Rows PySem.Calls PySem.Spec PySem.SeqAt
set_option maxHeartbeats 4000000
theorem T30.noList {h : Heap} (t : T30 h) : ∀ p ∈ [30], ∀ o, h.get? p = some o → NoList o := by
  intro p hp o e
  obtain rfl := List.mem_singleton.mp hp
  obtain ⟨ps, e'⟩ := t.obj
  rw [e'] at e; cases e
  exact .inr fun items n q => by cases q
structure Pile (k : Heap) (rows : List (List (List Int))) (a : Addr) (out : List (List (List Int))) : Prop where
  at' : ShelfAt k (.ref a) out
  perm : out.Perm rows
  srt : Srt out
theorem Pile.but {k k' : Heap} {ps : List Addr} {rows out : List (List (List Int))} {a : Addr} (x : Kx ps k k') (hp : ∀ p ∈ ps, ∀ o, k.get? p = some o → NoList o) (p : Pile k rows a out) : Pile k' rows a out := ⟨p.at'.but x hp, p.perm, p.srt⟩
theorem Pile.len {k : Heap} {rows out : List (List (List Int))} {a : Addr} (p : Pile k rows a out) : out.length = rows.length := p.perm.length_eq
theorem Pile.good {k : Heap} {rows out : List (List (List Int))} {a : Addr} (p : Pile k rows a out) (h : ∀ r ∈ rows, GoodRow r) : ∀ r ∈ out, GoodRow r := fun r hr => h r (p.perm.mem_iff.mp hr)
theorem StrsAt.but {k k' : Heap} {ps : List Addr} (x : Kx ps k k') (hp : ∀ p ∈ ps, ∀ o, k.get? p = some o → NoList o) {v : Value} {r : List Str} (l : StrsAt k v r) : StrsAt k' v r := ListAt.but x hp (fun _ _ q => q) l
theorem W2.on {g k h h' : Heap} {L aS D : Addr} {x : List Int} {m : Str → Option Value} (F : Fr g L h m) (st : k.StaysIn h) (W : W2 g k L x aS D) (t30 : T30 k) (hx : ∀ b o, b ≠ 30 → h.get? b = some o → h'.get? b = some o) (n30 : g.get? 30 = none) (l34 : 34 < L) (l91 : 91 < L) :
    Fr g L h' m ∧ W2 g (h'.hide L) L x aS D ∧ (h'.hide L).StaysIn h' ∧ Kx [30] k (h'.hide L) ∧ (∀ b o, b ≠ L → h'.get? b = some o → (h'.hide L).get? b = some o) := by
  have x30 : Kx [30] h h' := fun b o hb e => hx b o (fun q => hb (q ▸ .head _)) e
  have L30 : 30 < L := Nat.lt_trans (by decide) l34
  have F' := fr_but x30 (fun q => by rw [List.mem_singleton.mp q] at l34; exact absurd l34 (by decide)) (fun p hp => by rw [List.mem_singleton.mp hp]; exact n30) F
  obtain ⟨b', st', up'⟩ := mile F'
  have kx := next_k W.base st x30
  refine ⟨F', ⟨b', ?_, W.shelf.but kx t30.noList, ?_, W.names.but kx t30.noList⟩, st', kx, up'⟩
  · exact ((T91.stable.keeps st W.t91).but30 (t30.keeps st) hx).mile F' l91
  · obtain ⟨o, e, d⟩ := W.cell
    exact ⟨o, kx _ _ (fun q => by
      have h1 : L < L + 1 := Nat.lt_succ_self L
      rw [List.mem_singleton.mp q] at h1
      exact absurd h1 (Nat.lt_asymm L30)) e, d⟩
theorem T30s.mile {g h : Heap} {L c P : Addr} {m : Str → Option Value} (F : Fr g L h m) (t : T30s c P h) : T30s c P (h.hide L) := by
  obtain ⟨o, es, ep, e, d⟩ := fr_dict F
  exact t.but hide_but e fun vs q => by rw [d] at q; cases q
end
section
open PySem PySem.W PyProof.Rows PySem.Calls PySem.Spec PySem.SeqAt
set_option maxHeartbeats 4000000
variable {prog : Program} {w : World} {A : Around} {s : Shared} {E : Value → Shared → Prop} {env : Env}
theorem stable_and {L : Addr} {m : Str → Option Value} {ex : List Addr} {Inv : Heap → Prop} (SI : Stable ex Inv) : Stable (L :: ex) (fun h => h.Ns L m ∧ Inv h) where
  alive := fun h hn b hb => by
    rcases List.mem_cons.mp hb with rfl | hb
    · obtain ⟨o, _, _, e, _⟩ := hn.1
      exact ⟨o, e⟩
    · exact SI.alive h hn.2 b hb
  on := fun h h' bad hb hk hn => ⟨nsAt hn.1 fun o e => by
    have nb : ¬ bad L := fun q => (hb _ _ q e).2 (.head _)
    exact hk _ _ nb e, SI.on h h' bad (fun b o q e => ⟨(hb b o q e).1, fun z => (hb b o q e).2 (.tail _ z)⟩) hk hn.2⟩
inductive CompGoesL (prog : Program) (w : World) (A : Around) (env : Env) (scope : Scope) (cl : List (Str × Addr)) (x y : Str) (ifs : List Expr) (elt : Expr) (ex : List Addr) (m : Str → Option Value) (Inv : Heap → Prop) (p : Value → Bool) (Fl : List (Addr × Obj) → Value → Value → Prop)
    (Q : Flow → Shared → Prop) (xv : Value) (s₁ : Shared) : Prop
  | mk (n : Nat) (P : Nat → Value → Prop) : SrcAt prog w A (env.locals :: ex) s₁ xv n P → n ≤ sizeLine → s₁.heap.Ns env.locals m → Inv s₁.heap → TestsAt prog w A env scope cl x ifs (env.locals :: ex) (fun h => h.Ns env.locals m ∧ Inv h) P p s₁ →
    EltAt prog w A env scope cl x elt (env.locals :: ex) (fun h => h.Ns env.locals m ∧ Inv h) P p Fl s₁ →
      (∀ D h' tk, CompDone (env.locals :: ex) Inv n P p Fl s₁ D h' → h'.Ns env.locals (fun z => if z = y then some (.ref D) else m z) → Q .next { s₁ with heap := h', toks := tk }) → CompGoesL prog w A env scope cl x y ifs elt ex m Inv p Fl Q xv s₁
theorem comp_assignL {elt iter : Expr} {x y : Str} {px py : Pos} {ifs : List Expr} {scope : Scope} {cl : List (Str × Addr)} {pos spos : Pos} {Q : Flow → Shared → Prop} (ex : List Addr) (m : Str → Option Value) (Inv : Heap → Prop) (SI : Stable ex Inv) (hLex : env.locals ∉ ex)
    (p : Value → Bool) (Fl : List (Addr × Obj) → Value → Value → Prop) (hFl : ∀ l l' v y, (∀ q ∈ l, q ∈ l') → Fl l v y → Fl l' v y)
    (hsw : swapsWith (.ListComp elt [⟨.Name x px, iter, ifs, 0⟩] scope pos) (some (.Name y py)) spos.line env = pure true)
    (hclos : closureFor scope env = pure cl) (hcell : ∀ y ∈ scope.names, y.2 ≠ .cell) (hkind : scope.kind = .function)
    (hnames : ∀ y ∈ scope.names, y.2 = .local → scope.names.lookup y.1 = some .local) (hx : scope.names.lookup x = some .local)
    (hy : env.kindOf y = some .local) (hp : (env.scope.kind == .class || (env.scope.kind == .module && env.locals != env.globals)) = false)
    (h : wpAny (model prog w) A (eval iter env) (CompGoesL prog w A env scope cl x y ifs elt ex m Inv p Fl Q) E s)
    (hs : ∀ x, foldedSetIterable iter env x = pure x := by intro _; rfl) :
    wpAny (model prog w) A (exec (.Assign [.Name y py] (.ListComp elt [⟨.Name x px, iter, ifs, 0⟩] scope pos) spos) env) Q E s := by
  rw [exec_Assign_Name_used _ _ _ _ hsw]
  refine wpAny_bind (wpAny_standAt (wpAny_bind ?_))
  show wpAny _ A (do let _ ← comprehension (.ListComp elt [⟨.Name x px, iter, ifs, 0⟩] scope pos) scope env _ (newList []) false (eval iter env) (some (assign (.Name y py) env))) _ _ s
  refine wpAny_bind (wpAny_mono (wpAny_comprehension_free (use := some (assign (.Name y py) env)) (Q := fun _ s' => Q .next s') rfl hs hclos hkind hnames
    (wpAny_mono h (fun xv s₁ h₁ => ?_) fun _ _ e => e)) (fun _ s' hq => wpAny_pure (wpAny_pure hq)) fun _ _ e => e)
  obtain ⟨n, P, src, hsz, hn, hI, ht, he, hQ⟩ := h₁
  have SL := stable_and (L := env.locals) (m := m) SI
  refine src _ _ fun I fp wr St h₂ G hst hfp hex k hwr => ?_
  refine comp_block (RR := fun acc C => compPost (model prog w) A E (some (assign (.Name y py) env)) (fun _ s' => Q .next s') acc C) (s₁ := s₁) (env.locals :: ex) _ SL G hsz p Fl hFl hcell hkind hx hst hfp hex k hwr (SL.keeps k ⟨hn, hI⟩) ht he ?_
  intro D C h' tk m' hC hCx hDC hnC hd
  obtain ⟨ys, l, vs, h1, h2, h3, h4, h5, h6, h7, h8⟩ := hd
  have hLC : env.locals ≠ C := by rintro rfl; obtain ⟨o, _, _, ho, _⟩ := hn; rw [hC] at ho; cases ho
  have hLD : env.locals ≠ D := by rintro rfl; obtain ⟨o, _, _, ho, _⟩ := hn; rw [h1] at ho; cases ho
  have hn' := h7.1
  show wpAny _ A (assign (.Name y py) env (.ref D)) _ _ _
  refine wpAny_assign_Name (wpAny_storeName_local hy hn' (fun h₂ hn₂ hs₂ => ?_) hp)
  have hnC₂ := hnC.sameBut hs₂ (Ne.symm hLC)
  refine ⟨m', hnC₂, fun h₃ hs₃ => ?_⟩
  have hI₂ : Inv h₂ := SI.on h' h₂ (fun b => b = env.locals) (fun b o hb e => by subst hb; exact ⟨notRec_ns hn' e, hLex⟩) (fun b o hb e => hs₂.extBut b o hb e) h7.2
  have hI₃ : Inv h₃ := SI.on h₂ h₃ (fun b => b = C) (fun b o hb e => by subst hb; exact ⟨notRec_ns hnC₂ e, fun z => hCx (.tail _ z)⟩) (fun b o hb e => hs₃.extBut b o hb e) hI₂
  refine hQ D h₃ _ ⟨ys, l, vs, h1, (h2.extBut hs₂.extBut (Ne.symm hLD)).extBut hs₃.extBut hDC, h3, h4, h5, fun q hq => ?_, hI₃, fun b o hbx e => ?_⟩ (hn₂.sameBut hs₃ hLC)
  · obtain ⟨q1, q2, q3, q4, q5⟩ := h6 q hq
    have qL : q.1 ≠ env.locals := fun e => q4 (e ▸ .head _)
    exact ⟨hs₃.extBut _ _ q5 (hs₂.extBut _ _ qL q1), q2, q3, q4⟩
  · exact hs₃.extBut b o (by rintro rfl; rw [hC] at e; cases e) (hs₂.extBut b o (fun q => hbx (q ▸ List.mem_cons_self)) (h8 b o hbx e))
theorem t30s_stable {c P : Addr} {q34 : Str} : Stable [91, 30, c, P] (fun h => T30s c P h ∧ Crt h 34 q34 ∧ T91 h) where
  alive := fun h t b hb => by
    obtain ⟨⟨cs, k1, k2, _⟩, _, t91⟩ := t
    rcases List.mem_cons.mp hb with rfl | hb
    · obtain ⟨_, e⟩ := t91.tab; exact ⟨_, e⟩
    rcases List.mem_cons.mp hb with rfl | hb
    · exact ⟨_, k1.tab.2⟩
    · rcases List.mem_cons.mp hb with rfl | hb
      · obtain ⟨o, _, e, _⟩ := k2.tab.1
        exact ⟨o, e⟩
      · obtain rfl := List.mem_singleton.mp hb
        exact ⟨_, k2.tab.2⟩
  on := fun h h' bad hb hk t => by
    obtain ⟨⟨cs, k1, k2, k3, k4⟩, r34, t91⟩ := t
    have crt : ∀ {a : Addr} {q : Str}, Crt h a q → ¬ bad a := fun {a q} r z => by
      obtain ⟨o, vs, u, e, _, d, v⟩ := r
      exact (hb _ _ z e).1 vs q u d v
    have keep : ∀ {a : Addr} {q : Str}, Crt h a q → Crt h' a q := fun {a q} r => by
      have nb := crt r
      obtain ⟨o, vs, u, e, rr⟩ := r
      exact ⟨o, vs, u, hk _ _ nb e, rr⟩
    have n30 : ¬ bad 30 := fun z => (hb _ _ z k1.tab.2).2 (.tail _ (.head _))
    have nc : ¬ bad c := fun z => by
      obtain ⟨o, _, e, _⟩ := k2.tab.1
      exact (hb _ _ z e).2 (.tail _ (.tail _ (.head _)))
    have nP : ¬ bad P := fun z => (hb _ _ z k2.tab.2).2 (.tail _ (.tail _ (.tail _ (.head _))))
    have kco : ∀ {a b : Addr} {ps : List Value}, Kco h a b ps → ¬ bad a → ¬ bad b → Kco h' a b ps := fun {a b ps} k na nb => by
      obtain ⟨⟨o, vs, file, tf, flags, tg, inF, text, tt, op, e1, r1, r2, r3, r4, r5, r6, e2, r⟩, ⟨⟨o', vs', e3, rr⟩, e4⟩⟩ := k
      exact ⟨⟨o, vs, file, tf, flags, tg, inF, text, tt, op, hk _ _ na e1, r1, r2, r3, r4, r5, r6, hk _ _ nb e2, r⟩, ⟨⟨o', vs', hk _ _ na e3, rr⟩, hk _ _ nb e4⟩⟩
    exact ⟨⟨cs, kco k1 (crt r34) n30, kco k2 nc nP, k3, fun j c hj => keep (k4 j c hj)⟩, keep r34,
      T91.stable.on h h' bad (fun b o q e => ⟨(hb b o q e).1, fun z => (hb b o q e).2 (List.mem_singleton.mp z ▸ .head _)⟩) hk t91⟩
theorem ex_fields {c P : Addr} {k : Heap} (t : T30s c P k) (t91 : T91 k) : ∀ p ∈ [91, 30, c, P], ∀ o, k.get? p = some o → ∃ vs, o.data = .fields vs := by
  obtain ⟨cs, k1, k2, _⟩ := t
  intro p hp o e
  simp only [List.mem_cons, List.not_mem_nil, or_false] at hp
  rcases hp with rfl | rfl | rfl | rfl
  · obtain ⟨_, e'⟩ := t91.tab
    rw [e'] at e; cases e; exact ⟨_, rfl⟩
  · rw [k1.tab.2] at e; cases e; exact ⟨_, rfl⟩
  · obtain ⟨o', vs, e', _, d, _⟩ := k2.tab.1
    rw [e'] at e; cases e; exact ⟨_, d⟩
  · rw [k2.tab.2] at e; cases e; exact ⟨_, rfl⟩
theorem ex_noList {ps : List Addr} {k : Heap} (h : ∀ p ∈ ps, ∀ o, k.get? p = some o → ∃ vs, o.data = .fields vs) : ∀ p ∈ ps, ∀ o, k.get? p = some o → NoList o := fun p hp o e => by
  obtain ⟨vs, d⟩ := h p hp o e
  exact .inr fun items n q => by rw [d] at q; cases q
theorem fr_nsx {g h h' : Heap} {L : Addr} {ex : List Addr} {m m' : Str → Option Value} (F : Fr g L h m) (hk : Kx (L :: ex) h h') (hg : ∀ p ∈ ex, g.get? p = none) (hn : h'.Ns L m') : Fr g L h' m' :=
  ⟨hn, fun b o e => hk b o (fun q => by
    rcases List.mem_cons.mp q with q | q
    · rw [q] at e; exact absurd F.above (Nat.not_le.mpr (Heap.lt_size e))
    · rw [hg b q] at e; cases e) (F.keep _ _ e), F.above⟩
theorem next_kx {g k h h' : Heap} {L : Addr} {ex : List Addr} (B : Base g k L) (st : k.StaysIn h) (x : Kx (L :: ex) h h') : Kx ex k (h'.hide L) := fun b o hb e => by
  have hbL : b ≠ L := fun q => by rw [q, B.no] at e; cases e
  exact hide_but _ _ hbL (x b o (fun q => (List.mem_cons.mp q).elim hbL hb) (st _ _ e))
theorem paired_names {vs : List Value} : ∀ {xs : List (List (List Int))}, Paired StrV vs (xs.map nameOf) → (∀ r ∈ xs, GoodRow r) → Paired NmV vs xs
  | [], p, _ => by cases p; exact .nil
  | x :: xs, p, g => by
    cases p with
    | cons h t => exact .cons ⟨g x (.head _), h⟩ (paired_names t fun r hr => g r (.tail _ hr))
theorem pick_zero {xs : List (List (List Int))} : pickI (some 0) xs = pickI none xs := by
  unfold pickI
  have e : sliceBounds (some 0) none (some 2) xs.length = sliceBounds none none (some 2) xs.length := by
    unfold sliceBounds
    simp
    omega
  rw [e]
noncomputable def Told (k : Heap) (a : Addr) (ev od : List (List (List Int))) : Prop := ∃ Da Db, k.IsList a #[.ref Da, .ref Db] ∧ ListAt NmV k (.ref Da) ev ∧ ListAt NmV k (.ref Db) od
theorem Told.but {k k' : Heap} {ps : List Addr} {ev od : List (List (List Int))} {a : Addr} (x : Kx ps k k') (hp : ∀ p ∈ ps, ∀ o, k.get? p = some o → NoList o) (t : Told k a ev od) : Told k' a ev od := by
  obtain ⟨Da, Db, h1, h2, h3⟩ := t
  exact ⟨Da, Db, isList_but x hp h1, h2.but x hp fun _ _ q => q, h3.but x hp fun _ _ q => q⟩
theorem names_paired {ws : List Value} {xs : List (List (List Int))} (p : Paired NmV ws xs) : Paired StrV ws (xs.map nameOf) := by
  induction p with
  | nil => exact .nil
  | cons h _ ih => exact .cons h.2 ih
theorem names_at {k : Heap} {v : Value} {xs : List (List (List Int))} (l : ListAt NmV k v xs) : StrsAt k v (xs.map nameOf) := let ⟨a, vs, e, l, p⟩ := l; ⟨a, vs, e, l, names_paired p⟩
theorem Told.lists {k : Heap} {ev od : List (List (List Int))} {a : Addr} (t : Told k a ev od) : ListAt (StrsAt k) k (.ref a) [ev.map nameOf, od.map nameOf] := by
  obtain ⟨Da, Db, h1, h2, h3⟩ := t
  exact ⟨a, [.ref Da, .ref Db], rfl, h1, .cons (names_at h2) (.cons (names_at h3) .nil)⟩
theorem shelf_inj {k : Heap} {v : Value} {x y : List (List (List Int))} (hx : ShelfAt k v x) (hy : ShelfAt k v y) : x = y := ListAt.inj (P := RowAt k) (fun _ _ _ => RowAt.inj) hx hy
noncomputable def Lack (k : Heap) (a : Addr) (xs ys : List (List (List Int))) : Prop := ∃ v1 v2, k.IsTuple a #[v1, v2] ∧ ShelfAt k v1 xs ∧ ShelfAt k v2 ys
theorem two_of {α : Type} {l : List α} (h : l.length = 2) : ∃ a b, l = [a, b] := by
  match l, h with
  | [a, b], _ => exact ⟨a, b, rfl⟩
theorem two_at {a b v : Value} {i : Nat} (h : (#[a, b] : Array Value)[i]? = some v) : v = a ∨ v = b := by
  match i, h with
  | 0, h => exact .inl (Option.some.inj h).symm
  | 1, h => exact .inr (Option.some.inj h).symm
theorem two_paired {α β : Type} {F : α → β → Prop} {a b : α} {l : List β} (p : Paired F [a, b] l) : ∃ x y, l = [x, y] ∧ F a x ∧ F b y := by
  cases p with
  | cons h t =>
    cases t with
    | cons h' t' =>
      cases t'
      exact ⟨_, _, rfl, h, h'⟩
end
section
open PySem PySem.W PyProof.Rows PySem.Calls PySem.Spec PySem.SeqAt
set_option maxHeartbeats 4000000
section
variable {prog : Program} {w : World} {A : Around} {E : Value → Shared → Prop} {s : Shared}
theorem ne_pair {α : Type} [DecidableEq α] {P : Value → α → Prop} {t u : Addr} {a b c d : Value} {x y : α} {Q : Value → Shared → Prop} (hE : EqOk A.in1 s P) (ht : s.heap.IsTuple t #[a, b]) (hu : s.heap.IsTuple u #[c, d])
    (ha : P a x) (hb : P b y) (hc : P c x) (hd : P d y) (hun : A.units < cLine) (h : Q (.bool false) s) : wpAny (model prog w) A (compareOp .NotEq (.ref t) (.ref u)) Q E s := by
  refine RcNeAt.tuples (e := fun _ => true) ht hu hun (fun j h1 h2 => ?_) prog w E Q h
  have e0 := hE a x c x ha hc
  have e1 := hE b y d y hb hd
  rw [decide_eq_true rfl] at e0 e1
  match j, h1, h2 with
  | 0, _, _ => exact e0
  | 1, _, _ => exact e1
theorem eq_pair {α : Type} [DecidableEq α] {P : Value → α → Prop} {t u : Addr} {a b c d : Value} {x y : α} {Q : Value → Shared → Prop} (hE : EqOk A.in1 s P) (ht : s.heap.IsTuple t #[a, b]) (hu : s.heap.IsTuple u #[c, d])
    (ha : P a x) (hb : P b y) (hc : P c x) (hd : P d y) (hun : A.units < cLine) (h : Q (.bool true) s) : wpAny (model prog w) A (compareOp .Eq (.ref t) (.ref u)) Q E s := by
  refine RcAt.tuples (e := fun _ => true) ht hu hun (fun j h1 h2 => ?_) prog w E Q h
  have e0 := hE a x c x ha hc
  have e1 := hE b y d y hb hd
  rw [decide_eq_true rfl] at e0 e1
  match j, h1, h2 with
  | 0, _, _ => exact e0
  | 1, _, _ => exact e1
end
theorem fr_sl {g h h' : Heap} {L : Addr} {m : Str → Option Value} {oL : Obj} {sl : Array (Option Value)} (F : Fr g L h m) (st : (h.hide L).StaysIn h') (e : h.get? L = some oL) (e' : h'.get? L = some { oL with slots := sl }) : Fr g L h' m := by
  obtain ⟨o, es, ep, e0, d, r⟩ := F.ns
  rw [e] at e0; cases e0
  exact ⟨⟨_, es, ep, e', d, r⟩, fun b ob eb => st _ _ ((mile F).1.up _ _ eb), F.above⟩
theorem top_hide {w : World} {mean : ExcName → Option Value} {mg mb : Str → Option Value} {g h : Heap} {L : Addr} {m : Str → Option Value} (F : Fr g L h m) (X' : (_root_.Mine.hd.heap_1_1 w.params).In g) (T' : Top topProg LL mean mg mb g) :
    (_root_.Mine.hd.heap_1_1 w.params).In (h.hide L) ∧ Top topProg LL mean mg mb (h.hide L) := ⟨X'.keeps (mile F).1.up, T'.keeps (mile F).1.up⟩
theorem stays_hide {g k h : Heap} {L : Addr} (B : Base g k L) (st : k.StaysIn h) : k.StaysIn (h.hide L) := fun b o e => hide_but _ _ (fun q => by rw [q, B.no] at e; cases e) (st _ _ e)
theorem lackTo_sub {mine yours : List (List (List Int))} : ∀ (i : Nat) (x : List (List Int)), x ∈ lackTo mine yours i → x ∈ mine := by
  intro i
  induction i with
  | zero => exact fun x h => nomatch h
  | succ i ih =>
    intro x h
    have h' : x ∈ lackTo mine yours i ++ (match mine[i]? with | some x => if keepsRow mine yours i x then [x] else [] | none => []) := h
    rcases List.mem_append.mp h' with h' | h'
    · exact ih x h'
    · cases e : mine[i]? with
      | none => rw [e] at h'; cases h'
      | some y =>
        rw [e] at h'
        dsimp only at h'
        cases c : keepsRow mine yours i y with
        | false => rw [c] at h'; cases h'
        | true =>
          rw [c] at h'
          rw [show x = y from List.mem_singleton.mp h']
          exact List.mem_of_getElem? e
end
theorem fl36 : True := by w_top off; first | walk1 | trivial
section
open PySem PySem.W PyProof.Rows PySem.Calls PySem.Spec PySem.SeqAt
set_option maxHeartbeats 4000000
variable {w : World} {mean : ExcName → Option Value} {mg mb : Str → Option Value} {dp un : Nat} {gd : Option (List Code)} {outer : List Env}
local macro_rules | `(tactic| walk_at $k:str) => if ["eval ListComp", "call ref", "exec For", "pyIter ref", "exec Assign cons ListComp", "compareOp Eq ref ref", "eval Compare", "call type:tuple", "isTrue Compare", "execs cons", "subscriptTail", "call builtin:sorted"].contains k.getString then `(tactic| walk_at "HALT") else Lean.Macro.throwUnsupported
theorem law11 {h : Heap} {t : Nat} {G : Array GenState} {dr : Drawn} {os : OsState} {g base k : Heap} {L fa : Addr} {cd : Value} {x : List Int} {m : Str → Option Value} {Q : Flow → Shared → Prop} {E : Value → Shared → Prop} {aE aO aT aL : Addr} {ev od : List (List (List Int))}
    (B' : Below (Am dp un (some []) []) base [] g) (X' : (_root_.Mine.hd.heap_1_1 w.params).In g) (T' : Top topProg LL mean mg mb g)
    (F : Fr g L h fun y => if y = Str.ofString "lacked" then some (.ref aL) else if y = Str.ofString "told" then some (.ref aT) else if y = Str.ofString "odds" then some (.ref aO) else if y = Str.ofString "evens" then some (.ref aE) else m y) (st : k.StaysIn h) (bs : Base g k L) (t91 : T91 k)
    (pE : Pile k (pickI none (shelfOf x)) aE ev) (pO : Pile k (pickI (some 1) (shelfOf x)) aO od) (td : Told k aT ev od) (g30 : GrownAt 30 k) (lk : Lack k aL (lackTo ev od ev.length) (lackTo od ev od.length)) (n91 : g.get? 91 = none) (l91 : 91 < L)
    (hdp : dp ≤ 305) (hun : un ≤ 10)
    (hq : ∀ h' tk', g.StaysIn h' → GrownAt 91 h' → GrownAt 30 h' → Q (.ret (.bool true)) ⟨h', G, dr, tk', os⟩) :
    wpAny (model PySem.Challenge.rw_ny0140_01.row.prog w) ((Am dp un (some []) []).deeper (lenv L fa cd)) (execs (lawBody.drop 11) (lenv L fa cd)) Q E ⟨h, G, dr, t, os⟩ := by
  (have fill : (fun w : World => _root_.Mine.hd.heap_1_1 w.params) = (fun w : World => _root_.Mine.hd.heap_1_1 w.params) ∧ PySem.Challenge.rw_ny0140_01.row.prog = PySem.Challenge.rw_ny0140_01.row.prog := (by k_fill; exact ⟨rfl, rfl⟩); clear fill)
  have rl : recursionLimit = 1000 := rfl
  have cl : 5000 ≤ cLine := by decide
  rw [show lawBody.drop 11 = _ from rfl]
  have N := bs.news st
  have lX := shelf_len (x := x)
  have gE : ∀ r ∈ ev, GoodRow r := pE.good fun r hr => shelf_good r (pickI_sub r hr)
  have gO : ∀ r ∈ od, GoodRow r := pO.good fun r hr => shelf_good r (pickI_sub r hr)
  have lE : ev.length ≤ 23 := by rw [pE.len]; exact pickI_len 23 lX
  have lO : od.length ≤ 23 := by rw [pO.len]; exact pickI_len 23 lX
  obtain ⟨Da, Db, hT, hA, hB⟩ := id td
  k_steps
  refine Halt.mk (wpAny_Compare1 ?_)
  k_steps
  refine Halt.mk (item_list (isList_keeps st hT) rfl (by show 2 ≤ 1000000; decide) ?_)
  k_steps
  refine Halt.mk (item_list (isList_keeps st hT) rfl (by show 2 ≤ 1000000; decide) ?_)
  k_steps
  obtain ⟨oL, esL, epL, eL, dL⟩ := fr_dict F
  have stH := stays_hide bs st
  refine Halt.mk (sld_call (P := NmV) (x := ev) (y := od) (cenv := lenv L fa cd) eL ⟨esL, epL, dL⟩ rfl rfl
    (fun A s' q hu => NmV.rc) (fun A s' q hu => NmV.lt) (fun A s' q hu => NmV.gt)
    (ListAt.mono stH (fun _ _ q => q) hA) (ListAt.mono stH (fun _ _ q => q) hB) (by lia) (by lia) (Rdy.inner B' X' T' F rfl) (top_hide F X' T').1 (top_hide F X' T').2 (by show dp + 1 + 5 < recursionLimit; lia) (by show un + 3 + 50 < cLine; lia) ?_)
  intro t' mm uu h₂ tk₂ sl st₂ eL₂ ht hm hu
  have F₂ := fr_sl F st₂ eL eL₂
  have st₂' : k.StaysIn h₂ := fun b o e => st₂ _ _ (stH _ _ e)
  rw [sld_lack pE.srt pO.srt] at hm hu
  obtain ⟨v1, v2, hlt0, hv1, hv2⟩ := id lk
  have hlt : h₂.IsTuple aL #[v1, v2] := let ⟨o, e, r⟩ := hlt0; ⟨o, st₂' _ _ e, r⟩
  have t91₂ := T91.stable.keeps st₂' t91
  have gL1 : ∀ r ∈ lackTo ev od ev.length, GoodRow r := fun r hr => gE r (lackTo_sub _ _ hr)
  have gL2 : ∀ r ∈ lackTo od ev od.length, GoodRow r := fun r hr => gO r (lackTo_sub _ _ hr)
  have lL1 : (lackTo ev od ev.length).length ≤ 23 := Nat.le_trans (lackTo_len _ _ _) lE
  have lL2 : (lackTo od ev od.length).length ≤ 23 := Nat.le_trans (lackTo_len _ _ _) lO
  clear F N
  k_steps
  refine Halt.mk (comp_eval [91] T91 T91.stable (fun _ => true)
    (fun l v y => ∃ (rows : List (List (List Int))) (Dl : Addr) (o : Obj) (ws : List Value), ShelfAt k v rows ∧ y = .ref Dl ∧ (Dl, o) ∈ l ∧ (∀ h : Heap, h.get? Dl = some o → h.IsList Dl (List.toArray ws)) ∧ Paired StrV ws (rows.map nameOf))
    (fun l l' v y sub ⟨rows, Dl, o, ws, h1, h2, h3, h4⟩ => ⟨rows, Dl, o, ws, h1, h2, sub _ h3, h4⟩) rfl (by decide) rfl (by decide) rfl ?_)
  k_steps
  refine ⟨_, _, src_tuple rfl hlt ?_, ?_, t91₂, tests_nil, ?_, ?_⟩
  · intro b hb
    obtain rfl := List.mem_singleton.mp hb
    obtain ⟨ps, e⟩ := t91₂.tab
    refine ⟨Heap.lt_size e, fun q => ?_⟩
    obtain ⟨o, e', c, n, d⟩ := hlt
    rw [← q, e] at e'
    cases e'; cases d
  · show 2 ≤ sizeLine
    rw [sizeLine_eq]; decide
  · intro C i v s₃ m₃ E' hv _ hn hm' hC hk t91₃
    have F₄ := fr_but hk (by simpa using Nat.ne_of_gt l91) (by simpa using n91) F₂
    have kx : Kx [91] k s₃.heap := fun b o hb e => hk b o hb (st₂' _ _ e)
    obtain ⟨rows, hrows, gr, lr⟩ : ∃ rows, ShelfAt k v rows ∧ (∀ r ∈ rows, GoodRow r) ∧ rows.length ≤ 23 := by
      rcases two_at hv with rfl | rfl
      · exact ⟨_, hv1, gL1, lL1⟩
      · exact ⟨_, hv2, gL2, lL2⟩
    obtain ⟨a, ws, rfl, hl, hp⟩ := hrows.but kx t91.noList
    k_steps
    refine Halt.mk (comp_eval [91] T91 T91.stable (fun _ => true) (fun _ v y => ∃ r, RowAt s₃.heap v r ∧ StrV y (nameOf r)) (fun _ _ _ _ _ h => h) rfl (by decide) rfl (by decide) rfl ?_)
    k_steps
    refine ⟨_, _, src_list rfl hl (t91₃.off hl), ?_, t91₃, tests_nil, ?_, ?_⟩
    · rw [List.size_toArray, sizeLine_eq]; have := hp.length; lia
    · intro C' i' v' s₅ m₅ E₅ hv' _ hn' hm'' hC' hk' t91₅
      have F₅ := fr_but hk' (by simpa using Nat.ne_of_gt l91) (by simpa using n91) F₄
      obtain ⟨r, hr, hrow⟩ := Paired.get hp (by simpa using hv')
      have hrow₅ := hrow.but hk' t91₃.noList
      clear F₄ F₂
      k_steps
      refine Halt.mk (named_call hrow₅ (gr r (List.mem_of_getElem? hr)) (Rdy.inner B' X' T' F₅ rfl) t91₅ (by show dp + 1 + 10 < recursionLimit; lia) (by show un + 3 + 80 < cLine; lia) ?_)
      intro y h₆ tk₆ kx₆ t91₆ hy
      exact ⟨[], h₆, tk₆, rfl, ⟨r, hrow, hy⟩, fun _ h => (nomatch h), kx₆, t91₆⟩
    · intro D₅ h₅ tk₅ hdn
      obtain ⟨ys, l, us, hD, hpl, hlen, hP, hF, _, t91₅, hk₅⟩ := hdn
      have hys : Paired StrV ys.toList (rows.map nameOf) := by
        rw [filter_all] at hF
        refine paired_from (by rw [hlen, List.size_toArray, hp.length]; simp) hP hF ?_
        rintro j v y z hj ⟨r, hr1, hy⟩ hz
        obtain ⟨r', hrn, hr2⟩ := Paired.get hp (by simpa using hj)
        cases RowAt.inj hr1 hr2
        simp only [List.getElem?_map, hrn, Option.map_some, Option.some.injEq] at hz
        rw [← hz]; exact hy
      obtain ⟨o, e, c, n, d⟩ := hpl.isList
      exact ⟨[(D₅, o)], h₅, tk₅, rfl, ⟨rows, D₅, o, ys.toList, hrows, rfl, .head _, fun h e => ⟨o, e, c, n, by simpa using d⟩, hys⟩, fun q hq => by
        obtain rfl := List.mem_singleton.mp hq
        exact ⟨e, hD⟩, hk₅, t91₅⟩
  · intro D₅ h₅ tk₅ hdn
    obtain ⟨ys, l, vs, hDn, hpl, hlen, hP, hF, hl, t91₅, hk₅⟩ := hdn
    have F₅ := fr_but hk₅ (by simpa using Nat.ne_of_gt l91) (by simpa using n91) F₂
    obtain ⟨d1, d2, eys, hd1, hd2⟩ : ∃ d1 d2, ys.toList = [d1, d2] ∧ StrsAt h₅ d1 ((lackTo ev od ev.length).map nameOf) ∧ StrsAt h₅ d2 ((lackTo od ev od.length).map nameOf) := by
      rw [filter_all] at hF
      have lst : ∀ {v y : Value} {out : List (List (List Int))}, ShelfAt k v out →
          (∃ (rows : List (List (List Int))) (Dl : Addr) (o : Obj) (ws : List Value), ShelfAt k v rows ∧ y = .ref Dl ∧ (Dl, o) ∈ l ∧ (∀ h : Heap, h.get? Dl = some o → h.IsList Dl (List.toArray ws)) ∧ Paired StrV ws (rows.map nameOf)) →
          StrsAt h₅ y (out.map nameOf) := by
        rintro v y out hv ⟨rows, Dl, o, ws, hv', rfl, hm, hL, hpr⟩
        have e := shelf_inj hv' hv
        subst e
        exact ⟨Dl, ws, rfl, hL _ (hl _ hm).1, hpr⟩
      have h2 : vs.length = 2 := hlen
      obtain ⟨v0, v1', rfl⟩ := two_of h2
      have e0' : v0 = v1 := (Option.some.inj (hP 0 v0 rfl)).symm
      have e1' : v1' = v2 := (Option.some.inj (hP 1 v1' rfl)).symm
      obtain ⟨y0, y1, hy, hA, hB⟩ := two_paired hF
      exact ⟨y0, y1, hy, lst (e0' ▸ hv1) hA, lst (e1' ▸ hv2) hB⟩
    have hm₅ := names_at (hm.but hk₅ t91₂.noList fun _ _ q => q)
    have hu₅ := names_at (hu.but hk₅ t91₂.noList fun _ _ q => q)
    have ht₅ : h₅.IsTuple t' #[.ref mm, .ref uu] := by
      obtain ⟨o, e, c, n, d⟩ := ht
      refine ⟨o, hk₅ _ _ (fun q => ?_) e, c, n, d⟩
      obtain ⟨ps, e'⟩ := t91₂.tab
      rw [List.mem_singleton.mp q, e'] at e
      cases e; cases d
    have hD₅ : h₅.IsList D₅ (List.toArray [d1, d2]) := by
      have e := hpl.isList
      rwa [← Array.toArray_toList (xs := ys), eys] at e
    have N₅ : News g L h₅ [] := fun p hp => nomatch hp
    clear F₂
    k_steps
    refine Halt.mk (tuple_ofL F₅ N₅ hD₅ (fun D₆ h₆ F₆ N₆ st₆ => ?_) (by rw [sizeLine_eq]; show 2 ≤ 16777216; decide))
    k_steps
    refine Halt.mk (eq_pair (P := StrsAt h₆) (eq_strs (by show un + 3 + 1 + 1 < cLine; lia)) (let ⟨o, e, r⟩ := ht₅; ⟨o, st₆ _ _ e, r⟩) ⟨_, (N₆ _ (.head _)).1, rfl, _, rfl⟩ (hm₅.keeps st₆) (hu₅.keeps st₆) (hd1.keeps st₆) (hd2.keeps st₆) (by show un + 3 < cLine; lia) ?_)
    k_steps
    refine hq _ _ F₆.keep ?_ ?_
    · obtain ⟨ps, e⟩ := t91₅.tab
      exact ⟨ps, st₆ _ _ e⟩
    · obtain ⟨ps, e⟩ := g30
      exact ⟨ps, st₆ _ _ (hk₅ _ _ (by decide) (st₂' _ _ e))⟩
end
theorem fl37 : True := by w_top off; first | walk1 | trivial
section
open PySem PySem.W PyProof.Rows PySem.Calls PySem.Spec PySem.SeqAt
set_option maxHeartbeats 4000000
variable {w : World} {mean : ExcName → Option Value} {mg mb : Str → Option Value} {dp un : Nat} {gd : Option (List Code)} {outer : List Env}
local macro_rules | `(tactic| walk_at $k:str) => if ["eval ListComp", "call ref", "exec For", "pyIter ref", "exec Assign cons ListComp", "compareOp NotEq ref ref", "isTrue Compare", "execs cons", "subscriptTail", "call builtin:sorted"].contains k.getString then `(tactic| walk_at "HALT") else Lean.Macro.throwUnsupported
theorem law10 {h : Heap} {t : Nat} {G : Array GenState} {dr : Drawn} {os : OsState} {g base k : Heap} {L fa : Addr} {cd : Value} {x : List Int} {m : Str → Option Value} {Q : Flow → Shared → Prop} {E : Value → Shared → Prop} {aE aO aT aL : Addr} {ev od : List (List (List Int))}
    (B' : Below (Am dp un (some []) []) base [] g) (X' : (_root_.Mine.hd.heap_1_1 w.params).In g) (T' : Top topProg LL mean mg mb g)
    (F : Fr g L h fun y => if y = Str.ofString "lacked" then some (.ref aL) else if y = Str.ofString "told" then some (.ref aT) else if y = Str.ofString "odds" then some (.ref aO) else if y = Str.ofString "evens" then some (.ref aE) else m y) (st : k.StaysIn h) (bs : Base g k L) (t91 : T91 k)
    (pE : Pile k (pickI none (shelfOf x)) aE ev) (pO : Pile k (pickI (some 1) (shelfOf x)) aO od) (td : Told k aT ev od) (g30 : GrownAt 30 k) (lk : Lack k aL (lackTo ev od ev.length) (lackTo od ev od.length)) (n91 : g.get? 91 = none) (l91 : 91 < L)
    (hdp : dp ≤ 305) (hun : un ≤ 10)
    (hq : ∀ h' tk', g.StaysIn h' → GrownAt 91 h' → GrownAt 30 h' → Q (.ret (.bool true)) ⟨h', G, dr, tk', os⟩) :
    wpAny (model PySem.Challenge.rw_ny0140_01.row.prog w) ((Am dp un (some []) []).deeper (lenv L fa cd)) (execs (lawBody.drop 10) (lenv L fa cd)) Q E ⟨h, G, dr, t, os⟩ := by
  (have fill : (fun w : World => _root_.Mine.hd.heap_1_1 w.params) = (fun w : World => _root_.Mine.hd.heap_1_1 w.params) ∧ PySem.Challenge.rw_ny0140_01.row.prog = PySem.Challenge.rw_ny0140_01.row.prog := (by k_fill; exact ⟨rfl, rfl⟩); clear fill)
  have rl : recursionLimit = 1000 := rfl
  have cl : 5000 ≤ cLine := by decide
  rw [show lawBody.drop 10 = _ from rfl]
  have N := bs.news st
  have lX := shelf_len (x := x)
  have lE : ev.length ≤ 23 := by rw [pE.len]; exact pickI_len 23 lX
  have lO : od.length ≤ 23 := by rw [pO.len]; exact pickI_len 23 lX
  obtain ⟨oL, esL, epL, eL, dL⟩ := fr_dict F
  have stH := stays_hide bs st
  k_steps
  refine Halt.mk (wpAny_isTrue_Compare1 ?_)
  k_steps
  refine Halt.mk (sld_call (P := RowAt k) (x := ev) (y := od) (cenv := lenv L fa cd) eL ⟨esL, epL, dL⟩ rfl rfl
    (fun A s' q hu => row_rc (fun b o e => q _ _ (stH _ _ e)) hu) (fun A s' q hu => row_lt' (fun b o e => q _ _ (stH _ _ e)) hu) (fun A s' q hu => row_gt' (fun b o e => q _ _ (stH _ _ e)) hu)
    (ListAt.mono stH (fun _ _ q => q) pE.at') (ListAt.mono stH (fun _ _ q => q) pO.at') (by omega) (by omega) (Rdy.inner B' X' T' F rfl) (top_hide F X' T').1 (top_hide F X' T').2 (by show dp + 1 + 5 < recursionLimit; omega) (by show un + 3 + 50 < cLine; omega) ?_)
  intro t' mm uu h₂ tk₂ sl st₂ eL₂ ht hm hu
  have F₂ := fr_sl F st₂ eL eL₂
  have st₂' : k.StaysIn h₂ := fun b o e => st₂ _ _ (stH _ _ e)
  have N₂ := bs.news st₂'
  clear F N
  obtain ⟨v1, v2, hlt, hv1, hv2⟩ := id lk
  rw [sld_lack pE.srt pO.srt] at hm hu
  k_steps
  have hlt₂ : h₂.IsTuple aL #[v1, v2] := let ⟨o, e, r⟩ := hlt; ⟨o, st₂' _ _ e, r⟩
  refine Halt.mk (ne_pair (P := ShelfAt h₂) (eq_shelf (by show un + 3 + 1 + 3 < cLine; omega)) ht hlt₂ (ListAt.mono (fun _ _ e => e) (fun _ _ q => q.keeps st₂') hm) (ListAt.mono (fun _ _ e => e) (fun _ _ q => q.keeps st₂') hu) (hv1.keeps st₂') (hv2.keeps st₂') (by show un + 3 < cLine; omega) ?_)
  k_steps
  refine Halt.mk (body_is (b' := lawBody.drop 11) (by kernel_rfl!) ?_)
  exact law11 B' X' T' F₂ st₂' bs t91 pE pO td g30 lk n91 l91 hdp hun hq
end
theorem fl38 : True := by w_top off; first | walk1 | trivial
section
open PySem PySem.W PyProof.Rows PySem.Calls PySem.Spec PySem.SeqAt
set_option maxHeartbeats 4000000
variable {w : World} {mean : ExcName → Option Value} {mg mb : Str → Option Value} {dp un : Nat} {gd : Option (List Code)} {outer : List Env}
local macro_rules | `(tactic| walk_at $k:str) => if ["eval ListComp", "call ref", "exec For", "pyIter ref", "exec Assign cons ListComp", "isTrue Compare", "execs cons", "subscriptTail", "call builtin:sorted"].contains k.getString then `(tactic| walk_at "HALT") else Lean.Macro.throwUnsupported
theorem law9 {h : Heap} {t : Nat} {G : Array GenState} {dr : Drawn} {os : OsState} {g base k : Heap} {L fa : Addr} {cd : Value} {x : List Int} {m : Str → Option Value} {Q : Flow → Shared → Prop} {E : Value → Shared → Prop} {aE aO aT : Addr} {ev od : List (List (List Int))}
    (B' : Below (Am dp un (some []) []) base [] g) (X' : (_root_.Mine.hd.heap_1_1 w.params).In g) (T' : Top topProg LL mean mg mb g)
    (F : Fr g L h fun y => if y = Str.ofString "told" then some (.ref aT) else if y = Str.ofString "odds" then some (.ref aO) else if y = Str.ofString "evens" then some (.ref aE) else m y) (st : k.StaysIn h) (bs : Base g k L) (t91 : T91 k)
    (pE : Pile k (pickI none (shelfOf x)) aE ev) (pO : Pile k (pickI (some 1) (shelfOf x)) aO od) (td : Told k aT ev od) (g30 : GrownAt 30 k) (n91 : g.get? 91 = none) (l91 : 91 < L)
    (hdp : dp ≤ 305) (hun : un ≤ 10)
    (hq : ∀ h' tk', g.StaysIn h' → GrownAt 91 h' → GrownAt 30 h' → Q (.ret (.bool true)) ⟨h', G, dr, tk', os⟩) :
    wpAny (model PySem.Challenge.rw_ny0140_01.row.prog w) ((Am dp un (some []) []).deeper (lenv L fa cd)) (execs (lawBody.drop 9) (lenv L fa cd)) Q E ⟨h, G, dr, t, os⟩ := by
  (have fill : (fun w : World => _root_.Mine.hd.heap_1_1 w.params) = (fun w : World => _root_.Mine.hd.heap_1_1 w.params) ∧ PySem.Challenge.rw_ny0140_01.row.prog = PySem.Challenge.rw_ny0140_01.row.prog := (by k_fill; exact ⟨rfl, rfl⟩); clear fill)
  have rl : recursionLimit = 1000 := rfl
  have cl : 5000 ≤ cLine := by decide
  rw [show lawBody.drop 9 = _ from rfl]
  have N := bs.news st
  have lX := shelf_len (x := x)
  have gE : ∀ r ∈ ev, GoodRow r := pE.good fun r hr => shelf_good r (pickI_sub r hr)
  have gO : ∀ r ∈ od, GoodRow r := pO.good fun r hr => shelf_good r (pickI_sub r hr)
  have lE : ev.length ≤ 23 := by rw [pE.len]; exact pickI_len 23 lX
  have lO : od.length ≤ 23 := by rw [pO.len]; exact pickI_len 23 lX
  k_steps
  refine Halt.mk (lacked_call (x := ev) (y := od) (pE.at'.keeps st) (pO.at'.keeps st) (by omega) (by omega) gE gO (Rdy.inner B' X' T' F rfl) (by show dp + 1 + 5 < recursionLimit; omega) (by show un + 3 + 50 < cLine; omega) ?_)
  intro v1 h₂ tk₂ st₂ hv1
  have F₂ := fr_on st₂ F
  have st₂' : k.StaysIn h₂ := fun b o e => st₂ _ _ (st _ _ e)
  have N₂ := bs.news st₂'
  clear F N
  k_steps
  refine Halt.mk (lacked_call (x := od) (y := ev) (pO.at'.keeps st₂') (pE.at'.keeps st₂') (by omega) (by omega) gO gE (Rdy.inner B' X' T' F₂ rfl) (by show dp + 1 + 5 < recursionLimit; omega) (by show un + 3 + 50 < cLine; omega) ?_)
  intro v2 h₃ tk₃ st₃ hv2
  have F₃ := fr_on st₃ F₂
  have st₃' : k.StaysIn h₃ := fun b o e => st₃ _ _ (st₂' _ _ e)
  obtain ⟨b₄, st₄, up₄⟩ := mile F₃
  have kx₄ : Kx [] k (h₃.hide L) := next_k bs st₃' (Kx.of_stays fun _ _ e => e)
  have nn : ∀ p ∈ ([] : List Addr), ∀ o, k.get? p = some o → NoList o := fun p hp => nomatch hp
  have pE₄ := pE.but kx₄ nn
  have pO₄ := pO.but kx₄ nn
  have td₄ := td.but kx₄ nn
  have g30₄ : GrownAt 30 (h₃.hide L) := let ⟨ps, e⟩ := g30; ⟨ps, kx₄.nil _ _ e⟩
  have t91₄ := (T91.stable.keeps st₃' t91).mile F₃ l91
  have hv1₄ := (hv1.keeps st₃).mile F₃
  have hv2₄ := hv2.mile F₃
  have N₄ := b₄.news st₄
  clear F₂ N₂ hv1 hv2 up₄ kx₄
  generalize h₃.hide L = k₄ at *
  k_steps
  (with_reducible rename Fr _ _ _ _ => F₅)
  (with_reducible rename News _ _ _ _ => N₅)
  have st₅ := b₄.back F₅ N₅ (fun _ h => .tail _ h)
  have tup := N₅ _ (.head _)
  obtain ⟨b₆, st₆, up₆⟩ := mile F₅
  have kx₆ : Kx [] k₄ _ := next_k b₄ st₅ (Kx.of_stays fun _ _ e => e)
  have nn₄ : ∀ p ∈ ([] : List Addr), ∀ o, k₄.get? p = some o → NoList o := fun p hp => nomatch hp
  have lk : Lack _ _ (lackTo ev od ev.length) (lackTo od ev od.length) := ⟨v1, v2, ⟨_, up₆ _ _ tup.2.1 tup.1, rfl, _, rfl⟩, hv1₄.keeps kx₆.nil, hv2₄.keeps kx₆.nil⟩
  refine Halt.mk (body_is (b' := lawBody.drop 10) (by kernel_rfl!) ?_)
  exact law10 B' X' T' F₅ st₆ b₆ ((T91.stable.keeps st₅ t91₄).mile F₅ l91) (pE₄.but kx₆ nn₄) (pO₄.but kx₆ nn₄) (td₄.but kx₆ nn₄) (let ⟨ps, e⟩ := g30₄; ⟨ps, kx₆.nil _ _ e⟩) lk n91 l91 hdp hun hq
end
theorem fl39 : True := by w_top off; first | walk1 | trivial
section
open PySem PySem.W PyProof.Rows PySem.Calls PySem.Spec PySem.SeqAt
set_option maxHeartbeats 4000000
variable {w : World} {mean : ExcName → Option Value} {mg mb : Str → Option Value} {dp un : Nat} {gd : Option (List Code)} {outer : List Env}
local macro_rules | `(tactic| walk_at $k:str) => if ["eval ListComp", "call ref", "exec For", "pyIter ref", "exec Assign cons ListComp", "isTrue Compare", "execs cons", "subscriptTail", "call builtin:sorted"].contains k.getString then `(tactic| walk_at "HALT") else Lean.Macro.throwUnsupported
theorem law8 {h : Heap} {t : Nat} {G : Array GenState} {dr : Drawn} {os : OsState} {g base k : Heap} {L fa : Addr} {cd : Value} {x : List Int} {m : Str → Option Value} {Q : Flow → Shared → Prop} {E : Value → Shared → Prop} {aE aO aT : Addr} {ev od : List (List (List Int))}
    (B' : Below (Am dp un (some []) []) base [] g) (X' : (_root_.Mine.hd.heap_1_1 w.params).In g) (T' : Top topProg LL mean mg mb g)
    (F : Fr g L h fun y => if y = Str.ofString "told" then some (.ref aT) else if y = Str.ofString "odds" then some (.ref aO) else if y = Str.ofString "evens" then some (.ref aE) else m y) (st : k.StaysIn h) (bs : Base g k L) (t91 : T91 k)
    (pE : Pile k (pickI none (shelfOf x)) aE ev) (pO : Pile k (pickI (some 1) (shelfOf x)) aO od) (td : Told k aT ev od) (g30 : GrownAt 30 k) (n91 : g.get? 91 = none) (l91 : 91 < L)
    (hdp : dp ≤ 305) (hun : un ≤ 10)
    (hq : ∀ h' tk', g.StaysIn h' → GrownAt 91 h' → GrownAt 30 h' → Q (.ret (.bool true)) ⟨h', G, dr, tk', os⟩) :
    wpAny (model PySem.Challenge.rw_ny0140_01.row.prog w) ((Am dp un (some []) []).deeper (lenv L fa cd)) (execs (lawBody.drop 8) (lenv L fa cd)) Q E ⟨h, G, dr, t, os⟩ := by
  (have fill : (fun w : World => _root_.Mine.hd.heap_1_1 w.params) = (fun w : World => _root_.Mine.hd.heap_1_1 w.params) ∧ PySem.Challenge.rw_ny0140_01.row.prog = PySem.Challenge.rw_ny0140_01.row.prog := (by k_fill; exact ⟨rfl, rfl⟩); clear fill)
  have rl : recursionLimit = 1000 := rfl
  have cl : 5000 ≤ cLine := by decide
  rw [show lawBody.drop 8 = _ from rfl]
  have N := bs.news st
  have lX := shelf_len (x := x)
  have gE : ∀ r ∈ ev, GoodRow r := pE.good fun r hr => shelf_good r (pickI_sub r hr)
  have gO : ∀ r ∈ od, GoodRow r := pO.good fun r hr => shelf_good r (pickI_sub r hr)
  have lE : ev.length ≤ 23 := by rw [pE.len]; exact pickI_len 23 lX
  have lO : od.length ≤ 23 := by rw [pO.len]; exact pickI_len 23 lX
  k_steps
  refine Halt.mk (wpAny_isTrue_Compare1 ?_)
  k_steps
  refine Halt.mk (comp_eval [91] T91 T91.stable (fun _ => true)
    (fun l v y => ∃ (rows : List (List (List Int))) (Dl : Addr) (o : Obj) (ws : List Value), ShelfAt k v rows ∧ y = .ref Dl ∧ (Dl, o) ∈ l ∧ (∀ h : Heap, h.get? Dl = some o → h.IsList Dl (List.toArray ws)) ∧ Paired StrV ws (rows.map nameOf))
    (fun l l' v y sub ⟨rows, Dl, o, ws, h1, h2, h3, h4⟩ => ⟨rows, Dl, o, ws, h1, h2, sub _ h3, h4⟩) rfl (by decide) rfl (by decide) rfl ?_)
  k_steps
  (with_reducible rename Fr _ _ _ _ => F₁)
  (with_reducible rename News _ _ _ _ => N₁)
  have st₁ := bs.back F₁ N₁ (fun _ h => .tail _ h)
  have tup := (N₁ _ (.head _)).1
  have t91₁ := T91.stable.keeps st₁ t91
  refine ⟨_, _, src_tuple rfl ⟨_, tup, rfl, _, rfl⟩ ?_, ?_, t91₁, tests_nil, ?_, ?_⟩
  · intro b hb
    obtain rfl := List.mem_singleton.mp hb
    obtain ⟨ps, e⟩ := t91₁.tab
    refine ⟨Heap.lt_size e, fun q => ?_⟩
    rw [← q, e] at tup
    cases tup
  · show 2 ≤ sizeLine
    rw [sizeLine_eq]; decide
  · intro C i v s₃ m₃ E' hv _ hn hm hC hk t91₃
    have F₄ := fr_but hk (by simpa using Nat.ne_of_gt l91) (by simpa using n91) F₁
    have kx : Kx [91] k s₃.heap := fun b o hb e => hk b o hb (st₁ _ _ e)
    obtain ⟨rows, hrows, gr, lr⟩ : ∃ rows, ShelfAt k v rows ∧ (∀ r ∈ rows, GoodRow r) ∧ rows.length ≤ 23 := by
      rcases two_at hv with rfl | rfl
      · exact ⟨ev, pE.at', gE, lE⟩
      · exact ⟨od, pO.at', gO, lO⟩
    obtain ⟨a, ws, rfl, hl, hp⟩ := hrows.but kx t91.noList
    clear N₁ tup
    k_steps
    refine Halt.mk (comp_eval [91] T91 T91.stable (fun _ => true) (fun _ v y => ∃ r, RowAt s₃.heap v r ∧ StrV y (nameOf r)) (fun _ _ _ _ _ h => h) rfl (by decide) rfl (by decide) rfl ?_)
    k_steps
    refine ⟨_, _, src_list rfl hl (t91₃.off hl), ?_, t91₃, tests_nil, ?_, ?_⟩
    · rw [List.size_toArray, sizeLine_eq]; have := hp.length; omega
    · intro C' i' v' s₅ m₅ E₅ hv' _ hn' hm' hC' hk' t91₅
      have F₅ := fr_but hk' (by simpa using Nat.ne_of_gt l91) (by simpa using n91) F₄
      obtain ⟨r, hr, hrow⟩ := Paired.get hp (by simpa using hv')
      have hrow₅ := hrow.but hk' t91₃.noList
      clear F₄ F₁
      k_steps
      refine Halt.mk (named_call hrow₅ (gr r (List.mem_of_getElem? hr)) (Rdy.inner B' X' T' F₅ rfl) t91₅ (by show dp + 1 + 10 < recursionLimit; omega) (by show un + 3 + 80 < cLine; omega) ?_)
      intro y h₆ tk₆ kx₆ t91₆ hy
      exact ⟨[], h₆, tk₆, rfl, ⟨r, hrow, hy⟩, fun _ h => (nomatch h), kx₆, t91₆⟩
    · intro D₅ h₅ tk₅ hdn
      obtain ⟨ys, l, us, hD, hpl, hlen, hP, hF, _, t91₅, hk₅⟩ := hdn
      have hys : Paired StrV ys.toList (rows.map nameOf) := by
        rw [filter_all] at hF
        refine paired_from (by rw [hlen, List.size_toArray, hp.length]; simp) hP hF ?_
        rintro j v y z hj ⟨r, hr1, hy⟩ hz
        obtain ⟨r', hrn, hr2⟩ := Paired.get hp (by simpa using hj)
        cases RowAt.inj hr1 hr2
        simp only [List.getElem?_map, hrn, Option.map_some, Option.some.injEq] at hz
        rw [← hz]; exact hy
      obtain ⟨o, e, c, n, d⟩ := hpl.isList
      exact ⟨[(D₅, o)], h₅, tk₅, rfl, ⟨rows, D₅, o, ys.toList, hrows, rfl, .head _, fun h e => ⟨o, e, c, n, by simpa using d⟩, hys⟩, fun q hq => by
        obtain rfl := List.mem_singleton.mp hq
        exact ⟨e, hD⟩, hk₅, t91₅⟩
  · intro D₅ h₅ tk₅ hdn
    obtain ⟨ys, l, vs, hDn, hpl, hlen, hP, hF, hl, t91₅, hk₅⟩ := hdn
    have F₅ := fr_but hk₅ (by simpa using Nat.ne_of_gt l91) (by simpa using n91) F₁
    have kx₅ : Kx [91] k h₅ := fun b o hb e => hk₅ b o hb (st₁ _ _ e)
    have right : ListAt (StrsAt h₅) h₅ (.ref D₅) [ev.map nameOf, od.map nameOf] := by
      rw [filter_all] at hF
      have lst : ∀ {v y : Value} {out : List (List (List Int))}, ShelfAt k v out →
          (∃ (rows : List (List (List Int))) (Dl : Addr) (o : Obj) (ws : List Value), ShelfAt k v rows ∧ y = .ref Dl ∧ (Dl, o) ∈ l ∧ (∀ h : Heap, h.get? Dl = some o → h.IsList Dl (List.toArray ws)) ∧ Paired StrV ws (rows.map nameOf)) →
          StrsAt h₅ y (out.map nameOf) := by
        rintro v y out hv ⟨rows, Dl, o, ws, hv', rfl, hm, hL, hpr⟩
        have e := shelf_inj hv' hv
        subst e
        exact ⟨Dl, ws, rfl, hL _ (hl _ hm).1, hpr⟩
      have h2 : vs.length = 2 := hlen
      obtain ⟨v0, v1, rfl⟩ := two_of h2
      have e0' : v0 = _ := (Option.some.inj (hP 0 v0 rfl)).symm
      have e1' : v1 = _ := (Option.some.inj (hP 1 v1 rfl)).symm
      refine ⟨D₅, ys.toList, rfl, by simpa using hpl.isList, ?_⟩
      obtain ⟨y0, y1, hy, hA, hB⟩ := two_paired hF
      rw [hy]
      exact .cons (lst (e0' ▸ pE.at') hA) (.cons (lst (e1' ▸ pO.at') hB) .nil)
    have left := (td.but kx₅ t91.noList).lists
    clear N₁
    show wpAny _ _ (compareOp _ _ _) _ _ _
    refine ne_lists (P := StrsAt h₅) (eq_strs (by show un + 3 + 1 + 1 < cLine; omega)) left right (by show un + 3 < cLine; omega) ?_
    rw [decide_eq_true rfl]
    obtain ⟨b₆, st₆, up₆⟩ := mile F₅
    have kx₆ := next_k bs st₁ hk₅
    have N₆ := b₆.news st₆
    have pE₆ := pE.but kx₆ t91.noList
    have pO₆ := pO.but kx₆ t91.noList
    have td₆ := td.but kx₆ t91.noList
    have t91₆ := t91₅.mile F₅ l91
    have g30₆ : GrownAt 30 (h₅.hide L) := let ⟨ps, e⟩ := g30; ⟨ps, kx₆ _ _ (by decide) e⟩
    clear left right F₁ tup hpl hl hk₅ kx₅ kx₆ up₆
    generalize h₅.hide L = k₆ at *
    k_steps
    refine Halt.mk (body_is (b' := lawBody.drop 9) (by kernel_rfl!) ?_)
    exact law9 B' X' T' F₅ st₆ b₆ t91₆ pE₆ pO₆ td₆ g30₆ n91 l91 hdp hun hq
end
theorem fl40 : True := by w_top off; first | walk1 | trivial
section
open PySem PySem.W PyProof.Rows PySem.Calls PySem.Spec PySem.SeqAt
set_option maxHeartbeats 4000000
variable {w : World} {mean : ExcName → Option Value} {mg mb : Str → Option Value} {dp un : Nat} {gd : Option (List Code)} {outer : List Env}
local macro_rules | `(tactic| walk_at $k:str) => if ["eval ListComp", "call ref", "exec For", "pyIter ref", "exec Assign cons ListComp", "isTrue Compare", "execs cons", "subscriptTail", "call builtin:sorted"].contains k.getString then `(tactic| walk_at "HALT") else Lean.Macro.throwUnsupported
theorem law7 {h : Heap} {t : Nat} {G : Array GenState} {dr : Drawn} {os : OsState} {g base k : Heap} {L fa aS D : Addr} {cd : Value} {x : List Int} {m : Str → Option Value} {Q : Flow → Shared → Prop} {E : Value → Shared → Prop} {aE aO cK PK : Addr} {ev od : List (List (List Int))}
    (B' : Below (Am dp un (some []) []) base [] g) (X' : (_root_.Mine.hd.heap_1_1 w.params).In g) (T' : Top topProg LL mean mg mb g)
    (F : Fr g L h fun y => if y = Str.ofString "odds" then some (.ref aO) else if y = Str.ofString "evens" then some (.ref aE) else if y = Str.ofString "shelf" then some (.ref aS) else m y) (st : k.StaysIn h) (W : W2 g k L x aS D)
    (t30 : T30s cK PK k) (nP : g.get? cK = none ∧ g.get? PK = none) (pE : Pile k (pickI none (shelfOf x)) aE ev) (pO : Pile k (pickI (some 1) (shelfOf x)) aO od) (n91 : g.get? 91 = none) (n30 : g.get? 30 = none) (l91 : 91 < L) (l34 : 34 < L)
    (hdp : dp ≤ 305) (hun : un ≤ 10)
    (hq : ∀ h' tk', g.StaysIn h' → GrownAt 91 h' → GrownAt 30 h' → Q (.ret (.bool true)) ⟨h', G, dr, tk', os⟩) :
    wpAny (model PySem.Challenge.rw_ny0140_01.row.prog w) ((Am dp un (some []) []).deeper (lenv L fa cd)) (execs (lawBody.drop 7) (lenv L fa cd)) Q E ⟨h, G, dr, t, os⟩ := by
  (have fill : (fun w : World => _root_.Mine.hd.heap_1_1 w.params) = (fun w : World => _root_.Mine.hd.heap_1_1 w.params) ∧ PySem.Challenge.rw_ny0140_01.row.prog = PySem.Challenge.rw_ny0140_01.row.prog := (by k_fill; exact ⟨rfl, rfl⟩); clear fill)
  have rl : recursionLimit = 1000 := rfl
  have cl : 5000 ≤ cLine := by decide
  rw [show lawBody.drop 7 = _ from rfl]
  have N := W.base.news st
  obtain ⟨aN, wN, e', hNl, hNp0⟩ := id W.names
  cases e'
  have lX := shelf_len (x := x)
  have hNp := paired_names hNp0 shelf_good
  have lN : wN.length ≤ 23 := by have := hNp.length; lia
  have hg : ∀ p ∈ [91, 30, cK, PK], g.get? p = none := by
    intro p hp
    simp only [List.mem_cons, List.not_mem_nil, or_false] at hp
    rcases hp with rfl | rfl | rfl | rfl
    · exact n91
    · exact n30
    · exact nP.1
    · exact nP.2
  have exf := ex_fields t30 W.t91
  have exl := ex_noList exf
  obtain ⟨q34, r34g⟩ : ∃ q, Crt g 34 q := ⟨_, _, _, _, X' 34 _ rfl, rfl, rfl, rfl⟩
  have hLex : L ∉ [91, 30, cK, PK] := fun q => by
    obtain ⟨o, es, ep, e, d⟩ := fr_dict F
    have := ex_fields (t30.keeps st) (T91.stable.keeps st W.t91) L q o e
    obtain ⟨vs, d'⟩ := this
    rw [d] at d'; cases d'
  k_steps
  refine Halt.mk (comp_assignL [91, 30, cK, PK] (fun y => if y = Str.ofString "odds" then some (.ref aO) else if y = Str.ofString "evens" then some (.ref aE) else if y = Str.ofString "shelf" then some (.ref aS) else m y)
    (fun h => T30s cK PK h ∧ Crt h 34 q34 ∧ T91 h) t30s_stable hLex (fun _ => true)
    (fun l v y => ∃ (j : Int) (t : Tok) (Dl : Addr) (o : Obj) (ws : List Value) (out : List (List (List Int))), v = .int j t ∧ y = .ref Dl ∧ (Dl, o) ∈ l ∧ (∀ h : Heap, h.get? Dl = some o → h.IsList Dl (List.toArray ws)) ∧ Paired NmV ws out ∧ out.Perm (pickI (some j) (shelfOf x)) ∧ Srt out)
    (fun l l' v y sub ⟨j, t, Dl, o, ws, out, h1, h2, h3, h4⟩ => ⟨j, t, Dl, o, ws, out, h1, h2, sub _ h3, h4⟩) rfl rfl (by decide) rfl (by decide) rfl rfl rfl ?_)
  k_steps
  (with_reducible rename Fr _ _ _ _ => F₁)
  (with_reducible rename News _ _ _ _ => N₁)
  have st₁ := W.base.back F₁ N₁ (fun _ h => .tail _ h)
  have tup := (N₁ _ (.head _)).1
  have inv₁ : T30s cK PK _ ∧ Crt _ 34 q34 ∧ T91 _ := ⟨t30.keeps st₁, r34g.keeps F₁.keep, T91.stable.keeps st₁ W.t91⟩
  refine ⟨_, _, src_tuple rfl ⟨_, tup, rfl, _, rfl⟩ ?_, ?_, F₁.ns, inv₁, tests_nil, ?_, ?_⟩
  · intro b hb
    rcases List.mem_cons.mp hb with rfl | hb
    · obtain ⟨o, es, ep, e, d⟩ := fr_dict F₁
      refine ⟨Heap.lt_size e, fun q => ?_⟩
      rw [← q] at tup
      rw [show _ = some o from e] at tup
      cases tup; cases d
    · obtain ⟨o, e⟩ := (t30s_stable (q34 := q34)).alive _ inv₁ b hb
      obtain ⟨vs, d⟩ := ex_fields inv₁.1 inv₁.2.2 b hb o e
      refine ⟨Heap.lt_size e, fun q => ?_⟩
      rw [← q, e] at tup
      cases tup; cases d
  · show 2 ≤ sizeLine
    rw [sizeLine_eq]; decide
  · intro C i v s₃ m₃ E' hv _ hn hm hC hk ⟨nsL, ts₃, r34, t91₃⟩
    have F₄ := fr_nsx F₁ hk hg nsL
    obtain ⟨j, tj, rfl⟩ : ∃ j tj, v = .int j tj := by
      rcases two_at hv with rfl | rfl <;> exact ⟨_, _, rfl⟩
    have kx := next_kx W.base st₁ hk
    obtain ⟨b₄, st₄, up₄⟩ := mile F₄
    have hl₄ := isList_but kx exl hNl
    obtain ⟨oc, ec, dc⟩ := id W.cell
    have ec₄ := kx _ _ (fun q => by
      obtain ⟨vs, d⟩ := exf _ q _ ec
      rw [d] at dc; cases dc) ec
    have ts₄ := ts₃.mile F₄
    clear N₁
    have N₄ : News g L s₃.heap ((L + 1, oc) :: newsOf g (s₃.heap.hide L)) := fun p hp => by
      rcases List.mem_cons.mp hp with rfl | hp
      · exact b₄.news st₄ _ (mem_newsOf ec₄ (by
          cases q : g.get? (L + 1) with
          | none => rfl
          | some og => exact absurd (Nat.lt_of_lt_of_le (Heap.lt_size q) F₄.above) (Nat.not_lt.mpr (Nat.le_succ L))))
      · exact b₄.news st₄ p hp
    k_steps
    have hlD := isList_keeps st₄ hl₄
    refine Halt.mk (slice_list3 F₄ N₄ hlD (.int j _) .none (.int 2 _) (by decide) (fun h₅ F₅ N₅ => ?_) (by with_unfolding_all rfl) (by intro _; with_unfolding_all rfl) ?_)
    rotate_left
    · rw [List.size_toArray, sizeLine_eq]; lia
    have st₅ := b₄.back F₅ N₅ (fun _ h => .tail _ (.tail _ h))
    have ts₅ := ts₄.keeps st₅
    have t91₅ : T91 h₅ := T91.stable.keeps st₅ (t91₃.mile F₄ l91)
    k_steps
    refine Halt.mk (cmp_call (Rdy.inner B' X' T' F₅ rfl) ts₅.t30 (by show dp + 1 + 1 ≤ 340; lia) (by show un + 3 + 3 ≤ 55; lia) ?_)
    intro c cell nd oc2 h₆ tk₆ kis ece ecd tn kx6
    have kx1 : Kx [30] h₅ h₆ := fun b o hb e => kx6 b o (fun q => hb (q ▸ .head _)) e
    have F₆ := fr_but kx1 (fun q => by rw [List.mem_singleton.mp q] at l34; exact absurd l34 (by decide)) (fun p hp => by rw [List.mem_singleton.mp hp]; exact n30) F₅
    have hl₆ := isList_but kx1 ts₅.t30.noList (News.isList N₅ (.head _))
    k_steps
    refine Halt.mk (sort_names (vs := (slicePick wN.toArray (some j) none (some 2)).toList) (rows := pickI (some j) (shelfOf x)) (Rdy.inner B' X' T' F₆ rfl) kis (by simpa using hl₆) (slice_paired hNp (some j)) (pickI_len 40 (by lia)) (by show dp + 1 + 1 ≤ 350; lia) (by show un + 3 + 5 ≤ 80; lia) ece ecd fun Dl h₇ t₇ ws out hperm hsrt st₇ hDl hPn hlt => ?_)
    obtain ⟨oD, eD, cD, nD, dD⟩ := hDl
    obtain ⟨cK', PK', tsn, same, -⟩ := tn
    obtain ⟨rfl, rfl⟩ := same _ _ ts₅
    k_steps
    refine ⟨[(Dl, oD)], h₇, _, rfl, ⟨j, tj, Dl, oD, ws, out, rfl, rfl, .head _, fun h e => ⟨oD, e, cD, nD, dD⟩, hPn, hperm, hsrt⟩, ?_, ?_, ?_⟩
    · intro q hq
      obtain rfl := List.mem_singleton.mp hq
      obtain ⟨o6, e6, _⟩ := hl₆
      exact ⟨eD, none_of_le (Nat.le_of_lt (Nat.lt_trans (Nat.lt_succ_self _) (hlt _ _ e6)))⟩
    · exact fun b o hb e => st₇ _ _ (kx6 b o (fun q => hb (q ▸ .tail _ (.tail _ (.head _)))) (st₅ _ _ (up₄ b o (fun q => hb (q ▸ .head _)) e)))
    · exact ⟨(fr_on st₇ F₆).ns, tsn.keeps st₇, r34g.keeps fun b o e => st₇ _ _ (F₆.keep _ _ e), T91.stable.keeps st₇ (t91₅.but30 ts₅.t30 kx6)⟩
  · intro D₇ h₇ tk₇ hdn nsL₇
    obtain ⟨ys, l, vs, hDn, hpl, hlen, hP, hF, hl, ⟨ts₇, r34₇, t91₇⟩, hk₇⟩ := hdn
    have F₇ := fr_nsx F₁ hk₇ hg nsL₇
    obtain ⟨b₇, st₇, up₇⟩ := mile F₇
    have kx₇ := next_kx W.base st₁ hk₇
    have pE₇ := pE.but kx₇ exl
    have pO₇ := pO.but kx₇ exl
    have t91₈ := t91₇.mile F₇ l91
    have td : Told (h₇.hide L) D₇ ev od := by
      rw [filter_all] at hF
      have hDL : D₇ ≠ L := by
        rintro rfl
        obtain ⟨o, _, _, e, _⟩ := fr_dict F₁
        rw [show _ = none from hDn] at e; cases e
      have lst : ∀ {v y : Value} {j : Int} {t : Tok} {out : List (List (List Int))}, v = .int j t → out.Perm (pickI (some j) (shelfOf x)) → Srt out →
          (∃ (j : Int) (t : Tok) (Dl : Addr) (o : Obj) (ws : List Value) (out : List (List (List Int))), v = .int j t ∧ y = .ref Dl ∧ (Dl, o) ∈ l ∧ (∀ h : Heap, h.get? Dl = some o → h.IsList Dl (List.toArray ws)) ∧ Paired NmV ws out ∧ out.Perm (pickI (some j) (shelfOf x)) ∧ Srt out) →
          ∃ Dl, y = .ref Dl ∧ ListAt NmV (h₇.hide L) (.ref Dl) out := by
        rintro v y j t out rfl hp hs ⟨j', t', Dl, o, ws, out', hv, rfl, hm, hL, hpr, hp', hs'⟩
        cases hv
        have e := srt_unique hs' hs (hp'.trans hp.symm)
        subst e
        obtain ⟨q1, q2, q3, q4⟩ := hl _ hm
        exact ⟨Dl, rfl, Dl, ws, rfl, hL _ (up₇ _ _ (fun z => q4 (z ▸ .head _)) q1), hpr⟩
      have h2 : vs.length = 2 := hlen
      obtain ⟨v0, v1, rfl⟩ := two_of h2
      have e0' : v0 = _ := (Option.some.inj (hP 0 v0 rfl)).symm
      have e1' : v1 = _ := (Option.some.inj (hP 1 v1 rfl)).symm
      obtain ⟨y0, y1, hy, hA, hB⟩ := two_paired hF
      obtain ⟨Da, rfl, hDa⟩ := lst e0' (by rw [pick_zero]; exact pE.perm) pE.srt hA
      obtain ⟨Db, rfl, hDb⟩ := lst e1' pO.perm pO.srt hB
      obtain ⟨o, e, r⟩ := hpl.isList
      have ey : ys = #[.ref Da, .ref Db] := by rw [← Array.toArray_toList (xs := ys), hy]
      rw [ey] at r
      exact ⟨Da, Db, ⟨o, up₇ _ _ hDL e, r⟩, hDa, hDb⟩
    have g30 : GrownAt 30 (h₇.hide L) := let ⟨ps, e⟩ := (ts₇.mile F₇).t30.obj; ⟨ps, e⟩
    clear F₁ N₁ hk₇ kx₇
    have N₇ := b₇.news st₇
    generalize h₇.hide L = k₇ at *
    k_steps
    refine Halt.mk (body_is (b' := lawBody.drop 8) (by kernel_rfl!) ?_)
    exact law8 B' X' T' F₇ st₇ b₇ t91₈ pE₇ pO₇ td g30 n91 l91 hdp hun hq
end
theorem fl41 : True := by w_top off; first | walk1 | trivial
section
open PySem PySem.W PyProof.Rows PySem.Calls PySem.Spec PySem.SeqAt
set_option maxHeartbeats 4000000
variable {w : World} {mean : ExcName → Option Value} {mg mb : Str → Option Value} {dp un : Nat} {gd : Option (List Code)} {outer : List Env}
local macro_rules | `(tactic| walk_at $k:str) => if ["eval ListComp", "call ref", "exec For", "pyIter ref", "isTrue Compare", "execs cons", "subscriptTail", "call builtin:sorted"].contains k.getString then `(tactic| walk_at "HALT") else Lean.Macro.throwUnsupported
theorem law6 {h : Heap} {t : Nat} {G : Array GenState} {dr : Drawn} {os : OsState} {g base k : Heap} {L fa aS D : Addr} {cd : Value} {x : List Int} {m : Str → Option Value} {Q : Flow → Shared → Prop} {E : Value → Shared → Prop} {aE aO cK PK : Addr} {ev od : List (List (List Int))}
    (B' : Below (Am dp un (some []) []) base [] g) (X' : (_root_.Mine.hd.heap_1_1 w.params).In g) (T' : Top topProg LL mean mg mb g)
    (F : Fr g L h fun y => if y = Str.ofString "odds" then some (.ref aO) else if y = Str.ofString "evens" then some (.ref aE) else if y = Str.ofString "shelf" then some (.ref aS) else m y) (st : k.StaysIn h) (W : W2 g k L x aS D)
    (t30 : T30s cK PK k) (nP : g.get? cK = none ∧ g.get? PK = none) (pE : Pile k (pickI none (shelfOf x)) aE ev) (pO : Pile k (pickI (some 1) (shelfOf x)) aO od) (n91 : g.get? 91 = none) (n30 : g.get? 30 = none) (l91 : 91 < L) (l34 : 34 < L)
    (hdp : dp ≤ 305) (hun : un ≤ 10)
    (hq : ∀ h' tk', g.StaysIn h' → GrownAt 91 h' → GrownAt 30 h' → Q (.ret (.bool true)) ⟨h', G, dr, tk', os⟩) :
    wpAny (model PySem.Challenge.rw_ny0140_01.row.prog w) ((Am dp un (some []) []).deeper (lenv L fa cd)) (execs (lawBody.drop 6) (lenv L fa cd)) Q E ⟨h, G, dr, t, os⟩ := by
  (have fill : (fun w : World => _root_.Mine.hd.heap_1_1 w.params) = (fun w : World => _root_.Mine.hd.heap_1_1 w.params) ∧ PySem.Challenge.rw_ny0140_01.row.prog = PySem.Challenge.rw_ny0140_01.row.prog := (by k_fill; exact ⟨rfl, rfl⟩); clear fill)
  have rl : recursionLimit = 1000 := rfl
  have cl : 5000 ≤ cLine := by decide
  rw [show lawBody.drop 6 = _ from rfl]
  have N := W.base.news st
  obtain ⟨aS', wS, e', hSl, hSp⟩ := id W.shelf
  cases e'
  have lX := shelf_len (x := x)
  have lS : wS.length ≤ 23 := by have := hSp.length; omega
  have gE : ∀ r ∈ ev, GoodRow r := pE.good fun r hr => shelf_good r (pickI_sub r hr)
  have gO : ∀ r ∈ od, GoodRow r := pO.good fun r hr => shelf_good r (pickI_sub r hr)
  have lE : ev.length ≤ 23 := by rw [pE.len]; exact pickI_len 23 lX
  have lO : od.length ≤ 23 := by rw [pO.len]; exact pickI_len 23 lX
  k_steps
  refine Halt.mk (slice_list3 F N (isList_keeps st hSl) .none .none (.int 2 _) (by decide) (fun h₁ F₁ N₁ => ?_) (by with_unfolding_all rfl) (by intro _; with_unfolding_all rfl) ?_)
  rotate_left
  · rw [List.size_toArray, sizeLine_eq]; omega
  k_steps
  have st₁ := W.base.back F₁ N₁ (fun _ h => .tail _ h)
  have hl₁ := News.isList N₁ (.head _)
  refine Halt.mk (in_order_call (x := ev) (y := pickI none (shelfOf x)) (pE.at'.keeps st₁) ⟨_, (slicePick wS.toArray none none (some 2)).toList, rfl, by simpa using hl₁, Paired.imp (slice_paired hSp none) fun v r _ _ q => q.keeps st₁⟩ (by omega) (pickI_len 40 (by omega)) gE pE.perm.symm pE.srt.sorted (Rdy.inner B' X' T' F₁ rfl) (by show dp + 1 + 5 < recursionLimit; omega) (by show un + 3 + 50 < cLine; omega) ?_)
  rintro y h₃ tk₃ st₃ rfl
  have F₃ := fr_on st₃ F₁
  have N₃ := W.base.news (fun b o e => st₃ _ _ (st₁ _ _ e))
  have st₃' : k.StaysIn h₃ := fun b o e => st₃ _ _ (st₁ _ _ e)
  clear F N F₁ N₁
  k_steps
  refine Halt.mk (slice_list3 F₃ N₃ (isList_keeps st₃' hSl) (.int 1 _) .none (.int 2 _) (by decide) (fun h₄ F₄ N₄ => ?_) (by with_unfolding_all rfl) (by intro _; with_unfolding_all rfl) ?_)
  rotate_left
  · rw [List.size_toArray, sizeLine_eq]; omega
  k_steps
  have st₄ := W.base.back F₄ N₄ (fun _ h => .tail _ h)
  have hl₄ := News.isList N₄ (.head _)
  refine Halt.mk (in_order_call (x := od) (y := pickI (some 1) (shelfOf x)) (pO.at'.keeps st₄) ⟨_, (slicePick wS.toArray (some 1) none (some 2)).toList, rfl, by simpa using hl₄, Paired.imp (slice_paired hSp (some 1)) fun v r _ _ q => q.keeps st₄⟩ (by omega) (pickI_len 40 (by omega)) gO pO.perm.symm pO.srt.sorted (Rdy.inner B' X' T' F₄ rfl) (by show dp + 1 + 5 < recursionLimit; omega) (by show un + 3 + 50 < cLine; omega) ?_)
  rintro y h₅ tk₅ st₅ rfl
  have F₅ := fr_on st₅ F₄
  have st₅' : k.StaysIn h₅ := fun b o e => st₅ _ _ (st₄ _ _ e)
  have N₅ := W.base.news st₅'
  clear F₃ N₃ F₄ N₄
  k_steps
  refine Halt.mk (body_is (b' := lawBody.drop 7) (by kernel_rfl!) ?_)
  exact law7 B' X' T' F₅ st₅' W t30 nP pE pO n91 n30 l91 l34 hdp hun hq
end
theorem fl42 : True := by w_top off; first | walk1 | trivial
section
open PySem PySem.W PyProof.Rows PySem.Calls PySem.Spec PySem.SeqAt
set_option maxHeartbeats 4000000
variable {w : World} {mean : ExcName → Option Value} {mg mb : Str → Option Value} {dp un : Nat} {gd : Option (List Code)} {outer : List Env}
local macro_rules | `(tactic| walk_at $k:str) => if ["eval ListComp", "call ref", "exec For", "pyIter ref", "isTrue Compare", "execs cons", "subscriptTail", "call builtin:sorted"].contains k.getString then `(tactic| walk_at "HALT") else Lean.Macro.throwUnsupported
theorem law5 {h : Heap} {t : Nat} {G : Array GenState} {dr : Drawn} {os : OsState} {g base k : Heap} {L fa aS D : Addr} {cd : Value} {x : List Int} {m : Str → Option Value} {Q : Flow → Shared → Prop} {E : Value → Shared → Prop} {aE cK PK : Addr} {ev : List (List (List Int))}
    (B' : Below (Am dp un (some []) []) base [] g) (X' : (_root_.Mine.hd.heap_1_1 w.params).In g) (T' : Top topProg LL mean mg mb g)
    (F : Fr g L h fun y => if y = Str.ofString "evens" then some (.ref aE) else if y = Str.ofString "shelf" then some (.ref aS) else m y) (st : k.StaysIn h) (W : W2 g k L x aS D)
    (t30 : T30s cK PK k) (nP : g.get? cK = none ∧ g.get? PK = none) (pE : Pile k (pickI none (shelfOf x)) aE ev) (n91 : g.get? 91 = none) (n30 : g.get? 30 = none) (l91 : 91 < L) (l34 : 34 < L)
    (hdp : dp ≤ 305) (hun : un ≤ 10)
    (hq : ∀ h' tk', g.StaysIn h' → GrownAt 91 h' → GrownAt 30 h' → Q (.ret (.bool true)) ⟨h', G, dr, tk', os⟩) :
    wpAny (model PySem.Challenge.rw_ny0140_01.row.prog w) ((Am dp un (some []) []).deeper (lenv L fa cd)) (execs (lawBody.drop 5) (lenv L fa cd)) Q E ⟨h, G, dr, t, os⟩ := by
  (have fill : (fun w : World => _root_.Mine.hd.heap_1_1 w.params) = (fun w : World => _root_.Mine.hd.heap_1_1 w.params) ∧ PySem.Challenge.rw_ny0140_01.row.prog = PySem.Challenge.rw_ny0140_01.row.prog := (by k_fill; exact ⟨rfl, rfl⟩); clear fill)
  have rl : recursionLimit = 1000 := rfl
  have cl : 5000 ≤ cLine := by decide
  rw [show lawBody.drop 5 = _ from rfl]
  have N := W.base.news st
  obtain ⟨aS', wS, e', hSl, hSp⟩ := id W.shelf
  cases e'
  have lX := shelf_len (x := x)
  have lS : wS.length ≤ 23 := by have := hSp.length; omega
  k_steps
  refine Halt.mk (slice_list3 F N (isList_keeps st hSl) (.int 1 _) .none (.int 2 _) (by decide) (fun h₁ F₁ N₁ => ?_) (by with_unfolding_all rfl) (by intro _; with_unfolding_all rfl) ?_)
  rotate_left
  · rw [List.size_toArray, sizeLine_eq]; omega
  k_steps
  have st₁ := W.base.back F₁ N₁ (fun _ h => .tail _ h)
  have t30k : T30 k := t30.t30
  have t30₁ := t30k.keeps st₁
  refine Halt.mk (cmp_call (Rdy.inner B' X' T' F₁ rfl) t30₁ (by show dp + 1 + 1 ≤ 340; omega) (by show un + 3 + 3 ≤ 55; omega) ?_)
  intro c cell nd oc h₂ tk₂ kis ece ecd tn kx
  have kx1 : Kx [30] h₁ h₂ := fun b o hb e => kx b o (fun q => hb (q ▸ .head _)) e
  have F₂ := fr_but kx1 (fun q => by rw [List.mem_singleton.mp q] at l34; exact absurd l34 (by decide)) (fun p hp => by rw [List.mem_singleton.mp hp]; exact n30) F₁
  have hl₂ := isList_but kx1 t30₁.noList (News.isList N₁ (.head _))
  have hp₂ : Paired (RowAt h₂) _ _ := Paired.imp (slice_paired hSp (some 1)) fun v r _ _ q => (q.keeps st₁).but kx1 t30₁.noList
  k_steps
  refine Halt.mk (sort_rows (vs := (slicePick wS.toArray (some 1) none (some 2)).toList) (rows := pickI (some 1) (shelfOf x)) (Rdy.inner B' X' T' F₂ rfl) kis (by simpa using hl₂) hp₂ (pickI_len 40 (by omega)) (by show dp + 1 + 1 ≤ 350; omega) (by show un + 3 + 5 ≤ 80; omega) ece ecd fun De h₃ t₃ ev hperm hsrt st₃ hev hno => ?_)
  obtain ⟨F₃, W₃, st₃', kx₃, up₃⟩ := W.on F₁ st₁ t30k (fun b o hb e => st₃ _ _ (kx b o hb e)) n30 l34 l91
  have pO : Pile (h₃.hide L) (pickI (some 1) (shelfOf x)) De ev := ⟨hev.mile F₃, hperm, hsrt⟩
  have N₃ := W₃.base.news st₃'
  clear F N F₁ N₁ F₂
  obtain ⟨cK', PK', ts, same, -⟩ := tn
  obtain ⟨rfl, rfl⟩ := same _ _ (t30.keeps st₁)
  have ts₃ := (ts.keeps st₃).mile F₃
  have pE₃ := pE.but kx₃ t30k.noList
  generalize h₃.hide L = k₃ at *
  k_steps
  (with_reducible rename Fr _ _ _ _ => F₄)
  (with_reducible rename News _ _ _ _ => N₄)
  have st₄ := W₃.base.back F₄ N₄ (fun _ h => h)
  refine Halt.mk (body_is (b' := lawBody.drop 6) (by kernel_rfl!) ?_)
  exact law6 B' X' T' F₄ st₄ W₃ ts₃ nP pE₃ pO n91 n30 l91 l34 hdp hun hq
end
theorem fl43 : True := by w_top off; first | walk1 | trivial
section
open PySem PySem.W PyProof.Rows PySem.Calls PySem.Spec PySem.SeqAt
set_option maxHeartbeats 4000000
variable {w : World} {mean : ExcName → Option Value} {mg mb : Str → Option Value} {dp un : Nat} {gd : Option (List Code)} {outer : List Env}
local macro_rules | `(tactic| walk_at $k:str) => if ["eval ListComp", "call ref", "exec For", "pyIter ref", "isTrue Compare", "execs cons", "subscriptTail", "call builtin:sorted"].contains k.getString then `(tactic| walk_at "HALT") else Lean.Macro.throwUnsupported
theorem law4 {h : Heap} {t : Nat} {G : Array GenState} {dr : Drawn} {os : OsState} {g base k : Heap} {L fa aS D : Addr} {cd : Value} {x : List Int} {m : Str → Option Value} {Q : Flow → Shared → Prop} {E : Value → Shared → Prop}
    (B' : Below (Am dp un (some []) []) base [] g) (X' : (_root_.Mine.hd.heap_1_1 w.params).In g) (T' : Top topProg LL mean mg mb g)
    (F : Fr g L h fun y => if y = Str.ofString "shelf" then some (.ref aS) else m y) (st : k.StaysIn h) (W : W2 g k L x aS D)
    (t30 : Kco k 34 30 []) (n91 : g.get? 91 = none) (n30 : g.get? 30 = none) (l91 : 91 < L) (l34 : 34 < L)
    (hdp : dp ≤ 305) (hun : un ≤ 10)
    (hq : ∀ h' tk', g.StaysIn h' → GrownAt 91 h' → GrownAt 30 h' → Q (.ret (.bool true)) ⟨h', G, dr, tk', os⟩) :
    wpAny (model PySem.Challenge.rw_ny0140_01.row.prog w) ((Am dp un (some []) []).deeper (lenv L fa cd)) (execs (lawBody.drop 4) (lenv L fa cd)) Q E ⟨h, G, dr, t, os⟩ := by
  (have fill : (fun w : World => _root_.Mine.hd.heap_1_1 w.params) = (fun w : World => _root_.Mine.hd.heap_1_1 w.params) ∧ PySem.Challenge.rw_ny0140_01.row.prog = PySem.Challenge.rw_ny0140_01.row.prog := (by k_fill; exact ⟨rfl, rfl⟩); clear fill)
  have rl : recursionLimit = 1000 := rfl
  have cl : 5000 ≤ cLine := by decide
  rw [show lawBody.drop 4 = _ from rfl]
  have N := W.base.news st
  obtain ⟨aS', wS, e', hSl, hSp⟩ := id W.shelf
  cases e'
  have lX := shelf_len (x := x)
  have lS : wS.length ≤ 23 := by have := hSp.length; omega
  k_steps
  refine Halt.mk (slice_list3 F N (isList_keeps st hSl) .none .none (.int 2 _) (by decide) (fun h₁ F₁ N₁ => ?_) (by with_unfolding_all rfl) (by intro _; with_unfolding_all rfl) ?_)
  rotate_left
  · rw [List.size_toArray, sizeLine_eq]; omega
  k_steps
  have st₁ := W.base.back F₁ N₁ (fun _ h => .tail _ h)
  have t30k : T30 k := .inl t30
  have t30₁ := t30k.keeps st₁
  refine Halt.mk (cmp_call (Rdy.inner B' X' T' F₁ rfl) t30₁ (by show dp + 1 + 1 ≤ 340; omega) (by show un + 3 + 3 ≤ 55; omega) ?_)
  intro c cell nd oc h₂ tk₂ kis ece ecd tn kx
  have kx1 : Kx [30] h₁ h₂ := fun b o hb e => kx b o (fun q => hb (q ▸ .head _)) e
  have F₂ := fr_but kx1 (fun q => by rw [List.mem_singleton.mp q] at l34; exact absurd l34 (by decide)) (fun p hp => by rw [List.mem_singleton.mp hp]; exact n30) F₁
  have hl₂ := isList_but kx1 t30₁.noList (News.isList N₁ (.head _))
  have hp₂ : Paired (RowAt h₂) _ _ := Paired.imp (slice_paired hSp none) fun v r _ _ q => (q.keeps st₁).but kx1 t30₁.noList
  k_steps
  refine Halt.mk (sort_rows (vs := (slicePick wS.toArray none none (some 2)).toList) (rows := pickI none (shelfOf x)) (Rdy.inner B' X' T' F₂ rfl) kis (by simpa using hl₂) hp₂ (pickI_len 40 (by omega)) (by show dp + 1 + 1 ≤ 350; omega) (by show un + 3 + 5 ≤ 80; omega) ece ecd fun De h₃ t₃ ev hperm hsrt st₃ hev hno => ?_)
  obtain ⟨F₃, W₃, st₃', kx₃, up₃⟩ := W.on F₁ st₁ t30k (fun b o hb e => st₃ _ _ (kx b o hb e)) n30 l34 l91
  have pE : Pile (h₃.hide L) (pickI none (shelfOf x)) De ev := ⟨hev.mile F₃, hperm, hsrt⟩
  have N₃ := W₃.base.news st₃'
  have gup : g.StaysIn h₁ := F₁.keep
  clear F N F₁ N₁ F₂
  obtain ⟨cK, PK, ts, -, fresh⟩ := tn
  have nP : g.get? cK = none ∧ g.get? PK = none := ⟨none_back gup (fresh (t30.keeps st₁)).1, none_back gup (fresh (t30.keeps st₁)).2⟩
  have ts₃ := (ts.keeps st₃).mile F₃
  generalize h₃.hide L = k₃ at *
  k_steps
  (with_reducible rename Fr _ _ _ _ => F₄)
  (with_reducible rename News _ _ _ _ => N₄)
  have st₄ := W₃.base.back F₄ N₄ (fun _ h => h)
  refine Halt.mk (body_is (b' := lawBody.drop 5) (by kernel_rfl!) ?_)
  exact law5 B' X' T' F₄ st₄ W₃ ts₃ nP pE n91 n30 l91 l34 hdp hun hq
end
theorem fl44 : True := by w_top off; first | walk1 | trivial
section
open PySem PySem.W PyProof.Rows PySem.Calls PySem.Spec PySem.SeqAt
set_option maxHeartbeats 4000000
variable {w : World} {mean : ExcName → Option Value} {mg mb : Str → Option Value} {dp un : Nat} {gd : Option (List Code)} {outer : List Env}
local macro_rules | `(tactic| walk_at $k:str) => if ["eval ListComp", "call ref", "exec For", "pyIter ref", "isTrue Compare"].contains k.getString then `(tactic| walk_at "HALT") else Lean.Macro.throwUnsupported
noncomputable def prevAt (n i : Nat) : Nat := if i = 0 then n - 1 else i - 1
theorem item_prev {prog : Program} {A : Around} {s : Shared} {E : Value → Shared → Prop} {value slice : Expr} {l : Addr} {items : Array Value} {i : Nat} {x : Value} {t : Tok} {Q : Value → Shared → Prop} (hl : s.heap.IsList l items) (hx : items[prevAt items.size i]? = some x) (hi : items.size ≤ 1000000) (h : Q x s)
    (hs : ∀ z : Int, subscripted slice false (.ref l) (.int z t) = operate [.ref l, .int z t] (getItem (.ref l) (.int z t)) := by intro _; with_unfolding_all rfl) (hg : ∀ r, letTemporaryGo value (.ref l) r = pure () := by intro _; with_unfolding_all rfl) :
    wpAny (model prog w) A (subscriptTail value slice (.ref l) (.int ((i : Int) - 1) t)) Q E s := by
  unfold prevAt at hx
  by_cases h0 : i = 0
  · subst h0
    rw [if_pos rfl] at hx
    have hsz : 0 < items.size := by
      rcases Nat.eq_zero_or_pos items.size with h | h
      · rw [Array.getElem?_eq_none (by lia)] at hx; cases hx
      · exact h
    have e : (((0 : Nat) : Int) - 1) = -1 := by lia
    rw [e]
    refine subscriptTail_builtinR (x := x) hl.typeIs slot_list_getitem.lookup (wpAny_getItem_list_neg hl (by lia) ?_ (by lia) (x := x) ?_ ⟨rfl, h⟩) (hs _)
    · lia
    · have e2 : ((-1 : Int) + (items.size : Nat)).toNat = items.size - 1 := by lia
      rw [e2]; exact hx
  · rw [if_neg h0] at hx
    have e : ((i : Int) - 1) = ((i - 1 : Nat) : Int) := by lia
    rw [e]
    exact item_list hl hx hi h (hs _) hg
local macro_rules | `(tactic| walk_at $k:str) => if ["subscriptTail", "execs cons"].contains k.getString then `(tactic| walk_at "HALT") else Lean.Macro.throwUnsupported
theorem law3 {h : Heap} {t : Nat} {G : Array GenState} {dr : Drawn} {os : OsState} {g base k : Heap} {L fa aS D : Addr} {cd : Value} {x : List Int} {m : Str → Option Value} {Q : Flow → Shared → Prop} {E : Value → Shared → Prop}
    (B' : Below (Am dp un (some []) []) base [] g) (X' : (_root_.Mine.hd.heap_1_1 w.params).In g) (T' : Top topProg LL mean mg mb g)
    (F : Fr g L h fun y => if y = Str.ofString "shelf" then some (.ref aS) else m y) (st : k.StaysIn h) (W : W2 g k L x aS D)
    (t30 : Kco k 34 30 []) (n91 : g.get? 91 = none) (n30 : g.get? 30 = none) (l91 : 91 < L) (l34 : 34 < L)
    (hdp : dp ≤ 305) (hun : un ≤ 10)
    (hq : ∀ h' tk', g.StaysIn h' → GrownAt 91 h' → GrownAt 30 h' → Q (.ret (.bool true)) ⟨h', G, dr, tk', os⟩) :
    wpAny (model PySem.Challenge.rw_ny0140_01.row.prog w) ((Am dp un (some []) []).deeper (lenv L fa cd)) (execs (lawBody.drop 3) (lenv L fa cd)) Q E ⟨h, G, dr, t, os⟩ := by
  (have fill : (fun w : World => _root_.Mine.hd.heap_1_1 w.params) = (fun w : World => _root_.Mine.hd.heap_1_1 w.params) ∧ PySem.Challenge.rw_ny0140_01.row.prog = PySem.Challenge.rw_ny0140_01.row.prog := (by k_fill; exact ⟨rfl, rfl⟩); clear fill)
  have rl : recursionLimit = 1000 := rfl
  have cl : 5000 ≤ cLine := by decide
  rw [show lawBody.drop 3 = _ from rfl]
  have N := W.base.news st
  obtain ⟨aS', wS, e', hSl, hSp⟩ := id W.shelf
  cases e'
  obtain ⟨aN, wN, e', hNl, hNp⟩ := id W.names
  cases e'
  have lS : wS.length ≤ 23 := by have := hSp.length; have := shelf_len (x := x); lia
  have lN : wN.length = wS.length := by have := hSp.length; have := hNp.length; simp at this; lia
  have lX : (shelfOf x).length = wS.length := hSp.length.symm
  k_steps
  refine Halt.mk (for_rule g rfl rfl ?_)
  k_steps
  (with_reducible rename Fr _ _ _ _ => F₁)
  refine Halt.mk (call_len_list (isList_keeps st hSl) (by rw [List.size_toArray]; lia) ?_)
  rw [List.size_toArray]
  k_steps
  (with_reducible rename Fr _ _ _ _ => F₁)
  (with_reducible rename News _ _ _ _ => N₁)
  (with_reducible rename IsRange _ _ _ _ _ _ _ _ => hr)
  refine Halt.mk (iter_range (n := wS.length) (fun i m₁ nx => nx = newsOf g k ∧ m₁ (Str.ofString "shelf") = some (.ref aS)) rfl hr ?_ ?_ F₁ N₁ ⟨rfl, rfl⟩ ?_ ?_)
  · lia
  · lia
  · rintro i t m₁ nx h₂ tk own hi _ hoff ⟨rfl, hm⟩ F₂ N₂
    have em : (fun y => if y = Str.ofString "k" then some (Value.int (0 + (i : Int)) t) else m₁ y) = (fun y => if y = Str.ofString "k" then some (Value.int (i : Int) t) else if y = Str.ofString "shelf" then some (.ref aS) else m₁ y) := by
      funext z
      by_cases h : z = Str.ofString "k"
      · simp [h]
      · by_cases h2 : z = Str.ofString "shelf"
        · rw [if_neg h, if_neg h, if_pos h2, h2]; exact hm
        · rw [if_neg h, if_neg h, if_neg h2]
    rw [em] at F₂
    have st₂ := W.base.back F₂ N₂ (fun _ h => List.mem_append_left _ h)
    clear F₁ N₁ hr
    obtain ⟨ri, eri⟩ : ∃ ri, (shelfOf x)[i]? = some ri := ⟨_, List.getElem?_eq_getElem (by lia)⟩
    have hpl : prevAt wS.length i < wS.length := by unfold prevAt; split <;> lia
    obtain ⟨rp, erp⟩ : ∃ rp, (shelfOf x)[prevAt wS.length i]? = some rp := ⟨_, List.getElem?_eq_getElem (by lia)⟩
    obtain ⟨vi, evi, hvi⟩ := Paired.get' hSp eri
    obtain ⟨vp, evp, hvp⟩ := Paired.get' hSp erp
    have gi := shelf_good ri (List.mem_of_getElem? eri)
    have gp := shelf_good rp (List.mem_of_getElem? erp)
    k_steps
    refine Halt.mk (wpAny_execs_cons ?_)
    k_steps
    refine Halt.mk (item_prev (isList_keeps st₂ hSl) (x := vp) (by rw [List.size_toArray]; simpa using evp) (by rw [List.size_toArray]; lia) ?_)
    k_steps
    refine Halt.mk (item_list (isList_keeps st₂ hSl) (by simpa using evi) (by rw [List.size_toArray]; lia) ?_)
    k_steps
    refine Halt.mk (orderR_call (hvp.keeps st₂) (hvi.keeps st₂) gp gi (Rdy.inner B' X' T' F₂ rfl) (by show dp + 1 + 2 < recursionLimit; lia) (by show un + 3 + 30 < cLine; lia) ?_)
    rintro y h₃ tk₃ st₃ ⟨ty, rfl⟩
    have F₃ := fr_on st₃ F₂
    have N₃ := news_on st₃ N₂
    clear F₂ N₂
    k_steps
    (with_reducible rename Fr _ _ _ _ => F₄)
    (with_reducible rename News _ _ _ _ => N₄)
    have st₄ := W.base.back F₄ N₄ (fun _ h => List.mem_append_left _ h)
    refine Halt.mk (wpAny_execs_cons ?_)
    k_steps
    refine Halt.mk (wpAny_isTrue_Compare1 ?_)
    k_steps
    refine Halt.mk (item_prev (isList_keeps st₄ hSl) (x := vp) (by rw [List.size_toArray]; simpa using evp) (by rw [List.size_toArray]; lia) ?_)
    k_steps
    refine Halt.mk (item_list (isList_keeps st₄ hSl) (by simpa using evi) (by rw [List.size_toArray]; lia) ?_)
    k_steps
    refine Halt.mk (three_call (hvp.keeps st₄) (hvi.keeps st₄) (Rdy.inner B' X' T' F₄ rfl) (by show dp + 1 + 1 < recursionLimit; lia) (by show un + 3 + 20 < cLine; lia) ?_)
    rintro y h₅ tk₅ st₅ ⟨ty₅, rfl⟩
    have F₅ := fr_on st₅ F₄
    have N₅ := news_on st₅ N₄
    clear F₄ N₄
    k_steps
    skip
    · exact absurd (show cmpR rp ri = ordG rp ri from rfl) (by assumption)
    have st₅' := W.base.back F₅ N₅ (fun _ h => List.mem_append_left _ h)
    refine Halt.mk (wpAny_isTrue_Compare1 ?_)
    obtain ⟨oc, ec, dc⟩ := id W.cell
    have N₆ : News g L h₅ ((L + 1, oc) :: (newsOf g k ++ own)) := fun p hp => by
      rcases List.mem_cons.mp hp with rfl | hp
      · exact W.base.news st₅' _ (mem_newsOf ec (by
          cases q : g.get? (L + 1) with
          | none => rfl
          | some og => exact absurd (Nat.lt_of_lt_of_le (Heap.lt_size q) F₅.above) (Nat.not_lt.mpr (Nat.le_succ L))))
      · exact N₅ p hp
    clear N₅
    obtain ⟨yp, eyp, hyp⟩ := Paired.get' hNp (x := nameOf rp) (i := prevAt wS.length i) (by simp [erp])
    obtain ⟨yi, eyi, hyi⟩ := Paired.get' hNp (x := nameOf ri) (i := i) (by simp [eri])
    k_steps
    refine Halt.mk (item_prev (isList_keeps st₅' hNl) (x := yp) (by rw [List.size_toArray, lN]; simpa using eyp) (by rw [List.size_toArray]; lia) ?_)
    k_steps
    refine Halt.mk (item_list (isList_keeps st₅' hNl) (by simpa using eyi) (by rw [List.size_toArray]; lia) ?_)
    k_steps
    obtain ⟨typ, rfl⟩ := hyp
    obtain ⟨tyi, rfl⟩ := hyi
    refine Halt.mk (coll_call (Rdy.inner B' X' T' F₅ rfl) (by show dp + 1 + 1 < recursionLimit; lia) ?_)
    rintro y h₇ tk₇ st₇ ⟨ty₇, rfl⟩
    rw [cmp_names gp gi]
    have F₇ := fr_on st₇ F₅
    have N₇ := news_on st₇ N₆
    clear F₅ N₆
    k_steps
    · exact absurd rfl (by assumption)
    have N₈ : News g L h₇ (newsOf g k ++ own) := fun p hp => N₇ p (.tail _ hp)
    refine InvEndN.intro F₇ N₈ ⟨rfl, ?_⟩ rfl ?_ (fun p hp => List.mem_append_right _ hp)
    · rfl
    · exact fun p hp => List.mem_append_left _ hp
  · intro m₁ nx h₂ tk ⟨e, hm⟩ F₂ N₂
    subst e
    have em : m₁ = (fun y => if y = Str.ofString "shelf" then some (.ref aS) else m₁ y) := by
      funext z
      by_cases h : z = Str.ofString "shelf"
      · rw [if_pos h, h]; exact hm
      · rw [if_neg h]
    rw [em] at F₂
    have st₂ := W.base.back F₂ N₂ (fun _ h => h)
    clear F₁ N₁ hr
    k_steps
    refine Halt.mk (body_is (b' := lawBody.drop 4) (by kernel_rfl!) ?_)
    exact law4 B' X' T' F₂ st₂ W t30 n91 n30 l91 l34 hdp hun hq
end
theorem fl45 : True := by w_top off; first | walk1 | trivial
section
open PySem PySem.W PyProof.Rows PySem.Calls PySem.Spec PySem.SeqAt
set_option maxHeartbeats 4000000
variable {w : World} {mean : ExcName → Option Value} {mg mb : Str → Option Value} {dp un : Nat} {gd : Option (List Code)} {outer : List Env}
local macro_rules | `(tactic| walk_at $k:str) => if ["eval ListComp", "call ref", "exec For", "pyIter ref", "isTrue Compare", "execs cons"].contains k.getString then `(tactic| walk_at "HALT") else Lean.Macro.throwUnsupported
theorem law2 {h : Heap} {t : Nat} {G : Array GenState} {dr : Drawn} {os : OsState} {g base k : Heap} {L fa aS D : Addr} {cd : Value} {x : List Int} {m : Str → Option Value} {Q : Flow → Shared → Prop} {E : Value → Shared → Prop}
    (B' : Below (Am dp un (some []) []) base [] g) (X' : (_root_.Mine.hd.heap_1_1 w.params).In g) (T' : Top topProg LL mean mg mb g)
    (F : Fr g L h fun y => if y = Str.ofString "shelf" then some (.ref aS) else m y) (st : k.StaysIn h) (W : W2 g k L x aS D)
    (t30 : Kco k 34 30 []) (n91 : g.get? 91 = none) (n30 : g.get? 30 = none) (l91 : 91 < L) (l34 : 34 < L)
    (hdp : dp ≤ 305) (hun : un ≤ 10)
    (hq : ∀ h' tk', g.StaysIn h' → GrownAt 91 h' → GrownAt 30 h' → Q (.ret (.bool true)) ⟨h', G, dr, tk', os⟩) :
    wpAny (model PySem.Challenge.rw_ny0140_01.row.prog w) ((Am dp un (some []) []).deeper (lenv L fa cd)) (execs (lawBody.drop 2) (lenv L fa cd)) Q E ⟨h, G, dr, t, os⟩ := by
  (have fill : (fun w : World => _root_.Mine.hd.heap_1_1 w.params) = (fun w : World => _root_.Mine.hd.heap_1_1 w.params) ∧ PySem.Challenge.rw_ny0140_01.row.prog = PySem.Challenge.rw_ny0140_01.row.prog := (by k_fill; exact ⟨rfl, rfl⟩); clear fill)
  have rl : recursionLimit = 1000 := rfl
  have cl : 5000 ≤ cLine := by decide
  rw [show lawBody.drop 2 = _ from rfl]
  have N := W.base.news st
  k_steps
  refine Halt.mk (wpAny_isTrue_Compare1 ?_)
  refine wpAny_Name ?_
  refine wpAny_loadName_cell rfl rfl rfl (W.cell.keeps st) ?_
  k_steps
  obtain ⟨aS', wS, e', hSl, hSp⟩ := id W.shelf
  cases e'
  have lS : wS.length ≤ 23 := by have := hSp.length; have := shelf_len (x := x); lia
  refine Halt.mk (comp_eval [L] (fun h => h.Ns L fun y => if y = Str.ofString "shelf" then some (.ref aS) else m y) ns_stable (fun _ => true) (fun _ v y => ∃ r, RowAt k v r ∧ StrV y (nameOf r)) (fun _ _ _ _ _ h => h) rfl (by decide) rfl (by decide) rfl ?_)
  k_steps
  refine ⟨_, _, src_list rfl (isList_keeps st hSl) (ns_off F.ns (isList_keeps st hSl)), ?_, F.ns, tests_nil, ?_, ?_⟩
  · rw [List.size_toArray, sizeLine_eq]; lia
  · intro C i v s₃ m₃ E' hv _ hn hm hC hk nsL
    have F₄ := fr_ns F hk nsL
    obtain ⟨r, hr, hrow⟩ := Paired.get hSp (by simpa using hv)
    have st₄ := k_on W.base st hk
    have gr := shelf_good r (List.mem_of_getElem? hr)
    have hCL : C ≠ L := by
      rintro rfl
      obtain ⟨oL, _, _, eL, _⟩ := F.ns
      have : h.get? C = none := hC
      rw [show h.get? C = some oL from eL] at this; cases this
    obtain ⟨oC, esC, epC, eC, rC⟩ := id hn
    obtain ⟨b₄, st₄', up₄⟩ := mile F₄
    clear N F
    have N := b₄.news st₄'
    have kk : k.StaysIn (s₃.heap.hide L) := fun b o e => up₄ b o (fun q => by rw [q, W.base.no] at e; cases e) (st₄ _ _ e)
    have eC' := up₄ _ _ hCL eC
    generalize s₃.heap.hide L = k₄ at *
    k_steps
    (with_reducible rename Fr _ _ _ _ => F₅)
    (with_reducible rename News _ _ _ _ => N₅)
    have st₅ := b₄.back F₅ N₅ (fun _ h => .tail _ h)
    have hn₅ := nsAt hn (fun o e => by rw [eC] at e; cases e; exact st₅ _ _ eC')
    refine wpAny_Name (wpAny_loadName_local rfl rfl hn₅ hm ?_)
    k_steps
    refine Halt.mk (pieces_call (hrow.keeps fun b o e => st₅ _ _ (kk _ _ e)) gr (Rdy.inner B' X' T' F₅ rfl) (by show dp + 1 + 2 < recursionLimit; lia) (by show un + 3 + 40 < cLine; lia) ?_)
    rintro y h₆ tk₆ st₆ hy
    have F₆ := fr_on st₆ F₅
    have N₆ := news_on st₆ N₅
    clear F₅ N₅
    obtain ⟨b, us, rfl, hb, hus⟩ := hy
    have lus : us.length ≤ 40 := by have := hus.length; have := gr.len; simp at *; lia
    show wpAny _ _ (binaryOp _ _ _) _ _ _
    refine add_lists F₆ N₆ (vs := [_]) (News.isList N₆ (.head _)) hb (fun h₇ F₇ N₇ => ?_) ?_
    · have st₇ := b₄.back F₇ N₇ (fun _ h => .tail _ (.tail _ h))
      have hys : Paired StrV (.str (Str.ofString "C") (s₃.toks + 1) :: us) (Str.ofString "C" :: (r.map piece).map mkS) := Paired.cons ⟨_, rfl⟩ hus
      have hDl := News.isList N₇ (.head _)
      clear F₆ N₆
      k_steps
      refine join_strs hDl (ys := Str.ofString "C" :: (r.map piece).map mkS) hys ?_ ?_
      · have h1 : (((r.map piece).map mkS).map (·.length)).sum ≤ ((r.map piece).map mkS).length * (40 * 17) := StrLaws.sumLen_le _ (by
          intro y hy
          obtain ⟨z, hz, rfl⟩ := List.mem_map.mp hy
          obtain ⟨n, hn, rfl⟩ := List.mem_map.mp hz
          rw [mkS_length]; exact piece_len (gr.ins n hn))
        have h2 := gr.len
        rw [List.map_cons, List.sum_cons, List.length_cons]
        simp only [List.length_map] at h1
        have e1 : ((r.map piece).map mkS).length = r.length := by simp
        have e2 : (Str.ofString "C").length = 1 := rfl
        have e3 : (Str.ofString ".").length = 1 := rfl
        rw [e1, e2, e3]
        lia
      · intro t' k'
        rw [name_join]
        k_steps
        exact ⟨[], h₇, _, rfl, ⟨r, hrow, _, rfl⟩, fun _ h => (nomatch h), fun b o hb e => st₇ _ _ (up₄ _ _ (fun q => hb (List.mem_singleton.mpr q)) e), F₇.ns⟩
    · rw [sizeLine_eq]; simp; lia
  · intro D₅ h₅ tk₅ hdn
    obtain ⟨ys, l, ws, hD, hpl, hlen, hP, hF, _, nsL, hk⟩ := hdn
    have hys : Paired StrV ys.toList ((shelfOf x).map nameOf) := by
      rw [filter_all] at hF
      refine paired_from (by rw [hlen, List.size_toArray, hSp.length]; simp) hP hF ?_
      rintro j v y z hj ⟨r, hr1, hy⟩ hz
      obtain ⟨r', hrn, hr2⟩ := Paired.get hSp (by simpa using hj)
      cases RowAt.inj hr1 hr2
      simp only [List.getElem?_map, hrn, Option.map_some, Option.some.injEq] at hz
      rw [← hz]; exact hy
    have F₅ := fr_ns F hk nsL
    have st₅ := k_on W.base st hk
    clear N F
    show wpAny _ _ (compareOp _ _ _) _ _ _
    refine ne_lists (P := StrV) ?_ (W.names.keeps st₅) ⟨D₅, ys.toList, rfl, by simpa using hpl.isList, hys⟩ (by show un + 3 < cLine; lia) ?_
    · exact EqOk.strs
    rw [decide_eq_true rfl]
    k_steps
    refine Halt.mk (body_is (b' := lawBody.drop 3) (by kernel_rfl!) ?_)
    exact law3 B' X' T' F₅ st₅ W t30 n91 n30 l91 l34 hdp hun hq
end
theorem fl46 : True := by w_top off; first | walk1 | trivial
section
open PySem PySem.W PyProof.Rows PySem.Calls PySem.Spec PySem.SeqAt
set_option maxHeartbeats 4000000
variable {w : World} {mean : ExcName → Option Value} {mg mb : Str → Option Value} {dp un : Nat} {gd : Option (List Code)} {outer : List Env}
local macro_rules | `(tactic| walk_at $k:str) => if ["eval ListComp", "call ref", "exec For", "pyIter ref"].contains k.getString then `(tactic| walk_at "HALT") else Lean.Macro.throwUnsupported
theorem law_run {h : Heap} {t : Nat} {G : Array GenState} {dr : Drawn} {os : OsState} {g base : Heap} {L fa a : Addr} {cd : Value} {x : List Int} {vs : List Value} {oc : Obj} {Q : Flow → Shared → Prop} {E : Value → Shared → Prop}
    (B' : Below (Am dp un (some []) []) base [] g) (X' : (_root_.Mine.hd.heap_1_1 w.params).In g) (T' : Top topProg LL mean mg mb g)
    (F : Fr g L h (bindL (lenv L fa cd).kindOf [(Str.ofString "script", .ref a)] fun _ => none)) (N : News g L h [(L + 1, oc)])
    (t91 : T91 h) (t30 : Kco h 34 30 []) (n91 : g.get? 91 = none) (n30 : g.get? 30 = none) (l91 : 91 < L) (l34 : 34 < L)
    (hl : g.IsList a vs.toArray) (hI : IntsAre vs x) (lx : vs.length ≤ 63) (hoc : oc.data = .cell none)
    (hdp : dp ≤ 305) (hun : un ≤ 10)
    (hq : ∀ h' tk', g.StaysIn h' → GrownAt 91 h' → GrownAt 30 h' → Q (.ret (.bool true)) ⟨h', G, dr, tk', os⟩) :
    wpAny (model PySem.Challenge.rw_ny0140_01.row.prog w) ((Am dp un (some []) []).deeper (lenv L fa cd)) (execs lawBody (lenv L fa cd)) Q E ⟨h, G, dr, t, os⟩ := by
  (have fill : (fun w : World => _root_.Mine.hd.heap_1_1 w.params) = (fun w : World => _root_.Mine.hd.heap_1_1 w.params) ∧ PySem.Challenge.rw_ny0140_01.row.prog = PySem.Challenge.rw_ny0140_01.row.prog := (by k_fill; exact ⟨rfl, rfl⟩); clear fill)
  rw [show lawBody = _ from (by unfold lawBody; rfl : lawBody = _)]
  k_steps
  have rl : recursionLimit = 1000 := rfl
  have cl : 5000 ≤ cLine := by decide
  refine Halt.mk (shelf_call (isList_keeps F.keep hl) hI (by omega) (Rdy.inner B' X' T' F rfl) (by show dp + 1 + 2 < recursionLimit; omega) (by show un + 3 + 30 < cLine; omega) ?_)
  rintro vS h₂ tk₂ st₂ hS
  have F₂ := fr_on st₂ F
  have t91₂ := (T91.stable.keeps st₂ t91).mile F₂ l91
  have t30₂ := kco_mile F₂ (t30.keeps st₂) (by omega)
  have hS₂ := hS.mile F₂
  obtain ⟨b₂, st₂', up₂⟩ := mile F₂
  have ec₂ := up₂ _ _ (N _ (.head _)).2.1 (st₂ _ _ (N _ (.head _)).1)
  have N₂ := b₂.news st₂'
  clear F N t91 t30 hS st₂ hl hI up₂
  generalize h₂.hide L = k₂ at *
  k_steps
  (with_reducible rename Fr _ _ _ _ => F₃)
  (with_reducible rename News _ _ _ _ => N₃)
  have st₃ := b₂.back F₃ N₃ (fun _ h => h)
  obtain ⟨aS, wS, rfl, hSl, hSp⟩ := id hS₂
  have lS : wS.length ≤ 23 := by have := hSp.length; have := shelf_len (x := x); omega
  refine Halt.mk (comp_eval [91] T91 T91.stable (fun _ => true) (fun _ v y => ∃ r, RowAt k₂ v r ∧ StrV y (nameOf r)) (fun _ _ _ _ _ h => h) rfl (by decide) rfl (by decide) rfl ?_)
  k_steps
  have t91₃ := T91.stable.keeps st₃ t91₂
  refine ⟨_, _, src_list rfl (isList_keeps st₃ hSl) (t91₃.off (isList_keeps st₃ hSl)), ?_, t91₃, tests_nil, ?_, ?_⟩
  · rw [List.size_toArray, sizeLine_eq]; omega
  · intro C i v s₃ m₃ E' hv _ hn hm hC hk t91
    have F₄ := fr_but hk (by simpa using Nat.ne_of_gt l91) (by simpa using n91) F₃
    obtain ⟨r, hr, hrow⟩ := Paired.get hSp (by simpa using hv)
    have kx₄ : Kx [91] k₂ s₃.heap := fun b o hb e => hk b o hb (st₃ _ _ e)
    have hrow₄ := hrow.but kx₄ t91₂.noList
    clear N₃
    k_steps
    refine Halt.mk (named_call hrow₄ (shelf_good r (List.mem_of_getElem? hr)) (Rdy.inner B' X' T' F₄ rfl) t91 (by show dp + 1 + 10 < recursionLimit; omega) (by show un + 3 + 80 < cLine; omega) ?_)
    intro y h₅ tk₅ kx₅ t91₅ hy
    exact ⟨[], h₅, tk₅, rfl, ⟨r, hrow, hy⟩, fun _ h => (nomatch h), kx₅, t91₅⟩
  · intro D h₅ tk₅ hdn
    obtain ⟨ys, l, ws, hD, hpl, hlen, hP, hF, _, t91₅, hk₅⟩ := hdn
    have hys : Paired StrV ys.toList ((shelfOf x).map nameOf) := by
      rw [filter_all] at hF
      refine paired_from (by rw [hlen, List.size_toArray, hSp.length]; simp) hP hF ?_
      rintro j v y z hj ⟨r, hr1, hy⟩ hz
      obtain ⟨r', hrn, hr2⟩ := Paired.get hSp (by simpa using hj)
      cases RowAt.inj hr1 hr2
      simp only [List.getElem?_map, hrn, Option.map_some, Option.some.injEq] at hz
      rw [← hz]; exact hy
    have F₅ := fr_but hk₅ (by simpa using Nat.ne_of_gt l91) (by simpa using n91) F₃
    have kx₅ := next_k b₂ st₃ hk₅
    have ec₅ : h₅.IsCell (L + 1) none := ⟨oc, hk₅ _ _ (fun q => absurd (List.mem_singleton.mp q) (Nat.ne_of_gt (Nat.lt_succ_of_lt l91))) (st₃ _ _ ec₂), hoc⟩
    refine wpAny_storeName_cell rfl rfl rfl ec₅ fun h₆ ec₆ sb₆ => ?_
    have kx₆ : Kx [L + 1] h₅ h₆ := fun b o hb e => (sb₆.2 b (fun q => hb (List.mem_singleton.mpr q))).trans e
    have gn : ∀ p ∈ [L + 1], g.get? p = none := fun p hp => by
      rw [List.mem_singleton.mp hp]
      cases q : g.get? (L + 1) with
      | none => rfl
      | some og => exact absurd (Nat.lt_of_lt_of_le (Heap.lt_size q) F₅.above) (Nat.not_lt.mpr (Nat.le_succ L))
    have F₆ := fr_but kx₆ (fun q => absurd (List.mem_singleton.mp q) (Nat.ne_of_lt (Nat.lt_succ_self L))) gn F₅
    have e₅ := hpl.isList
    have a1 : L + 1 ≠ 91 := Nat.ne_of_gt (Nat.lt_succ_of_lt l91)
    have a2 : L + 1 ≠ L := Nat.succ_ne_self L
    have a3 : L + 1 ≠ 34 := Nat.ne_of_gt (Nat.lt_succ_of_lt l34)
    have a4 : L + 1 ≠ 30 := Nat.ne_of_gt (Nat.lt_succ_of_lt (Nat.lt_trans (by decide) l34))
    have t91₆ := t91₅.butCell ec₅ kx₆ a1
    have nl₅ := cell_noList ec₅
    have W : W2 g (h₆.hide L) L x aS D := {
      base := (mile F₆).1
      t91 := t91₆.mile F₆ l91
      shelf := ((hS₂.but (fun b o hb e => hk₅ b o hb (st₃ _ _ e)) t91₂.noList).but kx₆ nl₅).mile F₆
      cell := by
        obtain ⟨o, e, d⟩ := ec₆
        exact ⟨o, hide_but _ _ a2 e, d⟩
      names := StrsAt.mile F₆ ⟨D, ys.toList, rfl, isList_but kx₆ nl₅ (by simpa using e₅), hys⟩ }
    have t30₆ : Kco (h₆.hide L) 34 30 [] := kco_mile F₆ (kco_first kx₆ (kco_first (k := k₂) (P := 91) (fun b o hb e => hk₅ b o hb (st₃ _ _ e)) t30₂ (by decide) (by decide)) a3 a4) l34
    refine body_is (b' := lawBody.drop 2) (by kernel_rfl!) ?_
    exact law2 B' X' T' F₆ (mile F₆).2.1 W t30₆ n91 n30 l91 l34 hdp hun hq
end
theorem fl47 : True := by w_top off; first | walk1 | trivial
section
open PySem PySem.W PyProof.Rows PySem.Calls PySem.Spec PySem.SeqAt
set_option maxHeartbeats 4000000
variable {w : World} {mean : ExcName → Option Value} {mg mb : Str → Option Value} {dp un : Nat} {gd : Option (List Code)} {outer : List Env}
local macro_rules | `(tactic| walk_at $k:str) => if ["eval ListComp", "call ref", "exec For", "pyIter ref"].contains k.getString then `(tactic| walk_at "HALT") else Lean.Macro.throwUnsupported
theorem kco_of {h : Heap} {c P : Addr} (x : CodeHd h c P) (e : h.get? P = some (tabObj #[])) : Kco h c P [] := ⟨x.code e (by trivial), x.tab e⟩
/-! names kept, so that the head makes no twins -/
noncomputable def topJ.tw970478554675415233 : Nat := 0
noncomputable def topJ.tw14156854181008826539 : Nat := 0
noncomputable def topJ.tw17660654204218134193 : Nat := 0
noncomputable def topJ.tw6909727809315064582 : Nat := 0
noncomputable def topJ.tw4037244466956852478 : Nat := 0
noncomputable def topJ.tw7484525167785355891 : Nat := 0
noncomputable def topJ.tw1137463628972589535 : Nat := 0
noncomputable def topJ.tw10808712657999201214 : Nat := 0
noncomputable def topJ.tw1739484552581051924 : Nat := 0
noncomputable def topJ.tw4505580725930207147 : Nat := 0
noncomputable def topJ.tw16435864681220986839 : Nat := 0
noncomputable def topJ.tw3165402325403008152 : Nat := 0
noncomputable def topJ.tw6940157078375651078 : Nat := 0
noncomputable def topJ.tw583630247283537242 : Nat := 0
noncomputable def topJ.tw18244954224146802766 : Nat := 0
noncomputable def topJ.tw1578675299538549152 : Nat := 0
noncomputable def topJ.tw5229231383210550984 : Nat := 0
noncomputable def topJ.tw13231662624419761922 : Nat := 0
noncomputable def topJ.tw11007247816759382695 : Nat := 0
noncomputable def topJ.tw12438475636436381009 : Nat := 0
noncomputable def topJ.tw12544577498530340692 : Nat := 0
noncomputable def topJ.tw925476171902359583 : Nat := 0
noncomputable def topJ.tw13287318261062439462 : Nat := 0
noncomputable def topJ.tw10654954662424083566 : Nat := 0
noncomputable def topJ.tw2269643802943631237 : Nat := 0
noncomputable def topJ.tw15107812112130615361 : Nat := 0
noncomputable def topJ.tw2293421482451391052 : Nat := 0
noncomputable def topJ.tw8920866507859245411 : Nat := 0
noncomputable def topJ.tw15786199624728182646 : Nat := 0
noncomputable def topJ.tw11104301762631512091 : Nat := 0
noncomputable def topJ.tw9137756109021961414 : Nat := 0
noncomputable def topJ.tw6558123530394567970 : Nat := 0
noncomputable def topJ.tw15228820425259189260 : Nat := 0
noncomputable def topJ.tw14626160920753338472 : Nat := 0
noncomputable def topJ.tw15026948506137213211 : Nat := 0
noncomputable def topJ.tw2120437511892528828 : Nat := 0
noncomputable def topJ.tw1492749816829005098 : Nat := 0
noncomputable def topJ.tw11122437893212051824 : Nat := 0
noncomputable def topJ.tw11641342084396988224 : Nat := 0
noncomputable def topJ.tw12430427351553047938 : Nat := 0
noncomputable def topJ.tw15149268656053003344 : Nat := 0
noncomputable def topJ.tw5457382448754684207 : Nat := 0
noncomputable def topJ.tw3432410253045065921 : Nat := 0
noncomputable def topJ.tw5728622429137920078 : Nat := 0
noncomputable def topJ.tw2679188494920288763 : Nat := 0
noncomputable def topJ.tw7402041912918238127 : Nat := 0
noncomputable def topJ.tw309827596828772904 : Nat := 0
noncomputable def topJ.tw7533826598416356950 : Nat := 0
noncomputable def topJ.tw12403803527354573847 : Nat := 0
noncomputable def topJ.tw13322803412802491165 : Nat := 0
noncomputable def topJ.tw8330591269417582350 : Nat := 0
noncomputable def topJ.tw5876251464612630758 : Nat := 0
noncomputable def topJ.tw10378310499557493821 : Nat := 0
set_option Elab.async true in
theorem topJ : PySem.Challenge.rw_ny0140_01.Holds := by
  w_on; o_law
  o_head (kmHook Mine.hd.heap_1_1 [2, 3, 6, 15, 17, 18, 20, 21, 22, 24, 25, 27, 28, 29, 31, 32, 34, 35, 36, 37, 38, 40, 41, 43, 44, 45, 47, 48, 50, 51, 52, 54, 55, 57, 58, 59, 61, 62, 64, 65, 66, 68, 69, 71, 72, 73, 75, 76, 78, 79, 80, 83, 84, 85, 88, 89, 90, 92, 93, 95, 96, 97, 99, 100, 102, 103, 104, 107, 108, 109, 112, 113, 114, 117, 118] (fun _ => by kernel_rfl) [91, 30])
  (case hw => w_witness2)
  k_go0
  (with_reducible rename Top _ _ _ _ _ (ghostOf _ _) => T')
  (with_reducible rename Below _ _ _ _ => B')
  (with_reducible rename Fr _ _ _ _ => F')
  (with_reducible rename News _ _ _ _ => N')
  (with_reducible rename Frag.In _ (ghostOf _ _) => X')
  refine' body_is (b' := lawBody) ?kb ?_
  (case kb => kernel_rfl!)
  refine' law_run (w := _) B' X' T' F' (fun p hp => N' p (by obtain rfl := List.mem_singleton.mp hp; exact .head _)) ?k1 ?k2 ?k3 ?k4 ?k5 ?k6 ?k7 ?k8 ?k9 ?k10 ?k11 ?k12 ?k13
  (case k1 => exact .inl (N' _ (.tail _ (.head _))).1)
  (case k2 => exact kco_of (codeHd.keeps F'.keep) (N' _ (.tail _ (.tail _ (.head _)))).1)
  (case k3 => exact hideAll_none _ (by decide))
  (case k4 => exact hideAll_none _ (by decide))
  (case k5 => exact (by assumption : 91 < _ ∧ 30 < _).1)
  (case k6 => exact Nat.lt_trans (by decide : 34 < 91) (by assumption : 91 < _ ∧ 30 < _).1)
  (case k7 => exact lifted)
  (case k8 => assumption)
  (case k9 => rename_i hc _; have := IntsAre.length (by assumption); omega)
  (case k10 => exact (by assumption : _ = Data.cell _).trans (by kernel_rfl!))
  (case k11 => decide)
  (case k12 => decide)
  (case k13 => 
    intro h' tk' hk g91 g30
    refine ⟨⟨.inl ⟨.bool true, .bool true, [], rfl, raisesW_false ?_, .bool true, ?_, unshared_nil⟩, hk, rfl, ?_⟩, g91, g30, trivial⟩
    · wrow_none_raised
    · kc_post
    · assumption)
end
end Mine
theorem PySem.Challenge.cw_ny0140_01_holds : PySem.Challenge.rw_ny0140_01.Holds :=
  Mine.topJ
