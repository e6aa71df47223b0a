import PyProof.Rows.All
import Wide.All
import OpenK.AllK
import Wide.FinOn
import Lean
import PySem.Challenge.RW_jh0006_01
open PySem PySem.W PyProof.Rows
set_option Elab.async false
set_option compiler.extract_closed false
set_option linter.all false
namespace Mine
structure Box (p : Prop) : Prop where
  out : p
def viewOf (p : Program) : Program := { p with main := { p.main with body := (p.main.body.drop 1).take 3 ++ p.main.body.drop 5 } }
theorem ends_boot {p : Program} {β : Type} {f : Shared → β} {good : World → Option β} {N : Nat}
    (e0 : opening p = plainProg p.main.scope.names) (hN : Nat.ble 600 N = true) (hf : ∀ s, fenceModules? p s = some s)
    (go : ∀ w os, (topFrom treeTable p w N ⟨boot_heap w.params, Array.mk [], boot_drawn, boot_toks, os⟩).map f = good w) : ∀ w, (openEnds treeTable p w N).map f = good w := fun w => by
  obtain ⟨⟨h, gs, d, k, os⟩, e, e'⟩ := Option.map_eq_some_iff.mp (boot_open e0 hN hf w)
  obtain ⟨rfl, rfl, rfl, rfl⟩ : h = boot_heap w.params ∧ gs = Array.mk [] ∧ d = boot_drawn ∧ k = boot_toks := by simpa using e'
  unfold openEnds
  rw [e]
  exact go w os
theorem said : OpenLaw.wellSaid PySem.Challenge.rw_jh0006_01 = true := by
  rw [PySem.W.Fast.te9446332074065402090]
  kernel_rfl!
noncomputable def view : Program := viewOf PySem.Challenge.rw_jh0006_01.prog
end Mine
local macro_rules | `(tactic| o_head $H) => `(tactic| (
  refine holds_open (q := Mine.view) (loose := []) (Xt := fun s => xlAt Mine.view [] s && recOk (RowW.records (OpenRow.toRowW (OpenLaw.row PySem.Challenge.rw_jh0006_01))) s) (XP := XL Mine.view []) (Yf := Hook.obs $H) (Ya := Hook.val $H) (YP := Hook.says $H) (N := 2736) ?hl (Hook.of $H) (Hook.keeps $H) (fun s e => xl_of s (Bool.and_eq_true_iff.mp e).1) XL.keeps (by rfl) (by rfl) (by rfl) (fun s e => recFacts_of (Bool.and_eq_true_iff.mp e).2) (by rfl) (by first | assumption | decide +kernel) (by decide +kernel) ⟨rfl, rfl, rfl, rfl, rfl, by decide +kernel⟩ ?hw ?hc
  case hl =>
    refine Mine.ends_boot (by kernel_rfl!) (by rfl) (fun s => by kernel_rfl!) ?_
    intro w os
    unfold Mine.view
    unfold topFrom
    rw [PySem.W.Fast.te14082659384304107361, PySem.W.Fast.te14364793385576792824, PySem.W.Fast.te4187177175401517315]
    kernel_rfl!
  case hw => w_witness2))
set_option maxRecDepth 100000 in
set_option maxHeartbeats 8000000 in
noncomputable def Mine.hd : (P : Prop) ×' (Mine.Box P → PySem.Challenge.rw_jh0006_01.Holds) := by
  refine' ⟨_, fun zz => ?main⟩
  case main =>
    w_on
    refine holds_law Mine.said fun said => ?_
    k_head
    exact zz.out
set_option maxRecDepth 100000
set_option maxHeartbeats 4000000
theorem Mine.top_off_p01 : True := by
  w_top off
  try walk1
  trivial
section
namespace Mine
theorem fill : (Mine.hd.heap_1 = Mine.hd.heap_1) ∧ PySem.Challenge.rw_jh0006_01 = PySem.Challenge.rw_jh0006_01 := by
  k_fill
  exact ⟨rfl, rfl⟩

structure Amb (w : World) (A A₀ : Around) (base h₀ : Heap) (env : Env) (outer : List Env) (L : Addr) (p : Program) (loose : List Str) (mean : ExcName → Option Value) (mg mb : Str → Option Value) : Prop where
  B : Below A₀ base outer h₀
  X : (Mine.hd.heap_1 w.params).In h₀
  T : Top p loose mean mg mb h₀
  hA : A.frames = some (env :: outer)
  hf : env.frame = some L
  hk : env.scope.kind = .function
  hh : A.handled = none

structure K5 where
  (h1 h2 h3 h4 h5 : Int) (t1 t2 t3 t4 t5 : Tok)
structure K6 where
  (h1 h2 h3 h4 h5 h6 : Int) (t1 t2 t3 t4 t5 t6 : Tok)
abbrev caO (q : K5) (d mru lru mx af : Value) : Obj := dictOf [⟨q.h1, .str "_cache" q.t1, d⟩, ⟨q.h2, .str "_most_recently_used" q.t2, mru⟩, ⟨q.h3, .str "_least_recently_used" q.t3, lru⟩, ⟨q.h4, .str "_max_cache" q.t4, mx⟩, ⟨q.h5, .str "_after_cleanup_count" q.t5, af⟩] 5
abbrev ndO (q : K6) (pv nk ky vl cb : Value) : Obj := dictOf [⟨q.h1, .str "prev" q.t1, pv⟩, ⟨q.h2, .str "next_key" q.t2, nk⟩, ⟨q.h3, .str "key" q.t3, ky⟩, ⟨q.h4, .str "value" q.t4, vl⟩, ⟨q.h5, .str "cleanup" q.t5, cb⟩, ⟨q.h6, .str "size" q.t6, .none⟩] 6
/-- a halt for the walk -/
def Stop (P : Prop) : Prop := P
theorem stop {P : Prop} (h : Stop P) : P := h
end Mine
end
section
namespace Mine
structure Nd where
  k : Int
  tk : Tok
  a : Addr
  da : Addr
  v : Value
  cb : Value
  q : K6

def nxk : List Nd → Value → Value
  | [], e => e
  | n :: _, _ => .int n.k n.tk
def fsR : List Nd → Value → Value
  | [], e => e
  | n :: _, _ => .ref n.a
def lsR : List Nd → Value → Value
  | [], e => e
  | n :: r, _ => lsR r (.ref n.a)

def NodeIn (news : List (Addr × Obj)) (pv nk : Value) (n : Nd) : Prop :=
  (n.a, instObj 39 n.da) ∈ news ∧ (n.da, ndO n.q pv nk (.int n.k n.tk) n.v n.cb) ∈ news
def Chain (news : List (Addr × Obj)) : Value → List Nd → Value → Prop
  | _, [], _ => True
  | pv, n :: r, e => NodeIn news pv (nxk r e) n ∧ Chain news (.ref n.a) r e

theorem nxk_append (l1 l2 : List Nd) (e : Value) : nxk (l1 ++ l2) e = nxk l1 (nxk l2 e) := by
  cases l1 <;> rfl
theorem lsR_append : ∀ (l1 l2 : List Nd) (e : Value), lsR (l1 ++ l2) e = lsR l2 (lsR l1 e)
  | [], _, _ => rfl
  | n :: r, l2, _ => lsR_append r l2 (.ref n.a)
theorem chain_append (news : List (Addr × Obj)) : ∀ (l1 l2 : List Nd) (pv e : Value), Chain news pv (l1 ++ l2) e ↔ Chain news pv l1 (nxk l2 e) ∧ Chain news (lsR l1 pv) l2 e
  | [], l2, pv, e => by simp [Chain, lsR]
  | n :: r, l2, pv, e => by
    simp only [List.cons_append, Chain, lsR, nxk_append, chain_append news r l2, and_assoc]
theorem chain_cons (news : List (Addr × Obj)) (n : Nd) (r : List Nd) (pv e : Value) : Chain news pv (n :: r) e ↔ NodeIn news pv (nxk r e) n ∧ Chain news (.ref n.a) r e := Iff.rfl
theorem chain_nil (news : List (Addr × Obj)) (pv e : Value) : Chain news pv [] e ↔ True := Iff.rfl

def offs (D : List Addr) (news : List (Addr × Obj)) : List (Addr × Obj) := news.filter fun p => !D.contains p.1
theorem mem_offs {D : List Addr} {news : List (Addr × Obj)} {p : Addr × Obj} : p ∈ offs D news ↔ p ∈ news ∧ p.1 ∉ D := by
  simp [offs, List.mem_filter]
theorem offs_off {D : List Addr} {news : List (Addr × Obj)} {a : Addr} (ha : a ∈ D) : ∀ p ∈ offs D news, p.1 ≠ a := fun _ hp e => (mem_offs.mp hp).2 (e ▸ ha)

def Kept (D : List Addr) (news news' : List (Addr × Obj)) : Prop := ∀ p ∈ news, p.1 ∉ D → p ∈ news'
theorem Kept.refl {D : List Addr} {news : List (Addr × Obj)} : Kept D news news := fun _ h _ => h
theorem Kept.trans {D D' : List Addr} {n1 n2 n3 : List (Addr × Obj)} (h : Kept D n1 n2) (h' : Kept D' n2 n3) : Kept (D ++ D') n1 n3 := fun p hp hn => by
  simp only [List.mem_append, not_or] at hn
  exact h' p (h p hp hn.1) hn.2
theorem Kept.mono {D D' : List Addr} {n1 n2 : List (Addr × Obj)} (h : Kept D n1 n2) (hs : ∀ a ∈ D, a ∈ D') : Kept D' n1 n2 := fun p hp hn => h p hp fun q => hn (hs _ q)

theorem news_sub {h₀ h : Heap} {L : Addr} {news news' : List (Addr × Obj)} (N : News h₀ L h news) (hs : ∀ p ∈ news', p ∈ news) : News h₀ L h news' := fun p hp => N p (hs p hp)
theorem news_focus {h₀ h : Heap} {L : Addr} {news : List (Addr × Obj)} (N : News h₀ L h news) (D : List Addr) (ex : List (Addr × Obj)) (hs : ∀ p ∈ ex, p ∈ news) : News h₀ L h (ex ++ offs D news) :=
  news_sub N fun p hp => (List.mem_append.mp hp).elim (hs p) fun h => (mem_offs.mp h).1
theorem news_fun {h₀ h : Heap} {L a : Addr} {news : List (Addr × Obj)} {o o' : Obj} (N : News h₀ L h news) (h1 : (a, o) ∈ news) (h2 : (a, o') ∈ news) : o = o' :=
  Option.some.inj ((N _ h1).1.symm.trans (N _ h2).1)

theorem news_ne {h₀ h : Heap} {L a b : Addr} {news : List (Addr × Obj)} {o o' : Obj} (N : News h₀ L h news) (h1 : (a, o) ∈ news) (h2 : (b, o') ∈ news) (hd : o.data ≠ o'.data) : a ≠ b := fun e => hd (by subst e; rw [news_fun N h1 h2])
theorem NodeIn.kept {D : List Addr} {news news' : List (Addr × Obj)} {pv nk : Value} {n : Nd} (K : Kept D news news') (h : NodeIn news pv nk n) (h1 : n.a ∉ D) (h2 : n.da ∉ D) : NodeIn news' pv nk n :=
  ⟨K _ h.1 h1, K _ h.2 h2⟩
theorem Chain.kept {D : List Addr} {news news' : List (Addr × Obj)} (K : Kept D news news') : ∀ {l : List Nd} {pv e : Value}, Chain news pv l e → (∀ n ∈ l, n.a ∉ D ∧ n.da ∉ D) → Chain news' pv l e
  | [], _, _, _, _ => trivial
  | n :: _, _, _, h, hd => ⟨h.1.kept K (hd n (.head _)).1 (hd n (.head _)).2, Chain.kept K h.2 fun m hm => hd m (.tail _ hm)⟩

/-- the links: the object, its dict, the chain -/
structure Links (news : List (Addr × Obj)) (x dx d : Addr) (qc : K5) (row : List Nd) (mx af : Value) : Prop where
  inst : (x, instObj 175 dx) ∈ news
  dic : (dx, caO qc (.ref d) (fsR row .none) (lsR row .none) mx af) ∈ news
  ch : Chain news .none row .none
  adr : (dx :: d :: row.map (·.da)).Nodup
  ia : (row.map (·.a)).Nodup
  ins : ∀ i ∈ x :: row.map (·.a), i ∉ dx :: d :: row.map (·.da)

def MapIn (w : World) (news : List (Addr × Obj)) (d : Addr) (row : List Nd) : Prop :=
  ∃ od kvs, (d, od) ∈ news ∧ od.IsDictOf (intKind PySem.Challenge.rw_jh0006_01.row.prog w) kvs ∧ kvs.Perm (row.map fun n => (n.k, Value.ref n.a)) ∧ (d == sysModules) = false
theorem MapIn.perm {w : World} {news : List (Addr × Obj)} {d : Addr} {row row' : List Nd} (M : MapIn w news d row) (h : row.Perm row') : MapIn w news d row' := by
  obtain ⟨od, kvs, a, b, c, e⟩ := M
  exact ⟨od, kvs, a, b, c.trans (h.map _), e⟩
theorem MapIn.kept {w : World} {D : List Addr} {news news' : List (Addr × Obj)} {d : Addr} {row : List Nd} (M : MapIn w news d row) (K : Kept D news news') (hd : d ∉ D) : MapIn w news' d row := by
  obtain ⟨od, kvs, a, b, c, e⟩ := M
  exact ⟨od, kvs, K _ a hd, b, c, e⟩
theorem MapIn.keys {w : World} {news : List (Addr × Obj)} {d : Addr} {row : List Nd} (M : MapIn w news d row) : (row.map (·.k)).Nodup := by
  obtain ⟨od, kvs, a, ⟨es, ep, _, _, _, _, hn⟩, c, e⟩ := M
  have := (c.map (·.1)).nodup_iff.mp hn
  rwa [List.map_map] at this
theorem valueAt_perm {kvs kvs' : List (Int × Value)} (hp : kvs.Perm kvs') (hn : (kvs.map (·.1)).Nodup) {k : Int} {v : Value} (h : (k, v) ∈ kvs') : valueAt kvs k = some v := by
  have hm : (k, v) ∈ kvs := hp.mem_iff.mpr h
  clear h hp
  induction kvs with
  | nil => cases hm
  | cons a r ih =>
    simp only [List.map_cons, List.nodup_cons] at hn
    unfold valueAt
    rw [List.find?_cons]
    rcases List.mem_cons.mp hm with rfl | hm
    · simp
    · have : a.1 ≠ k := fun e => hn.1 (e ▸ List.mem_map_of_mem hm)
      simp only [this, decide_false]
      exact ih hn.2 hm
theorem valueAt_none {kvs kvs' : List (Int × Value)} (hp : kvs.Perm kvs') {k : Int} (h : k ∉ kvs'.map (·.1)) : valueAt kvs k = none := by
  unfold valueAt
  rw [Option.map_eq_none_iff, List.find?_eq_none]
  intro p hm e
  exact h (List.mem_map.mpr ⟨p, hp.mem_iff.mp hm, of_decide_eq_true e⟩)
theorem isDict_nodup {prog : Program} {w : World} {od : Obj} {kvs : List (Int × Value)} (h : od.IsDictOf (intKind prog w) kvs) : (kvs.map (·.1)).Nodup := by
  obtain ⟨es, ep, _, _, _, _, hn⟩ := h
  exact hn
end Mine
end
local macro_rules | `(tactic| k_room) => `(tactic| ((try simp only [depth_under_make, depth_under_kw, depth_in1, depth_deeper]); omega))
local macro_rules | `(tactic| k_units) => `(tactic| ((try simp only [units_in1, units_deeper]); omega))
local macro_rules | `(tactic| k_ne) => `(tactic| k_dflt (exact Mine.news_ne (by k_asm) (by k_mem) (by k_mem) (by intro e; exact nomatch e)))
local macro_rules | `(tactic| k_ne) => `(tactic| with_reducible (first | assumption | exact Ne.symm (by assumption)))
local macro_rules | `(tactic| k_all) => `(tactic| with_reducible assumption)
local macro_rules | `(tactic| k_handed) => `(tactic| with_reducible assumption)
local macro_rules | `(tactic| walk_at "getItem ref int") => `(tactic| (k_here; k_dflt (refine kdt_getItem (knd := PySem.intKind _ _) (by k_asm) (by k_mem) (by k_asm) (intKind_is _ _ _ _) (by assumption) ?_)))
local macro_rules | `(tactic| k_enter) => `(tactic| (refine code_def (by k_asm) (by k_asm) (by k_asm) (by k_asm) (by k_asm) (by first | assumption | exact Around.frames_deeper (by assumption) | exact rfl) (by first | assumption | exact rfl) (by first | assumption | exact rfl) (by k_is) (by k_is) (by k_room) (by first | exact BindsTo.of_eq rfl | exact binds_K (by k_in) rfl (by k_is) rfl rfl rfl) (by exact locs rfl) ?_ (by exact rfl) (by exact rfl) (by exact rfl) (by decide); k_whole; intro g' L' h' FG' F' N' B' X' T'; (try dsimp only); (try k_fold)))

local macro_rules | `(tactic| k_mem) => `(tactic| with_reducible assumption)
local macro_rules | `(tactic| walk_at "call builtin:len") => `(tactic| (k_here; k_dflt (refine kda_len (knd := PySem.intKind _ _) (by k_asm) (by k_mem) (by assumption) (by assumption) (by assumption) ?_)))
local macro_rules | `(tactic| walk_at "call builtin:min") => `(tactic| (k_here; k_dflt (refine min_two_N (by assumption) (by k_asm) (by k_asm) ?_; intro h' tk' F' N'; (try dsimp only))))
local macro_rules | `(tactic| walk_at "subscriptTail") => `(tactic| (k_here; k_dflt (refine kdt_tail (knd := PySem.intKind _ _) (by k_asm) (by k_mem) (by assumption) ?_)))
theorem Mine.top_off_p03 : True := by
  w_top off
  try walk1
  trivial
section
namespace Mine
section
variable {w : World} {A A₀ : Around} {base h₀ : Heap} {env : Env} {outer : List Env} {L : Addr} {p : Program} {loose : List Str} {mean : ExcName → Option Value} {mg mb m : Str → Option Value} {s : Shared} {news rest : List (Addr × Obj)} {R : Result → Shared → Prop}
variable {x dx d n dn pr dp q dq mr dm lr dl : Addr} {qc : K5} {qn qp qq qm : K6} {mxv afv : Value} {od : Obj} {kvs : List (Int × Value)} {kn kp kq km : Int} {tn tp tq tm : Tok} {vn cn pvp vp cp nkq vq cq nkm vm cm kpv : Value}
theorem ra_A (AM : Amb w A A₀ base h₀ env outer L p loose mean mg mb) (F : Fr h₀ L s.heap m)
    (N : News h₀ L s.heap ((x, instObj 175 dx) :: (dx, caO qc (.ref d) (.ref pr) (.ref n) mxv afv) :: (d, od) :: (n, instObj 39 dn) :: (dn, ndO qn (.ref pr) .none (.int kn tn) vn cn) :: (pr, instObj 39 dp) :: (dp, ndO qp .none (.int kn tn) (.int kp tp) vp cp) :: rest))
    (hD : [dx, dp, dn].Nodup) (hI : ∀ a ∈ [dx, dp, dn], x ≠ a ∧ d ≠ a ∧ n ≠ a ∧ pr ≠ a) (hR : ∀ a ∈ [dx, dp, dn], ∀ p ∈ rest, p.1 ≠ a) (n_pr : n ≠ pr) (hd : A.depth + 10 < recursionLimit)
    (h : ∀ h' tk, Fr h₀ L h' m → News h₀ L h' ((x, instObj 175 dx) :: (dx, caO qc (.ref d) (.ref n) (.ref pr) mxv afv) :: (d, od) :: (n, instObj 39 dn) :: (dn, ndO qn .none (.int kp tp) (.int kn tn) vn cn) :: (pr, instObj 39 dp) :: (dp, ndO qp (.ref n) .none (.int kp tp) vp cp) :: rest) → R (.ok (.ret .none)) { s with heap := h', toks := tk }) :
    codeAny (model PySem.Challenge.rw_jh0006_01.row.prog w) A (.call (.ref 135) ⟨[.ref x, .ref n], []⟩) R s := by
  obtain ⟨B, X, T, hA, hf, hk, hh⟩ := AM
  simp only [List.forall_mem_cons, List.not_mem_nil, false_implies, implies_true, and_true] at hR hI
  simp only [List.nodup_cons, List.mem_cons, List.not_mem_nil, or_false, not_or, List.nodup_nil, and_true, not_false_eq_true] at hD
  obtain ⟨⟨_, _⟩, _⟩ := hD
  obtain ⟨⟨_, _, _, _⟩, ⟨_, _, _, _⟩, ⟨_, _, _, _⟩⟩ := hI
  obtain ⟨_, _, _⟩ := hR
  k_enter
  k_steps
  exact h _ _ (by assumption) (by assumption)
theorem ra_B (AM : Amb w A A₀ base h₀ env outer L p loose mean mg mb) (F : Fr h₀ L s.heap m)
    (N : News h₀ L s.heap ((x, instObj 175 dx) :: (dx, caO qc (.ref d) (.ref pr) (.ref lr) mxv afv) :: (d, od) :: (n, instObj 39 dn) :: (dn, ndO qn (.ref pr) (.int kq tq) (.int kn tn) vn cn) :: (pr, instObj 39 dp) :: (dp, ndO qp .none (.int kn tn) (.int kp tp) vp cp) :: (q, instObj 39 dq) :: (dq, ndO qq (.ref n) nkq (.int kq tq) vq cq) :: (lr, instObj 39 dl) :: rest))
    (hD : [dx, dp, dn, dq].Nodup) (hI : ∀ a ∈ [dx, dp, dn, dq], x ≠ a ∧ d ≠ a ∧ n ≠ a ∧ pr ≠ a ∧ q ≠ a ∧ lr ≠ a) (hR : ∀ a ∈ [dx, dp, dn, dq], ∀ p ∈ rest, p.1 ≠ a) (n_pr : n ≠ pr) (n_lr : n ≠ lr) (hd : A.depth + 10 < recursionLimit) (hod : od.IsDictOf (intKind PySem.Challenge.rw_jh0006_01.row.prog w) kvs) (hv : valueAt kvs kq = some (.ref q))
    (h : ∀ h' tk, Fr h₀ L h' m → News h₀ L h' ((x, instObj 175 dx) :: (dx, caO qc (.ref d) (.ref n) (.ref lr) mxv afv) :: (d, od) :: (n, instObj 39 dn) :: (dn, ndO qn .none (.int kp tp) (.int kn tn) vn cn) :: (pr, instObj 39 dp) :: (dp, ndO qp (.ref n) (.int kq tq) (.int kp tp) vp cp) :: (q, instObj 39 dq) :: (dq, ndO qq (.ref pr) nkq (.int kq tq) vq cq) :: (lr, instObj 39 dl) :: rest) → R (.ok (.ret .none)) { s with heap := h', toks := tk }) :
    codeAny (model PySem.Challenge.rw_jh0006_01.row.prog w) A (.call (.ref 135) ⟨[.ref x, .ref n], []⟩) R s := by
  obtain ⟨B, X, T, hA, hf, hk, hh⟩ := AM
  simp only [List.forall_mem_cons, List.not_mem_nil, false_implies, implies_true, and_true] at hR hI
  simp only [List.nodup_cons, List.mem_cons, List.not_mem_nil, or_false, not_or, List.nodup_nil, and_true, not_false_eq_true] at hD
  obtain ⟨⟨_, _, _⟩, ⟨_, _⟩, _⟩ := hD
  obtain ⟨⟨_, _, _, _, _, _⟩, ⟨_, _, _, _, _, _⟩, ⟨_, _, _, _, _, _⟩, ⟨_, _, _, _, _, _⟩⟩ := hI
  obtain ⟨_, _, _, _⟩ := hR
  k_enter
  k_steps
  exact h _ _ (by assumption) (by assumption)
theorem ra_C (AM : Amb w A A₀ base h₀ env outer L p loose mean mg mb) (F : Fr h₀ L s.heap m)
    (N : News h₀ L s.heap ((x, instObj 175 dx) :: (dx, caO qc (.ref d) (.ref mr) (.ref n) mxv afv) :: (d, od) :: (n, instObj 39 dn) :: (dn, ndO qn (.ref pr) .none (.int kn tn) vn cn) :: (pr, instObj 39 dp) :: (dp, ndO qp pvp (.int kn tn) (.int kp tp) vp cp) :: (mr, instObj 39 dm) :: (dm, ndO qm .none nkm (.int km tm) vm cm) :: rest))
    (hD : [dx, dm, dp, dn].Nodup) (hI : ∀ a ∈ [dx, dm, dp, dn], x ≠ a ∧ d ≠ a ∧ n ≠ a ∧ pr ≠ a ∧ mr ≠ a) (hR : ∀ a ∈ [dx, dm, dp, dn], ∀ p ∈ rest, p.1 ≠ a) (n_mr : n ≠ mr) (hd : A.depth + 10 < recursionLimit)
    (h : ∀ h' tk, Fr h₀ L h' m → News h₀ L h' ((x, instObj 175 dx) :: (dx, caO qc (.ref d) (.ref n) (.ref pr) mxv afv) :: (d, od) :: (n, instObj 39 dn) :: (dn, ndO qn .none (.int km tm) (.int kn tn) vn cn) :: (pr, instObj 39 dp) :: (dp, ndO qp pvp .none (.int kp tp) vp cp) :: (mr, instObj 39 dm) :: (dm, ndO qm (.ref n) nkm (.int km tm) vm cm) :: rest) → R (.ok (.ret .none)) { s with heap := h', toks := tk }) :
    codeAny (model PySem.Challenge.rw_jh0006_01.row.prog w) A (.call (.ref 135) ⟨[.ref x, .ref n], []⟩) R s := by
  obtain ⟨B, X, T, hA, hf, hk, hh⟩ := AM
  simp only [List.forall_mem_cons, List.not_mem_nil, false_implies, implies_true, and_true] at hR hI
  simp only [List.nodup_cons, List.mem_cons, List.not_mem_nil, or_false, not_or, List.nodup_nil, and_true, not_false_eq_true] at hD
  obtain ⟨⟨_, _, _⟩, ⟨_, _⟩, _⟩ := hD
  obtain ⟨⟨_, _, _, _, _⟩, ⟨_, _, _, _, _⟩, ⟨_, _, _, _, _⟩, ⟨_, _, _, _, _⟩⟩ := hI
  obtain ⟨_, _, _, _⟩ := hR
  k_enter
  k_steps
  exact h _ _ (by assumption) (by assumption)
theorem ra_D (AM : Amb w A A₀ base h₀ env outer L p loose mean mg mb) (F : Fr h₀ L s.heap m)
    (N : News h₀ L s.heap ((x, instObj 175 dx) :: (dx, caO qc (.ref d) (.ref mr) (.ref lr) mxv afv) :: (d, od) :: (n, instObj 39 dn) :: (dn, ndO qn (.ref pr) (.int kq tq) (.int kn tn) vn cn) :: (pr, instObj 39 dp) :: (dp, ndO qp pvp (.int kn tn) (.int kp tp) vp cp) :: (q, instObj 39 dq) :: (dq, ndO qq (.ref n) nkq (.int kq tq) vq cq) :: (mr, instObj 39 dm) :: (dm, ndO qm .none nkm (.int km tm) vm cm) :: (lr, instObj 39 dl) :: rest))
    (hD : [dx, dm, dp, dn, dq].Nodup) (hI : ∀ a ∈ [dx, dm, dp, dn, dq], x ≠ a ∧ d ≠ a ∧ n ≠ a ∧ pr ≠ a ∧ q ≠ a ∧ mr ≠ a ∧ lr ≠ a) (hR : ∀ a ∈ [dx, dm, dp, dn, dq], ∀ p ∈ rest, p.1 ≠ a) (n_mr : n ≠ mr) (n_lr : n ≠ lr) (hd : A.depth + 10 < recursionLimit) (hod : od.IsDictOf (intKind PySem.Challenge.rw_jh0006_01.row.prog w) kvs) (hv : valueAt kvs kq = some (.ref q))
    (h : ∀ h' tk, Fr h₀ L h' m → News h₀ L h' ((x, instObj 175 dx) :: (dx, caO qc (.ref d) (.ref n) (.ref lr) mxv afv) :: (d, od) :: (n, instObj 39 dn) :: (dn, ndO qn .none (.int km tm) (.int kn tn) vn cn) :: (pr, instObj 39 dp) :: (dp, ndO qp pvp (.int kq tq) (.int kp tp) vp cp) :: (q, instObj 39 dq) :: (dq, ndO qq (.ref pr) nkq (.int kq tq) vq cq) :: (mr, instObj 39 dm) :: (dm, ndO qm (.ref n) nkm (.int km tm) vm cm) :: (lr, instObj 39 dl) :: rest) → R (.ok (.ret .none)) { s with heap := h', toks := tk }) :
    codeAny (model PySem.Challenge.rw_jh0006_01.row.prog w) A (.call (.ref 135) ⟨[.ref x, .ref n], []⟩) R s := by
  obtain ⟨B, X, T, hA, hf, hk, hh⟩ := AM
  simp only [List.forall_mem_cons, List.not_mem_nil, false_implies, implies_true, and_true] at hR hI
  simp only [List.nodup_cons, List.mem_cons, List.not_mem_nil, or_false, not_or, List.nodup_nil, and_true, not_false_eq_true] at hD
  obtain ⟨⟨_, _, _, _⟩, ⟨_, _, _⟩, ⟨_, _⟩, _⟩ := hD
  obtain ⟨⟨_, _, _, _, _, _, _⟩, ⟨_, _, _, _, _, _, _⟩, ⟨_, _, _, _, _, _, _⟩, ⟨_, _, _, _, _, _, _⟩, ⟨_, _, _, _, _, _, _⟩⟩ := hI
  obtain ⟨_, _, _, _, _⟩ := hR
  k_enter
  k_steps
  exact h _ _ (by assumption) (by assumption)
theorem ra_E (AM : Amb w A A₀ base h₀ env outer L p loose mean mg mb) (F : Fr h₀ L s.heap m)
    (N : News h₀ L s.heap ((x, instObj 175 dx) :: (dx, caO qc (.ref d) .none .none mxv afv) :: (n, instObj 39 dn) :: rest))
    (hD : [dx].Nodup) (hI : ∀ a ∈ [dx], x ≠ a ∧ n ≠ a) (hR : ∀ a ∈ [dx], ∀ p ∈ rest, p.1 ≠ a) (hd : A.depth + 10 < recursionLimit)
    (h : ∀ h' tk, Fr h₀ L h' m → News h₀ L h' ((x, instObj 175 dx) :: (dx, caO qc (.ref d) (.ref n) (.ref n) mxv afv) :: (n, instObj 39 dn) :: rest) → R (.ok (.ret .none)) { s with heap := h', toks := tk }) :
    codeAny (model PySem.Challenge.rw_jh0006_01.row.prog w) A (.call (.ref 135) ⟨[.ref x, .ref n], []⟩) R s := by
  obtain ⟨B, X, T, hA, hf, hk, hh⟩ := AM
  simp only [List.forall_mem_cons, List.not_mem_nil, false_implies, implies_true, and_true] at hR hI
  obtain ⟨_, _⟩ := hI
  k_enter
  k_steps
  exact h _ _ (by assumption) (by assumption)
theorem ra_F (AM : Amb w A A₀ base h₀ env outer L p loose mean mg mb) (F : Fr h₀ L s.heap m)
    (N : News h₀ L s.heap ((x, instObj 175 dx) :: (dx, caO qc (.ref d) (.ref mr) (.ref lr) mxv afv) :: (n, instObj 39 dn) :: (dn, ndO qn .none .none (.int kn tn) vn cn) :: (mr, instObj 39 dm) :: (dm, ndO qm .none nkm (.int km tm) vm cm) :: (lr, instObj 39 dl) :: rest))
    (hD : [dx, dn, dm].Nodup) (hI : ∀ a ∈ [dx, dn, dm], x ≠ a ∧ n ≠ a ∧ mr ≠ a ∧ lr ≠ a) (hR : ∀ a ∈ [dx, dn, dm], ∀ p ∈ rest, p.1 ≠ a) (n_mr : n ≠ mr) (n_lr : n ≠ lr) (hd : A.depth + 10 < recursionLimit)
    (h : ∀ h' tk, Fr h₀ L h' m → News h₀ L h' ((x, instObj 175 dx) :: (dx, caO qc (.ref d) (.ref n) (.ref lr) mxv afv) :: (n, instObj 39 dn) :: (dn, ndO qn .none (.int km tm) (.int kn tn) vn cn) :: (mr, instObj 39 dm) :: (dm, ndO qm (.ref n) nkm (.int km tm) vm cm) :: (lr, instObj 39 dl) :: rest) → R (.ok (.ret .none)) { s with heap := h', toks := tk }) :
    codeAny (model PySem.Challenge.rw_jh0006_01.row.prog w) A (.call (.ref 135) ⟨[.ref x, .ref n], []⟩) R s := by
  obtain ⟨B, X, T, hA, hf, hk, hh⟩ := AM
  simp only [List.forall_mem_cons, List.not_mem_nil, false_implies, implies_true, and_true] at hR hI
  simp only [List.nodup_cons, List.mem_cons, List.not_mem_nil, or_false, not_or, List.nodup_nil, and_true, not_false_eq_true] at hD
  obtain ⟨⟨_, _⟩, _⟩ := hD
  obtain ⟨⟨_, _, _, _⟩, ⟨_, _, _, _⟩, ⟨_, _, _, _⟩⟩ := hI
  obtain ⟨_, _, _⟩ := hR
  k_enter
  k_steps
  exact h _ _ (by assumption) (by assumption)
theorem ra_G (AM : Amb w A A₀ base h₀ env outer L p loose mean mg mb) (F : Fr h₀ L s.heap m)
    (N : News h₀ L s.heap ((x, instObj 175 dx) :: (dx, caO qc (.ref d) (.ref n) (.ref lr) mxv afv) :: (n, instObj 39 dn) :: rest))
    (hD : [dx].Nodup) (hI : ∀ a ∈ [dx], x ≠ a ∧ n ≠ a) (hR : ∀ a ∈ [dx], ∀ p ∈ rest, p.1 ≠ a) (hd : A.depth + 10 < recursionLimit)
    (h : ∀ h' tk, Fr h₀ L h' m → News h₀ L h' ((x, instObj 175 dx) :: (dx, caO qc (.ref d) (.ref n) (.ref lr) mxv afv) :: (n, instObj 39 dn) :: rest) → R (.ok (.ret .none)) { s with heap := h', toks := tk }) :
    codeAny (model PySem.Challenge.rw_jh0006_01.row.prog w) A (.call (.ref 135) ⟨[.ref x, .ref n], []⟩) R s := by
  obtain ⟨B, X, T, hA, hf, hk, hh⟩ := AM
  simp only [List.forall_mem_cons, List.not_mem_nil, false_implies, implies_true, and_true] at hR hI
  obtain ⟨_, _⟩ := hI
  k_enter
  k_steps
  exact h _ _ (by assumption) (by assumption)
end
end Mine
end
section
set_option maxHeartbeats 400000
namespace Mine
theorem lsR_ref : ∀ (l : List Nd) (a : Addr), ∃ b, lsR l (.ref a) = .ref b ∧ (b = a ∧ l = [] ∨ ∃ n ∈ l, n.a = b)
  | [], a => ⟨a, rfl, .inl ⟨rfl, rfl⟩⟩
  | n :: r, _ => by
    obtain ⟨b, e, h⟩ := lsR_ref r n.a
    refine ⟨b, e, .inr ?_⟩
    rcases h with ⟨rfl, _⟩ | ⟨x, hx, rfl⟩
    · exact ⟨n, .head _, rfl⟩
    · exact ⟨x, .tail _ hx, rfl⟩
theorem chain_inst {news : List (Addr × Obj)} : ∀ {l : List Nd} {pv e : Value}, Chain news pv l e → ∀ n ∈ l, (n.a, instObj 39 n.da) ∈ news := by
  intro l
  induction l with
  | nil => intro pv e _ n hn; exact absurd hn (by simp)
  | cons n r ih =>
    intro pv e h n' hn'
    rcases List.mem_cons.mp hn' with rfl | hm
    · exact h.1.1
    · exact ih h.2 n' hm
theorem MapIn.at {w : World} {news : List (Addr × Obj)} {d : Addr} {row : List Nd} (M : MapIn w news d row) {n : Nd} (hn : n ∈ row) :
    ∃ od kvs, (d, od) ∈ news ∧ od.IsDictOf (intKind PySem.Challenge.rw_jh0006_01.row.prog w) kvs ∧ valueAt kvs n.k = some (.ref n.a) := by
  obtain ⟨od, kvs, a, b, c, e⟩ := M
  exact ⟨od, kvs, a, b, valueAt_perm c (isDict_nodup b) (List.mem_map_of_mem hn)⟩
theorem Links.sep {news : List (Addr × Obj)} {x dx d : Addr} {qc : K5} {row : List Nd} {mx af : Value} (I : Links news x dx d qc row mx af) {D : List Addr} (hD : ∀ a ∈ D, a ∈ dx :: d :: row.map (·.da)) {i : Addr} (hi : i ∈ x :: row.map (·.a)) : ∀ a ∈ D, i ≠ a :=
  fun a ha e => I.ins i hi (e ▸ hD a ha)
theorem Links.dsep {news : List (Addr × Obj)} {x dx d : Addr} {qc : K5} {row : List Nd} {mx af : Value} (I : Links news x dx d qc row mx af) {D : List Addr} (hD : ∀ a ∈ D, a ∈ dx :: row.map (·.da)) : ∀ a ∈ D, d ≠ a := fun a ha e => by
  have h1 := I.adr
  simp only [List.nodup_cons, List.mem_cons, not_or] at h1
  rcases List.mem_cons.mp (hD a ha) with rfl | hm
  · exact h1.1.1 e.symm
  · exact h1.2.1 (e ▸ hm)
theorem in3 {dx d : Addr} {D row : List Addr} (h : ∀ a ∈ D, a ∈ dx :: row) : ∀ a ∈ D, a ∈ dx :: d :: row := fun a ha => (List.mem_cons.mp (h a ha)).elim (fun e => e ▸ .head _) fun h => .tail _ (.tail _ h)
theorem Links.perm3 {news : List (Addr × Obj)} {x dx d : Addr} {qc : K5} {row row' : List Nd} {mx af : Value} (I : Links news x dx d qc row mx af) (hp : row.Perm row') :
    (dx :: d :: row'.map (·.da)).Nodup ∧ (row'.map (·.a)).Nodup ∧ ∀ i ∈ x :: row'.map (·.a), i ∉ dx :: d :: row'.map (·.da) :=
  ⟨(((hp.map _).cons _).cons _).nodup_iff.mp I.adr, (hp.map _).nodup_iff.mp I.ia, fun i hi hq => I.ins i (((hp.map _).cons _).mem_iff.mpr hi) ((((hp.map _).cons _).cons _).mem_iff.mpr hq)⟩
theorem kept_app {D : List Addr} {news ex : List (Addr × Obj)} : Kept D news (ex ++ offs D news) := fun _ hp hn => List.mem_append_right _ (mem_offs.mpr ⟨hp, hn⟩)
theorem chain_keptL {news news' : List (Addr × Obj)} {x dx d : Addr} {qc : K5} {row : List Nd} {mx af : Value} (I : Links news x dx d qc row mx af) {D : List Addr} (hD : ∀ a ∈ D, a ∈ dx :: row.map (·.da)) (K : Kept D news news')
    {l : List Nd} {pv e : Value} (h : Chain news pv l e) (hl : ∀ n ∈ l, n ∈ row) (hn : ∀ n ∈ l, n.da ∉ D) : Chain news' pv l e :=
  h.kept K fun n hm => ⟨fun q => I.ins n.a (.tail _ (List.mem_map_of_mem (hl n hm))) (in3 hD _ q), hn n hm⟩
section
variable {w : World} {A A₀ : Around} {base h₀ : Heap} {env : Env} {outer : List Env} {L : Addr} {p : Program} {loose : List Str} {mean : ExcName → Option Value} {mg mb m : Str → Option Value} {s : Shared} {news : List (Addr × Obj)} {R : Result → Shared → Prop}
variable {x dx d : Addr} {qc : K5} {mx af : Value}

theorem abs_A {p1 n : Nd} {hp : Heap} {G : Prop} {Rr : Heap → Nat → Prop} (N : News h₀ L hp news)
    (I : Links news x dx d qc ([p1, n]) mx af) {od : Obj} (Md : (d, od) ∈ news)
    (h : ∀ h' tk news', Fr h₀ L h' m → News h₀ L h' news' → Links news' x dx d qc ([n, p1]) mx af → Kept (dx :: ([p1, n]).map (·.da)) news news' → Rr h' tk)
    (walk : News h₀ L hp ([(x, instObj 175 dx), (dx, caO qc (.ref d) (.ref p1.a) (.ref n.a) mx af), (d, od), (n.a, instObj 39 n.da), (n.da, ndO n.q (.ref p1.a) .none (.int n.k n.tk) n.v n.cb), (p1.a, instObj 39 p1.da), (p1.da, ndO p1.q .none (.int n.k n.tk) (.int p1.k p1.tk) p1.v p1.cb)] ++ offs [dx, p1.da, n.da] news) → [dx, p1.da, n.da].Nodup → (∀ a ∈ [dx, p1.da, n.da], x ≠ a ∧ d ≠ a ∧ n.a ≠ a ∧ p1.a ≠ a) → (∀ a ∈ [dx, p1.da, n.da], ∀ p ∈ offs [dx, p1.da, n.da] news, p.1 ≠ a) → n.a ≠ p1.a → (∀ h' tk, Fr h₀ L h' m → News h₀ L h' ([(x, instObj 175 dx), (dx, caO qc (.ref d) (.ref n.a) (.ref p1.a) mx af), (d, od), (n.a, instObj 39 n.da), (n.da, ndO n.q .none (.int p1.k p1.tk) (.int n.k n.tk) n.v n.cb), (p1.a, instObj 39 p1.da), (p1.da, ndO p1.q (.ref n.a) .none (.int p1.k p1.tk) p1.v p1.cb)] ++ offs [dx, p1.da, n.da] news) → Rr h' tk) → G) : G := by
  have I' := I
  obtain ⟨i1, i2, ⟨⟨j1, j2⟩, ⟨j3, j4⟩, _⟩, i4, i5, i6⟩ := I
  have hs : ∀ a ∈ [dx, p1.da, n.da], a ∈ dx :: [p1, n].map (·.da) := fun a h => h
  have hD : [dx, p1.da, n.da].Nodup := i4.sublist (by simp)
  have hna : n.a ≠ p1.a := by simpa [eq_comm] using i5
  refine walk
    (news_focus N [dx, p1.da, n.da] [(x, instObj 175 dx), (dx, caO qc (.ref d) (.ref p1.a) (.ref n.a) mx af), (d, od), (n.a, instObj 39 n.da), (n.da, ndO n.q (.ref p1.a) .none (.int n.k n.tk) n.v n.cb), (p1.a, instObj 39 p1.da), (p1.da, ndO p1.q .none (.int n.k n.tk) (.int p1.k p1.tk) p1.v p1.cb)] ?_)
    hD (fun a ha => ⟨I'.sep (in3 hs) (by simp) a ha, I'.dsep hs a ha, I'.sep (in3 hs) (by simp) a ha, I'.sep (in3 hs) (by simp) a ha⟩) (fun a ha => offs_off ha) hna (fun h' tk F' N' => h h' tk _ F' N' ?_ (Kept.mono (kept_app (ex := [_, _, _, _, _, _, _])) hs))
  · simp only [List.forall_mem_cons]
    exact ⟨i1, i2, Md, j3, j4, j1, j2, fun _ h => nomatch h⟩
  · obtain ⟨a1, a2, a3⟩ := I'.perm3 (List.Perm.swap n p1 [])
    exact ⟨by k_mem, by k_mem, ⟨⟨by k_mem, by k_mem⟩, ⟨by k_mem, by k_mem⟩, trivial⟩, a1, a2, a3⟩
theorem C_ra_A {p1 n : Nd} (AM : Amb w A A₀ base h₀ env outer L p loose mean mg mb) (F : Fr h₀ L s.heap m) (N : News h₀ L s.heap news) (hd : A.depth + 10 < recursionLimit)
    (I : Links news x dx d qc ([p1, n]) mx af) {od : Obj} (Md : (d, od) ∈ news)
    (h : ∀ h' tk news', Fr h₀ L h' m → News h₀ L h' news' → Links news' x dx d qc ([n, p1]) mx af → Kept (dx :: ([p1, n]).map (·.da)) news news' → R (.ok (.ret .none)) { s with heap := h', toks := tk }) :
    codeAny (model PySem.Challenge.rw_jh0006_01.row.prog w) A (.call (.ref 135) ⟨[.ref x, .ref n.a], []⟩) R s := by
  exact abs_A N I Md h fun N1 d1 d2 d3 e0 k => ra_A (x := x) (dx := dx) (d := d) (n := n.a) (dn := n.da) (pr := p1.a) (dp := p1.da) (rest := offs [dx, p1.da, n.da] news) AM F N1 d1 d2 d3 e0 hd k
theorem abs_B {p1 n q : Nd} {l2 : List Nd} {hp : Heap} {G : Prop} {Rr : Heap → Nat → Prop} (N : News h₀ L hp news)
    (I : Links news x dx d qc (p1 :: n :: q :: l2) mx af) {od : Obj} (Md : (d, od) ∈ news)
    (h : ∀ h' tk news', Fr h₀ L h' m → News h₀ L h' news' → Links news' x dx d qc (n :: p1 :: q :: l2) mx af → Kept (dx :: (p1 :: n :: q :: l2).map (·.da)) news news' → Rr h' tk)
    (walk : ∀ nl : Nd, News h₀ L hp ([(x, instObj 175 dx), (dx, caO qc (.ref d) (.ref p1.a) (.ref nl.a) mx af), (d, od), (n.a, instObj 39 n.da), (n.da, ndO n.q (.ref p1.a) (.int q.k q.tk) (.int n.k n.tk) n.v n.cb), (p1.a, instObj 39 p1.da), (p1.da, ndO p1.q .none (.int n.k n.tk) (.int p1.k p1.tk) p1.v p1.cb), (q.a, instObj 39 q.da), (q.da, ndO q.q (.ref n.a) (nxk l2 .none) (.int q.k q.tk) q.v q.cb), (nl.a, instObj 39 nl.da)] ++ offs [dx, p1.da, n.da, q.da] news) → [dx, p1.da, n.da, q.da].Nodup → (∀ a ∈ [dx, p1.da, n.da, q.da], x ≠ a ∧ d ≠ a ∧ n.a ≠ a ∧ p1.a ≠ a ∧ q.a ≠ a ∧ nl.a ≠ a) → (∀ a ∈ [dx, p1.da, n.da, q.da], ∀ p ∈ offs [dx, p1.da, n.da, q.da] news, p.1 ≠ a) → n.a ≠ p1.a → n.a ≠ nl.a → (∀ h' tk, Fr h₀ L h' m → News h₀ L h' ([(x, instObj 175 dx), (dx, caO qc (.ref d) (.ref n.a) (.ref nl.a) mx af), (d, od), (n.a, instObj 39 n.da), (n.da, ndO n.q .none (.int p1.k p1.tk) (.int n.k n.tk) n.v n.cb), (p1.a, instObj 39 p1.da), (p1.da, ndO p1.q (.ref n.a) (.int q.k q.tk) (.int p1.k p1.tk) p1.v p1.cb), (q.a, instObj 39 q.da), (q.da, ndO q.q (.ref p1.a) (nxk l2 .none) (.int q.k q.tk) q.v q.cb), (nl.a, instObj 39 nl.da)] ++ offs [dx, p1.da, n.da, q.da] news) → Rr h' tk) → G) : G := by
  have I' := I
  obtain ⟨i1, i2, ⟨⟨j1, j2⟩, ⟨j3, j4⟩, ⟨j5, j6⟩, j7⟩, i4, i5, i6⟩ := I
  obtain ⟨lr, e, hlr⟩ := lsR_ref l2 q.a
  have i2 : (dx, caO qc (.ref d) (.ref p1.a) (.ref lr) mx af) ∈ news := e ▸ i2
  have hs : ∀ a ∈ [dx, p1.da, n.da, q.da], a ∈ dx :: (p1 :: n :: q :: l2).map (·.da) := by simp
  have hD : [dx, p1.da, n.da, q.da].Nodup := i4.sublist (by simp)
  have hna : n.a ≠ p1.a := by simp only [List.map_cons, List.nodup_cons, List.mem_cons, not_or] at i5; exact Ne.symm i5.1.1
  have hin : lr ∈ (q :: l2).map (·.a) := by rcases hlr with ⟨rfl, _⟩ | ⟨b, hb, rfl⟩; exact .head _; exact .tail _ (List.mem_map_of_mem hb)
  have hnl : n.a ≠ lr := by simp only [List.map_cons (l := n :: q :: l2), List.map_cons (l := q :: l2), List.nodup_cons] at i5; exact fun q => i5.2.1 (q ▸ hin)
  obtain ⟨nl, hnl1, rfl⟩ := List.mem_map.mp hin
  have jl : (nl.a, instObj 39 nl.da) ∈ news := by rcases List.mem_cons.mp hnl1 with rfl | hb; exact j5; exact chain_inst j7 nl hb
  refine walk nl
    (news_focus N [dx, p1.da, n.da, q.da] [(x, instObj 175 dx), (dx, caO qc (.ref d) (.ref p1.a) (.ref nl.a) mx af), (d, od), (n.a, instObj 39 n.da), (n.da, ndO n.q (.ref p1.a) (.int q.k q.tk) (.int n.k n.tk) n.v n.cb), (p1.a, instObj 39 p1.da), (p1.da, ndO p1.q .none (.int n.k n.tk) (.int p1.k p1.tk) p1.v p1.cb), (q.a, instObj 39 q.da), (q.da, ndO q.q (.ref n.a) (nxk l2 .none) (.int q.k q.tk) q.v q.cb), (nl.a, instObj 39 nl.da)] ?_)
    hD (fun a ha => ⟨I'.sep (in3 hs) (by simp) a ha, I'.dsep hs a ha, I'.sep (in3 hs) (by simp) a ha, I'.sep (in3 hs) (by simp) a ha, I'.sep (in3 hs) (by simp) a ha, I'.sep (in3 hs) (.tail _ (.tail _ (.tail _ hin))) a ha⟩) (fun a ha => offs_off ha) hna hnl (fun h' tk F' N' => h h' tk _ F' N' ?_ (Kept.mono (kept_app (ex := [_, _, _, _, _, _, _, _, _, _])) hs))
  · simp only [List.forall_mem_cons]
    exact ⟨i1, i2, Md, j3, j4, j1, j2, j5, j6, jl, fun _ h => nomatch h⟩
  · obtain ⟨a1, a2, a3⟩ := I'.perm3 (List.Perm.swap n p1 (q :: l2))
    have hl2 := chain_keptL I' hs (kept_app (ex := [(x, instObj 175 dx), (dx, caO qc (.ref d) (.ref n.a) (.ref nl.a) mx af), (d, od), (n.a, instObj 39 n.da), (n.da, ndO n.q .none (.int p1.k p1.tk) (.int n.k n.tk) n.v n.cb), (p1.a, instObj 39 p1.da), (p1.da, ndO p1.q (.ref n.a) (.int q.k q.tk) (.int p1.k p1.tk) p1.v p1.cb), (q.a, instObj 39 q.da), (q.da, ndO q.q (.ref p1.a) (nxk l2 .none) (.int q.k q.tk) q.v q.cb), (nl.a, instObj 39 nl.da)])) j7 (by simp +contextual) ?_
    · refine ⟨by k_mem, ?_, ⟨⟨by k_mem, by k_mem⟩, ⟨by k_mem, by k_mem⟩, ⟨by k_mem, by k_mem⟩, hl2⟩, a1, a2, a3⟩
      show (dx, caO qc (.ref d) (.ref n.a) (lsR l2 (.ref q.a)) mx af) ∈ _
      rw [e]; k_mem
    · intro k hk hq
      simp only [List.map_cons, List.nodup_cons, List.mem_cons, not_or] at i4
      have hk' := List.mem_map_of_mem (f := (·.da)) hk
      simp only [List.mem_cons, List.not_mem_nil, or_false] at hq
      rcases hq with q | q | q | q <;> rw [q] at hk' <;> grind
theorem C_ra_B {p1 n q : Nd} {l2 : List Nd} (AM : Amb w A A₀ base h₀ env outer L p loose mean mg mb) (F : Fr h₀ L s.heap m) (N : News h₀ L s.heap news) (hd : A.depth + 10 < recursionLimit)
    (I : Links news x dx d qc (p1 :: n :: q :: l2) mx af) {od : Obj} {kvs : List (Int × Value)} (Md : (d, od) ∈ news) (hod : od.IsDictOf (intKind PySem.Challenge.rw_jh0006_01.row.prog w) kvs) (hv : valueAt kvs q.k = some (.ref q.a))
    (h : ∀ h' tk news', Fr h₀ L h' m → News h₀ L h' news' → Links news' x dx d qc (n :: p1 :: q :: l2) mx af → Kept (dx :: (p1 :: n :: q :: l2).map (·.da)) news news' → R (.ok (.ret .none)) { s with heap := h', toks := tk }) :
    codeAny (model PySem.Challenge.rw_jh0006_01.row.prog w) A (.call (.ref 135) ⟨[.ref x, .ref n.a], []⟩) R s := by
  exact abs_B N I Md h fun nl N1 d1 d2 d3 e0 e1 k => ra_B (x := x) (dx := dx) (d := d) (n := n.a) (dn := n.da) (pr := p1.a) (dp := p1.da) (q := q.a) (dq := q.da) (lr := nl.a) (dl := nl.da) (rest := offs [dx, p1.da, n.da, q.da] news) AM F N1 d1 d2 d3 e0 e1 hd hod hv k
theorem abs_C {m1 p1 n : Nd} {mid : List Nd} {hp : Heap} {G : Prop} {Rr : Heap → Nat → Prop} (N : News h₀ L hp news)
    (I : Links news x dx d qc (m1 :: (mid ++ [p1, n])) mx af) {od : Obj} (Md : (d, od) ∈ news)
    (h : ∀ h' tk news', Fr h₀ L h' m → News h₀ L h' news' → Links news' x dx d qc (n :: m1 :: (mid ++ [p1])) mx af → Kept (dx :: (m1 :: (mid ++ [p1, n])).map (·.da)) news news' → Rr h' tk)
    (walk : News h₀ L hp ([(x, instObj 175 dx), (dx, caO qc (.ref d) (.ref m1.a) (.ref n.a) mx af), (d, od), (n.a, instObj 39 n.da), (n.da, ndO n.q (.ref p1.a) .none (.int n.k n.tk) n.v n.cb), (p1.a, instObj 39 p1.da), (p1.da, ndO p1.q (lsR mid (.ref m1.a)) (.int n.k n.tk) (.int p1.k p1.tk) p1.v p1.cb), (m1.a, instObj 39 m1.da), (m1.da, ndO m1.q .none (nxk mid (.int p1.k p1.tk)) (.int m1.k m1.tk) m1.v m1.cb)] ++ offs [dx, m1.da, p1.da, n.da] news) → [dx, m1.da, p1.da, n.da].Nodup → (∀ a ∈ [dx, m1.da, p1.da, n.da], x ≠ a ∧ d ≠ a ∧ n.a ≠ a ∧ p1.a ≠ a ∧ m1.a ≠ a) → (∀ a ∈ [dx, m1.da, p1.da, n.da], ∀ p ∈ offs [dx, m1.da, p1.da, n.da] news, p.1 ≠ a) → n.a ≠ m1.a → (∀ h' tk, Fr h₀ L h' m → News h₀ L h' ([(x, instObj 175 dx), (dx, caO qc (.ref d) (.ref n.a) (.ref p1.a) mx af), (d, od), (n.a, instObj 39 n.da), (n.da, ndO n.q .none (.int m1.k m1.tk) (.int n.k n.tk) n.v n.cb), (p1.a, instObj 39 p1.da), (p1.da, ndO p1.q (lsR mid (.ref m1.a)) .none (.int p1.k p1.tk) p1.v p1.cb), (m1.a, instObj 39 m1.da), (m1.da, ndO m1.q (.ref n.a) (nxk mid (.int p1.k p1.tk)) (.int m1.k m1.tk) m1.v m1.cb)] ++ offs [dx, m1.da, p1.da, n.da] news) → Rr h' tk) → G) : G := by
  have I' := I
  obtain ⟨i1, i2, ⟨⟨j1, j2⟩, j3⟩, i4, i5, i6⟩ := I
  obtain ⟨jm, ⟨j5, j6⟩, ⟨j7, j8⟩, _⟩ := (chain_append ..).mp j3
  rw [nxk_append] at j2
  have e : lsR (m1 :: (mid ++ [p1, n])) .none = .ref n.a := by simp [lsR, lsR_append]
  have i2 : (dx, caO qc (.ref d) (.ref m1.a) (.ref n.a) mx af) ∈ news := e ▸ i2
  have hs : ∀ a ∈ [dx, m1.da, p1.da, n.da], a ∈ dx :: (m1 :: (mid ++ [p1, n])).map (·.da) := by simp
  have hD : [dx, m1.da, p1.da, n.da].Nodup := i4.sublist (by
    simp only [List.map_cons, List.map_append, List.map_nil, List.cons_sublist_cons]
    exact .cons _ (.cons₂ _ (List.sublist_append_of_sublist_right (List.Sublist.refl _))))
  have hna : n.a ≠ m1.a := fun z => (List.nodup_cons.mp i5).1 (by show m1.a ∈ _; rw [← z]; simp)
  refine walk 
    (news_focus N [dx, m1.da, p1.da, n.da] [(x, instObj 175 dx), (dx, caO qc (.ref d) (.ref m1.a) (.ref n.a) mx af), (d, od), (n.a, instObj 39 n.da), (n.da, ndO n.q (.ref p1.a) .none (.int n.k n.tk) n.v n.cb), (p1.a, instObj 39 p1.da), (p1.da, ndO p1.q (lsR mid (.ref m1.a)) (.int n.k n.tk) (.int p1.k p1.tk) p1.v p1.cb), (m1.a, instObj 39 m1.da), (m1.da, ndO m1.q .none (nxk mid (.int p1.k p1.tk)) (.int m1.k m1.tk) m1.v m1.cb)] ?_)
    hD (fun a ha => ⟨I'.sep (in3 hs) (by simp) a ha, I'.dsep hs a ha, I'.sep (in3 hs) (by simp) a ha, I'.sep (in3 hs) (by simp) a ha, I'.sep (in3 hs) (by simp) a ha⟩) (fun a ha => offs_off ha) hna (fun h' tk F' N' => h h' tk _ F' N' ?_ (Kept.mono (kept_app (ex := [_, _, _, _, _, _, _, _, _])) hs))
  · simp only [List.forall_mem_cons]
    exact ⟨i1, i2, Md, j7, j8, j5, j6, j1, j2, fun _ h => nomatch h⟩
  · obtain ⟨a1, a2, a3⟩ := I'.perm3 (row' := n :: m1 :: (mid ++ [p1])) (by
      refine List.Perm.trans (List.Perm.cons _ ?_) (List.Perm.swap _ _ _)
      exact (List.perm_append_comm (l₁ := mid ++ [p1]) (l₂ := [n])).symm.symm |>.trans (List.Perm.refl _) |> fun h => by simpa using h)
    have hmid := chain_keptL I' hs (kept_app (ex := [(x, instObj 175 dx), (dx, caO qc (.ref d) (.ref n.a) (.ref p1.a) mx af), (d, od), (n.a, instObj 39 n.da), (n.da, ndO n.q .none (.int m1.k m1.tk) (.int n.k n.tk) n.v n.cb), (p1.a, instObj 39 p1.da), (p1.da, ndO p1.q (lsR mid (.ref m1.a)) .none (.int p1.k p1.tk) p1.v p1.cb), (m1.a, instObj 39 m1.da), (m1.da, ndO m1.q (.ref n.a) (nxk mid (.int p1.k p1.tk)) (.int m1.k m1.tk) m1.v m1.cb)])) jm (by simp +contextual) ?_
    · refine ⟨by k_mem, ?_, ⟨⟨by k_mem, by k_mem⟩, ⟨by k_mem, ?_⟩, (chain_append ..).mpr ⟨hmid, ⟨by k_mem, by k_mem⟩, trivial⟩⟩, a1, a2, a3⟩
      · have e2 : lsR (n :: m1 :: (mid ++ [p1])) .none = .ref p1.a := by simp [lsR, lsR_append]
        rw [e2]; k_mem
      · rw [nxk_append]; k_mem
    · intro k hk hq
      have hk' := List.mem_map_of_mem (f := (·.da)) hk
      simp only [List.map_cons, List.map_append, List.map_nil, List.nodup_cons, List.nodup_append, List.mem_append, List.mem_cons, List.not_mem_nil, or_false, not_or] at i4
      simp only [List.mem_cons, List.not_mem_nil, or_false] at hq
      rcases hq with q | q | q | q <;> rw [q] at hk' <;> grind
theorem C_ra_C {m1 p1 n : Nd} {mid : List Nd} (AM : Amb w A A₀ base h₀ env outer L p loose mean mg mb) (F : Fr h₀ L s.heap m) (N : News h₀ L s.heap news) (hd : A.depth + 10 < recursionLimit)
    (I : Links news x dx d qc (m1 :: (mid ++ [p1, n])) mx af) {od : Obj} (Md : (d, od) ∈ news)
    (h : ∀ h' tk news', Fr h₀ L h' m → News h₀ L h' news' → Links news' x dx d qc (n :: m1 :: (mid ++ [p1])) mx af → Kept (dx :: (m1 :: (mid ++ [p1, n])).map (·.da)) news news' → R (.ok (.ret .none)) { s with heap := h', toks := tk }) :
    codeAny (model PySem.Challenge.rw_jh0006_01.row.prog w) A (.call (.ref 135) ⟨[.ref x, .ref n.a], []⟩) R s := by
  exact abs_C N I Md h fun N1 d1 d2 d3 e0 k => ra_C (x := x) (dx := dx) (d := d) (n := n.a) (dn := n.da) (pr := p1.a) (dp := p1.da) (mr := m1.a) (dm := m1.da) (rest := offs [dx, m1.da, p1.da, n.da] news) AM F N1 d1 d2 d3 e0 hd k
theorem abs_D {m1 p1 n q : Nd} {mid l2 : List Nd} {hp : Heap} {G : Prop} {Rr : Heap → Nat → Prop} (N : News h₀ L hp news)
    (I : Links news x dx d qc (m1 :: (mid ++ p1 :: n :: q :: l2)) mx af) {od : Obj} (Md : (d, od) ∈ news)
    (h : ∀ h' tk news', Fr h₀ L h' m → News h₀ L h' news' → Links news' x dx d qc (n :: m1 :: (mid ++ p1 :: q :: l2)) mx af → Kept (dx :: (m1 :: (mid ++ p1 :: n :: q :: l2)).map (·.da)) news news' → Rr h' tk)
    (walk : ∀ nl : Nd, News h₀ L hp ([(x, instObj 175 dx), (dx, caO qc (.ref d) (.ref m1.a) (.ref nl.a) mx af), (d, od), (n.a, instObj 39 n.da), (n.da, ndO n.q (.ref p1.a) (.int q.k q.tk) (.int n.k n.tk) n.v n.cb), (p1.a, instObj 39 p1.da), (p1.da, ndO p1.q (lsR mid (.ref m1.a)) (.int n.k n.tk) (.int p1.k p1.tk) p1.v p1.cb), (q.a, instObj 39 q.da), (q.da, ndO q.q (.ref n.a) (nxk l2 .none) (.int q.k q.tk) q.v q.cb), (m1.a, instObj 39 m1.da), (m1.da, ndO m1.q .none (nxk mid (.int p1.k p1.tk)) (.int m1.k m1.tk) m1.v m1.cb), (nl.a, instObj 39 nl.da)] ++ offs [dx, m1.da, p1.da, n.da, q.da] news) → [dx, m1.da, p1.da, n.da, q.da].Nodup → (∀ a ∈ [dx, m1.da, p1.da, n.da, q.da], x ≠ a ∧ d ≠ a ∧ n.a ≠ a ∧ p1.a ≠ a ∧ q.a ≠ a ∧ m1.a ≠ a ∧ nl.a ≠ a) → (∀ a ∈ [dx, m1.da, p1.da, n.da, q.da], ∀ p ∈ offs [dx, m1.da, p1.da, n.da, q.da] news, p.1 ≠ a) → n.a ≠ m1.a → n.a ≠ nl.a → (∀ h' tk, Fr h₀ L h' m → News h₀ L h' ([(x, instObj 175 dx), (dx, caO qc (.ref d) (.ref n.a) (.ref nl.a) mx af), (d, od), (n.a, instObj 39 n.da), (n.da, ndO n.q .none (.int m1.k m1.tk) (.int n.k n.tk) n.v n.cb), (p1.a, instObj 39 p1.da), (p1.da, ndO p1.q (lsR mid (.ref m1.a)) (.int q.k q.tk) (.int p1.k p1.tk) p1.v p1.cb), (q.a, instObj 39 q.da), (q.da, ndO q.q (.ref p1.a) (nxk l2 .none) (.int q.k q.tk) q.v q.cb), (m1.a, instObj 39 m1.da), (m1.da, ndO m1.q (.ref n.a) (nxk mid (.int p1.k p1.tk)) (.int m1.k m1.tk) m1.v m1.cb), (nl.a, instObj 39 nl.da)] ++ offs [dx, m1.da, p1.da, n.da, q.da] news) → Rr h' tk) → G) : G := by
  have I' := I
  obtain ⟨i1, i2, ⟨⟨j1, j2⟩, j3⟩, i4, i5, i6⟩ := I
  obtain ⟨jm, ⟨j5, j6⟩, ⟨j7, j8⟩, ⟨j9, j10⟩, j11⟩ := (chain_append ..).mp j3
  rw [nxk_append] at j2
  obtain ⟨lr, e, hlr⟩ := lsR_ref l2 q.a
  have e1 : lsR (m1 :: (mid ++ p1 :: n :: q :: l2)) .none = .ref lr := by simp [lsR, lsR_append, e]
  have i2 : (dx, caO qc (.ref d) (.ref m1.a) (.ref lr) mx af) ∈ news := e1 ▸ i2
  have hs : ∀ a ∈ [dx, m1.da, p1.da, n.da, q.da], a ∈ dx :: (m1 :: (mid ++ p1 :: n :: q :: l2)).map (·.da) := by simp
  have hD : [dx, m1.da, p1.da, n.da, q.da].Nodup := i4.sublist (by
    simp only [List.map_cons, List.map_append, List.cons_sublist_cons]
    exact .cons _ (.cons₂ _ (List.sublist_append_of_sublist_right (by simp))))
  have hna : n.a ≠ m1.a := fun z => (List.nodup_cons.mp i5).1 (by show m1.a ∈ _; rw [← z]; simp)
  have hin : lr ∈ (q :: l2).map (·.a) := by rcases hlr with ⟨rfl, _⟩ | ⟨b, hb, rfl⟩; exact .head _; exact .tail _ (List.mem_map_of_mem hb)
  have hnl : n.a ≠ lr := fun z => by
    have := (List.nodup_cons.mp i5).2
    rw [List.map_append, List.nodup_append] at this
    have := (List.nodup_cons.mp (List.nodup_cons.mp this.2.1).2).1
    exact this (by show n.a ∈ _; rw [z]; exact hin)
  obtain ⟨nl, hnl1, rfl⟩ := List.mem_map.mp hin
  have hnl2 : nl.a ∈ x :: (m1 :: (mid ++ p1 :: n :: q :: l2)).map (·.a) := by
    refine .tail _ (.tail _ ?_)
    rw [List.map_append]
    exact List.mem_append_right _ (.tail _ (.tail _ hin))
  have jl : (nl.a, instObj 39 nl.da) ∈ news := by rcases List.mem_cons.mp hnl1 with rfl | hb; exact j9; exact chain_inst j11 nl hb
  refine walk nl
    (news_focus N [dx, m1.da, p1.da, n.da, q.da] [(x, instObj 175 dx), (dx, caO qc (.ref d) (.ref m1.a) (.ref nl.a) mx af), (d, od), (n.a, instObj 39 n.da), (n.da, ndO n.q (.ref p1.a) (.int q.k q.tk) (.int n.k n.tk) n.v n.cb), (p1.a, instObj 39 p1.da), (p1.da, ndO p1.q (lsR mid (.ref m1.a)) (.int n.k n.tk) (.int p1.k p1.tk) p1.v p1.cb), (q.a, instObj 39 q.da), (q.da, ndO q.q (.ref n.a) (nxk l2 .none) (.int q.k q.tk) q.v q.cb), (m1.a, instObj 39 m1.da), (m1.da, ndO m1.q .none (nxk mid (.int p1.k p1.tk)) (.int m1.k m1.tk) m1.v m1.cb), (nl.a, instObj 39 nl.da)] ?_)
    hD (fun a ha => ⟨I'.sep (in3 hs) (by simp) a ha, I'.dsep hs a ha, I'.sep (in3 hs) (by simp) a ha, I'.sep (in3 hs) (by simp) a ha, I'.sep (in3 hs) (by simp) a ha, I'.sep (in3 hs) (by simp) a ha, I'.sep (in3 hs) hnl2 a ha⟩) (fun a ha => offs_off ha) hna hnl (fun h' tk F' N' => h h' tk _ F' N' ?_ (Kept.mono (kept_app (ex := [_, _, _, _, _, _, _, _, _, _, _, _])) hs))
  · simp only [List.forall_mem_cons]
    exact ⟨i1, i2, Md, j7, j8, j5, j6, j9, j10, j1, j2, jl, fun _ h => nomatch h⟩
  · obtain ⟨a1, a2, a3⟩ := I'.perm3 (row' := n :: m1 :: (mid ++ p1 :: q :: l2)) (by
      refine List.Perm.trans (List.Perm.cons _ ?_) (List.Perm.swap _ _ _)
      have := List.perm_middle (a := n) (l₁ := mid ++ [p1]) (l₂ := q :: l2)
      simpa using this)
    have K := kept_app (D := [dx, m1.da, p1.da, n.da, q.da]) (news := news) (ex := [(x, instObj 175 dx), (dx, caO qc (.ref d) (.ref n.a) (.ref nl.a) mx af), (d, od), (n.a, instObj 39 n.da), (n.da, ndO n.q .none (.int m1.k m1.tk) (.int n.k n.tk) n.v n.cb), (p1.a, instObj 39 p1.da), (p1.da, ndO p1.q (lsR mid (.ref m1.a)) (.int q.k q.tk) (.int p1.k p1.tk) p1.v p1.cb), (q.a, instObj 39 q.da), (q.da, ndO q.q (.ref p1.a) (nxk l2 .none) (.int q.k q.tk) q.v q.cb), (m1.a, instObj 39 m1.da), (m1.da, ndO m1.q (.ref n.a) (nxk mid (.int p1.k p1.tk)) (.int m1.k m1.tk) m1.v m1.cb), (nl.a, instObj 39 nl.da)])
    simp only [List.map_cons, List.map_append, List.nodup_cons, List.nodup_append, List.mem_append, List.mem_cons, not_or] at i4
    have hmid := chain_keptL I' hs K jm (by simp +contextual) (by
      intro k hk hq
      have hk' := List.mem_map_of_mem (f := (·.da)) hk
      simp only [List.mem_cons, List.not_mem_nil, or_false] at hq
      rcases hq with q | q | q | q | q <;> rw [q] at hk' <;> grind)
    have hl2 := chain_keptL I' hs K j11 (by simp +contextual) (by
      intro k hk hq
      have hk' := List.mem_map_of_mem (f := (·.da)) hk
      simp only [List.mem_cons, List.not_mem_nil, or_false] at hq
      rcases hq with q | q | q | q | q <;> rw [q] at hk' <;> grind)
    refine ⟨by k_mem, ?_, ⟨⟨by k_mem, by k_mem⟩, ⟨by k_mem, ?_⟩, (chain_append ..).mpr ⟨hmid, ⟨by k_mem, by k_mem⟩, ⟨by k_mem, by k_mem⟩, hl2⟩⟩, a1, a2, a3⟩
    · have e2 : lsR (n :: m1 :: (mid ++ p1 :: q :: l2)) .none = .ref nl.a := by simp [lsR, lsR_append, e]
      rw [e2]; k_mem
    · rw [nxk_append]; k_mem
theorem C_ra_D {m1 p1 n q : Nd} {mid l2 : List Nd} (AM : Amb w A A₀ base h₀ env outer L p loose mean mg mb) (F : Fr h₀ L s.heap m) (N : News h₀ L s.heap news) (hd : A.depth + 10 < recursionLimit)
    (I : Links news x dx d qc (m1 :: (mid ++ p1 :: n :: q :: l2)) mx af) {od : Obj} {kvs : List (Int × Value)} (Md : (d, od) ∈ news) (hod : od.IsDictOf (intKind PySem.Challenge.rw_jh0006_01.row.prog w) kvs) (hv : valueAt kvs q.k = some (.ref q.a))
    (h : ∀ h' tk news', Fr h₀ L h' m → News h₀ L h' news' → Links news' x dx d qc (n :: m1 :: (mid ++ p1 :: q :: l2)) mx af → Kept (dx :: (m1 :: (mid ++ p1 :: n :: q :: l2)).map (·.da)) news news' → R (.ok (.ret .none)) { s with heap := h', toks := tk }) :
    codeAny (model PySem.Challenge.rw_jh0006_01.row.prog w) A (.call (.ref 135) ⟨[.ref x, .ref n.a], []⟩) R s := by
  exact abs_D N I Md h fun nl N1 d1 d2 d3 e0 e1 k => ra_D (x := x) (dx := dx) (d := d) (n := n.a) (dn := n.da) (pr := p1.a) (dp := p1.da) (q := q.a) (dq := q.da) (mr := m1.a) (dm := m1.da) (lr := nl.a) (dl := nl.da) (rest := offs [dx, m1.da, p1.da, n.da, q.da] news) AM F N1 d1 d2 d3 e0 e1 hd hod hv k
theorem C_ra_E {n : Nd} (AM : Amb w A A₀ base h₀ env outer L p loose mean mg mb) (F : Fr h₀ L s.heap m) (N : News h₀ L s.heap news) (hd : A.depth + 10 < recursionLimit)
    (I : Links news x dx d qc ([]) mx af) (J : NodeIn news .none .none n) (b1 : n.da ∉ dx :: d :: ([] : List Nd).map (·.da)) (b2 : n.a ∉ ([] : List Nd).map (·.a)) (b3 : n.a ∉ n.da :: dx :: d :: ([] : List Nd).map (·.da)) (b4 : ∀ i ∈ x :: ([] : List Nd).map (·.a), i ≠ n.da)
    (h : ∀ h' tk news', Fr h₀ L h' m → News h₀ L h' news' → Links news' x dx d qc ([n]) mx af → Kept ([dx]) news news' → R (.ok (.ret .none)) { s with heap := h', toks := tk }) :
    codeAny (model PySem.Challenge.rw_jh0006_01.row.prog w) A (.call (.ref 135) ⟨[.ref x, .ref n.a], []⟩) R s := by
  have I' := I
  obtain ⟨i1, i2, _, i4, i5, i6⟩ := I
  refine ra_E (x := x) (dx := dx) (d := d) (n := n.a) (dn := n.da) (rest := offs [dx] news) AM F
    (news_focus N [dx] [(x, instObj 175 dx), (dx, caO qc (.ref d) .none .none mx af), (n.a, instObj 39 n.da)] ?_)
    (by simp) (fun a ha => ⟨I'.sep (by simp) (by simp) a ha, ?_⟩) (fun a ha => offs_off ha) hd (fun h' tk F' N' => h h' tk _ F' N' ?_ (Kept.mono (kept_app (ex := [_, _, _])) (by simp)))
  · simp only [List.forall_mem_cons]
    exact ⟨i1, i2, J.1, fun _ h => nomatch h⟩
  · rintro rfl; exact b3 (by simp at ha; simp [ha])
  · have K := kept_app (D := [dx]) (news := news) (ex := [(x, instObj 175 dx), (dx, caO qc (.ref d) (.ref n.a) (.ref n.a) mx af), (n.a, instObj 39 n.da)])
    refine ⟨by k_mem, by k_mem, ⟨J.kept K ?_ ?_, trivial⟩, ?_, ?_, ?_⟩
    · intro q; exact b3 (by simp at q; simp [q])
    · intro q; exact b1 (by simp at q; simp [q])
    · simp at i4 b1 ⊢; exact ⟨⟨i4, fun q => b1.1 q.symm⟩, fun q => b1.2 q.symm⟩
    · simp
    · intro i hi
      simp only [List.map_cons, List.map_nil, List.mem_cons, List.not_mem_nil, or_false, not_or] at hi b3 b4 i6 ⊢
      rcases hi with rfl | rfl
      · exact ⟨(i6 _ rfl).1, (i6 _ rfl).2, b4 _ rfl⟩
      · exact ⟨b3.2.1, b3.2.2, b3.1⟩
theorem C_ra_F {m1 n : Nd} {r : List Nd} (AM : Amb w A A₀ base h₀ env outer L p loose mean mg mb) (F : Fr h₀ L s.heap m) (N : News h₀ L s.heap news) (hd : A.depth + 10 < recursionLimit)
    (I : Links news x dx d qc (m1 :: r) mx af) (J : NodeIn news .none .none n) (b1 : n.da ∉ dx :: d :: (m1 :: r).map (·.da)) (b2 : n.a ∉ (m1 :: r).map (·.a)) (b3 : n.a ∉ n.da :: dx :: d :: (m1 :: r).map (·.da)) (b4 : ∀ i ∈ x :: (m1 :: r).map (·.a), i ≠ n.da)
    (h : ∀ h' tk news', Fr h₀ L h' m → News h₀ L h' news' → Links news' x dx d qc (n :: m1 :: r) mx af → Kept (dx :: n.da :: (m1 :: r).map (·.da)) news news' → R (.ok (.ret .none)) { s with heap := h', toks := tk }) :
    codeAny (model PySem.Challenge.rw_jh0006_01.row.prog w) A (.call (.ref 135) ⟨[.ref x, .ref n.a], []⟩) R s := by
  have I' := I
  obtain ⟨i1, i2, ⟨⟨j1, j2⟩, j3⟩, i4, i5, i6⟩ := I
  obtain ⟨lr, e, hlr⟩ := lsR_ref r m1.a
  have i2 : (dx, caO qc (.ref d) (.ref m1.a) (.ref lr) mx af) ∈ news := e ▸ i2
  have hin : lr ∈ (m1 :: r).map (·.a) := by rcases hlr with ⟨rfl, _⟩ | ⟨b, hb, rfl⟩; exact .head _; exact .tail _ (List.mem_map_of_mem hb)
  obtain ⟨nl, hnl1, rfl⟩ := List.mem_map.mp hin
  have jl : (nl.a, instObj 39 nl.da) ∈ news := by rcases List.mem_cons.mp hnl1 with rfl | hb; exact j1; exact chain_inst j3 nl hb
  have hs0 : ∀ a ∈ [dx, m1.da], a ∈ dx :: (m1 :: r).map (·.da) := by simp
  have b1' := b1
  have b3' := b3
  simp only [List.mem_cons, List.map_cons, not_or] at b1 b2 b3
  have hsep : ∀ i ∈ x :: (m1 :: r).map (·.a), ∀ a ∈ [dx, n.da, m1.da], i ≠ a := by
    intro i hi a ha
    simp only [List.mem_cons, List.not_mem_nil, or_false] at ha
    rcases ha with rfl | rfl | rfl
    · exact I'.sep (in3 hs0) hi _ (by simp)
    · exact b4 i hi
    · exact I'.sep (in3 hs0) hi _ (by simp)
  have hdsep : ∀ a ∈ [dx, n.da, m1.da], d ≠ a := by
    intro a ha
    simp only [List.mem_cons, List.not_mem_nil, or_false] at ha
    rcases ha with rfl | rfl | rfl
    · exact I'.dsep hs0 _ (by simp)
    · exact fun q => b1.2.1 q.symm
    · exact I'.dsep hs0 _ (by simp)
  have hnsep : ∀ a ∈ [dx, n.da, m1.da], n.a ≠ a := by
    intro a ha
    simp only [List.mem_cons, List.not_mem_nil, or_false] at ha
    rcases ha with rfl | rfl | rfl
    · exact b3.2.1
    · exact b3.1
    · exact b3.2.2.2.1
  have hdm : dx ≠ m1.da := fun q => (List.nodup_cons.mp i4).1 (by rw [q]; simp)
  refine ra_F (x := x) (dx := dx) (d := d) (n := n.a) (dn := n.da) (mr := m1.a) (dm := m1.da) (lr := nl.a) (dl := nl.da) (rest := offs [dx, n.da, m1.da] news) AM F
    (news_focus N [dx, n.da, m1.da] [(x, instObj 175 dx), (dx, caO qc (.ref d) (.ref m1.a) (.ref nl.a) mx af), (n.a, instObj 39 n.da), (n.da, ndO n.q .none .none (.int n.k n.tk) n.v n.cb), (m1.a, instObj 39 m1.da), (m1.da, ndO m1.q .none (nxk r .none) (.int m1.k m1.tk) m1.v m1.cb), (nl.a, instObj 39 nl.da)] ?_)
    ?_ (fun a ha => ⟨hsep _ (by simp) a ha, hnsep a ha, hsep _ (by simp) a ha, hsep _ (.tail _ hin) a ha⟩) (fun a ha => offs_off ha) b2.1 (fun q => (not_or.mpr b2) (List.mem_cons.mp (q ▸ hin))) hd (fun h' tk F' N' => h h' tk _ F' N' ?_ (Kept.mono (kept_app (ex := [_, _, _, _, _, _, _])) (by simp)))
  · simp only [List.forall_mem_cons]
    exact ⟨i1, i2, J.1, J.2, j1, j2, jl, fun _ h => nomatch h⟩
  · simp only [List.nodup_cons, List.mem_cons, List.not_mem_nil, or_false, not_or, List.nodup_nil, and_true, not_false_eq_true]
    exact ⟨⟨fun q => b1.1 q.symm, hdm⟩, b1.2.2.1⟩
  · have K := kept_app (D := [dx, n.da, m1.da]) (news := news) (ex := [(x, instObj 175 dx), (dx, caO qc (.ref d) (.ref n.a) (.ref nl.a) mx af), (n.a, instObj 39 n.da), (n.da, ndO n.q .none (.int m1.k m1.tk) (.int n.k n.tk) n.v n.cb), (m1.a, instObj 39 m1.da), (m1.da, ndO m1.q (.ref n.a) (nxk r .none) (.int m1.k m1.tk) m1.v m1.cb), (nl.a, instObj 39 nl.da)])
    have hl2 := j3.kept K (by
      intro k hk
      refine ⟨fun q => hsep k.a (.tail _ (.tail _ (List.mem_map_of_mem hk))) _ q rfl, fun q => ?_⟩
      have hk' := List.mem_map_of_mem (f := (·.da)) hk
      simp only [List.map_cons, List.nodup_cons, List.mem_cons, not_or] at i4
      simp only [List.mem_cons, List.not_mem_nil, or_false] at q
      rcases q with q | q | q <;> rw [q] at hk'
      · exact i4.1.2.2 hk'
      · exact b1.2.2.2 hk'
      · exact i4.2.2.1 hk')
    refine ⟨by k_mem, ?_, ⟨⟨by k_mem, by k_mem⟩, ⟨by k_mem, by k_mem⟩, hl2⟩, ?_, ?_, ?_⟩
    · show (dx, caO qc (.ref d) (.ref n.a) (lsR r (.ref m1.a)) mx af) ∈ _
      rw [e]; k_mem
    · have : (n.da :: dx :: d :: (m1 :: r).map (·.da)).Nodup := List.nodup_cons.mpr ⟨b1', i4⟩
      refine this.perm ?_
      exact (List.Perm.swap _ _ _).trans (List.Perm.cons _ (List.Perm.swap _ _ _))
    · exact List.nodup_cons.mpr ⟨by simpa using b2, i5⟩
    · intro i hi
      simp only [List.map_cons, List.mem_cons, not_or] at hi ⊢
      have h6 : i = x ∨ i = m1.a ∨ i ∈ r.map (·.a) → i ≠ n.da ∧ i ∉ dx :: d :: (m1 :: r).map (·.da) := fun hi => ⟨b4 i (by simpa using hi), i6 i (by simpa using hi)⟩
      rcases hi with rfl | rfl | hi
      · have := h6 (.inl rfl); simp only [List.map_cons, List.mem_cons, not_or] at this; exact ⟨this.2.1, this.2.2.1, this.1, this.2.2.2⟩
      · exact ⟨b3.2.1, b3.2.2.1, b3.1, b3.2.2.2⟩
      · have := h6 (.inr hi); simp only [List.map_cons, List.mem_cons, not_or] at this; exact ⟨this.2.1, this.2.2.1, this.1, this.2.2.2⟩
theorem C_ra_G {n : Nd} {l2 : List Nd} (AM : Amb w A A₀ base h₀ env outer L p loose mean mg mb) (F : Fr h₀ L s.heap m) (N : News h₀ L s.heap news) (hd : A.depth + 10 < recursionLimit)
    (I : Links news x dx d qc (n :: l2) mx af)
    (h : ∀ h' tk news', Fr h₀ L h' m → News h₀ L h' news' → Links news' x dx d qc (n :: l2) mx af → Kept (dx :: (n :: l2).map (·.da)) news news' → R (.ok (.ret .none)) { s with heap := h', toks := tk }) :
    codeAny (model PySem.Challenge.rw_jh0006_01.row.prog w) A (.call (.ref 135) ⟨[.ref x, .ref n.a], []⟩) R s := by
  have I' := I
  obtain ⟨i1, i2, i3, i4, i5, i6⟩ := I
  obtain ⟨lr, e, _⟩ := lsR_ref l2 n.a
  have i2 : (dx, caO qc (.ref d) (.ref n.a) (.ref lr) mx af) ∈ news := e ▸ i2
  have hs : ∀ a ∈ [dx], a ∈ dx :: (n :: l2).map (·.da) := by simp
  refine ra_G (x := x) (dx := dx) (d := d) (rest := offs [dx] news) (n := n.a) (dn := n.da) (lr := lr) AM F (news_focus N [dx] [(x, instObj 175 dx), (dx, caO qc (.ref d) (.ref n.a) (.ref lr) mx af), (n.a, instObj 39 n.da)] ?_) (by simp) (fun a ha => ⟨I'.sep (in3 hs) (by simp) a ha, I'.sep (in3 hs) (by simp) a ha⟩) (fun a ha => offs_off ha) hd fun h' tk F' N' => h h' tk _ F' N' ?_ (Kept.mono (kept_app (ex := [_, _, _])) hs)
  · simp only [List.forall_mem_cons]
    exact ⟨i1, i2, i3.1.1, fun _ h => nomatch h⟩
  · have K := kept_app (D := [dx]) (news := news) (ex := [(x, instObj 175 dx), (dx, caO qc (.ref d) (.ref n.a) (.ref lr) mx af), (n.a, instObj 39 n.da)])
    refine ⟨by k_mem, ?_, chain_keptL I' hs K i3 (fun _ h => h) (fun k hk q => ?_), i4, i5, i6⟩
    · show (dx, caO qc (.ref d) (.ref n.a) (lsR l2 (.ref n.a)) mx af) ∈ _
      rw [e]; k_mem
    · have hk' := List.mem_map_of_mem (f := (·.da)) hk
      simp only [List.mem_cons, List.not_mem_nil, or_false] at q
      rw [q] at hk'
      exact (List.nodup_cons.mp i4).1 (.tail _ hk')

theorem C_ra {l1 l2 : List Nd} {n : Nd} (AM : Amb w A A₀ base h₀ env outer L p loose mean mg mb) (F : Fr h₀ L s.heap m) (N : News h₀ L s.heap news) (hd : A.depth + 10 < recursionLimit)
    (I : Links news x dx d qc (l1 ++ n :: l2) mx af) (M : MapIn w news d (l1 ++ n :: l2))
    (h : ∀ h' tk news', Fr h₀ L h' m → News h₀ L h' news' → Links news' x dx d qc (n :: (l1 ++ l2)) mx af → Kept (dx :: (l1 ++ n :: l2).map (·.da)) news news' → R (.ok (.ret .none)) { s with heap := h', toks := tk }) :
    codeAny (model PySem.Challenge.rw_jh0006_01.row.prog w) A (.call (.ref 135) ⟨[.ref x, .ref n.a], []⟩) R s := by
  rcases List.eq_nil_or_concat l1 with rfl | ⟨l1', p1, rfl⟩
  · exact C_ra_G AM F N hd I h
  · simp only [List.concat_eq_append, List.append_assoc, List.singleton_append, List.cons_append, List.nil_append] at I M h
    cases l2 with
    | nil =>
      obtain ⟨od, kvs, a1, _⟩ := M
      cases l1' with
      | nil => exact C_ra_A AM F N hd I a1 h
      | cons m1 mid => exact C_ra_C AM F N hd I a1 (by simpa using h)
    | cons q l2 =>
      obtain ⟨od, kvs, a1, a2, a3⟩ := M.at (n := q) (by simp)
      cases l1' with
      | nil => exact C_ra_B AM F N hd I a1 a2 a3 h
      | cons m1 mid => exact C_ra_D AM F N hd I a1 a2 a3 (by simpa using h)
end
end Mine
end
theorem Mine.top_off_p05 : True := by
  w_top off
  try walk1
  trivial
section
namespace Mine
theorem Amb.deep {w : World} {A : Around} {base g : Heap} {env : Env} {outer : List Env} {L : Addr} {p : Program} {loose : List Str} {mean : ExcName → Option Value} {mg mb : Str → Option Value}
    (hh : A.handled = none) (B : Below A base outer g) (X : (Mine.hd.heap_1 w.params).In g) (T : Top p loose mean mg mb g) (hf : env.frame = some L) (hk : env.scope.kind = .function) : Amb w (A.deeper env) A base g env outer L p loose mean mg mb :=
  ⟨B, X, T, Around.frames_deeper B.stack, hf, hk, hh⟩
abbrev tuO (vs : List Value) : Obj := { cls := .type "tuple", data := .seq vs.toArray }

def CbOk (w : World) (f : Addr) (tl : Addr) (lam : List (Addr × Obj)) : Prop :=
  (∃ oc od fd sl, (f, (⟨oc, od, .func fd, sl⟩ : Obj)) ∈ lam) ∧ (∀ p ∈ lam, (∀ es n, p.2.data ≠ .dict es n) ∧ ∀ xs n, p.2.data ≠ .seq xs n) ∧
  ∀ {A A₀ : Around} {base h₀ : Heap} {env : Env} {outer : List Env} {L : Addr} {p : Program} {loose : List Str} {mean : ExcName → Option Value} {mg mb m : Str → Option Value} {s : Shared} {rest : List (Addr × Obj)} {R : Result → Shared → Prop} {ts : List Value} {tn : Nat} {k v : Value},
    Amb w A A₀ base h₀ env outer L p loose mean mg mb → Fr h₀ L s.heap m → News h₀ L s.heap ((tl, listOf ts.toArray tn) :: (lam ++ rest)) → (∀ p ∈ lam, p.1 ≠ tl) → (∀ p ∈ rest, p.1 ≠ tl) → A.depth + 10 < recursionLimit → A.units + 100 < cLine → ts.length ≤ 1000 → handedIn k = true → handedIn v = true →
    (∀ h' tk t tn', Fr h₀ L h' m → News h₀ L h' ((t, tuO [k, v]) :: (tl, listOf (ts ++ [Value.ref t]).toArray tn') :: (lam ++ rest)) → R (.ok (.ret .none)) { s with heap := h', toks := tk }) →
    codeAny (model PySem.Challenge.rw_jh0006_01.row.prog w) A (.call (.ref f) ⟨[k, v], []⟩) R s
section
variable {w : World} {A A₀ : Around} {base h₀ : Heap} {env : Env} {outer : List Env} {L : Addr} {p : Program} {loose : List Str} {mean : ExcName → Option Value} {mg mb m : Str → Option Value} {s : Shared} {news rest : List (Addr × Obj)} {R : Result → Shared → Prop}
variable {a da : Addr} {q : K6} {pv nk vl : Value} {k : Int} {kt : Tok}
theorem rc_none (AM : Amb w A A₀ base h₀ env outer L p loose mean mg mb) (F : Fr h₀ L s.heap m) (N : News h₀ L s.heap ((a, instObj 39 da) :: (da, ndO q pv nk (.int k kt) vl .none) :: rest))
    (hD : a ≠ da) (hR : ∀ p ∈ rest, p.1 ≠ da) (hd : A.depth + 10 < recursionLimit)
    (h : ∀ h' tk', Fr h₀ L h' m → News h₀ L h' ((a, instObj 39 da) :: (da, ndO q pv nk (.int k kt) .none .none) :: rest) → R (.ok (.ret .none)) { s with heap := h', toks := tk' }) :
    codeAny (model PySem.Challenge.rw_jh0006_01.row.prog w) A (.call (.ref 36) ⟨[.ref a], []⟩) R s := by
  obtain ⟨B, X, T, hA, hf, hk, hh⟩ := AM
  k_enter
  k_steps
  exact h _ _ (by assumption) (by assumption)

theorem rc_lam {f tl : Addr} {lam : List (Addr × Obj)} {ts : List Value} {tn : Nat} (AM : Amb w A A₀ base h₀ env outer L p loose mean mg mb) (F : Fr h₀ L s.heap m) (N : News h₀ L s.heap ((a, instObj 39 da) :: (da, ndO q pv nk (.int k kt) vl (.ref f)) :: (tl, listOf ts.toArray tn) :: (lam ++ rest)))
    (hD : a ≠ da) (hT : tl ≠ da) (hL : ∀ p ∈ lam, p.1 ≠ da) (hL2 : ∀ p ∈ lam, p.1 ≠ tl) (hR : ∀ p ∈ rest, p.1 ≠ da ∧ p.1 ≠ tl) (hTa : tl ≠ a) (hd : A.depth + 20 < recursionLimit) (hu : A.units + 120 < cLine) (hts : ts.length ≤ 1000) (hv : handedIn vl = true) (C : CbOk w f tl lam)
    (h : ∀ h' tk' t tn', Fr h₀ L h' m → News h₀ L h' ((a, instObj 39 da) :: (da, ndO q pv nk (.int k kt) .none .none) :: (t, tuO [.int k kt, vl]) :: (tl, listOf (ts ++ [Value.ref t]).toArray tn') :: (lam ++ rest)) → R (.ok (.ret .none)) { s with heap := h', toks := tk' }) :
    codeAny (model PySem.Challenge.rw_jh0006_01.row.prog w) A (.call (.ref 36) ⟨[.ref a], []⟩) R s := by
  obtain ⟨B, X, T, hA, hf, hk, hh⟩ := AM
  have hL' : ∀ p ∈ lam ++ rest, p.1 ≠ da := fun p hp => (List.mem_append.mp hp).elim (hL p) fun h => (hR p h).1
  k_enter
  k_steps
  rename News _ _ _ _ => N1
  obtain ⟨oc, od, fd, sl, hfo⟩ := C.1
  have hX := FnAt.of N1 (.tail _ (.tail _ (.tail _ (List.mem_append_left _ hfo))))
  refine callWith_F hX ?_
  k_steps
  · exact hX
  rename Fr _ _ _ _ => F1
  rename Below _ _ _ _ => B1
  rename Top _ _ _ _ _ _ => T1
  rename Frag.In _ _ => X1
  refine wpAny_call (C.2.2 (tn := tn) (rest := (a, instObj 39 da) :: (da, ndO q pv nk (.int k kt) vl (.ref f)) :: rest) (Amb.deep hh B1 X1 T1 rfl rfl) F1 (news_sub N1 ?_) hL2 ?_ ?_ ?_ hts rfl hv ?_)
  · intro p hp
    simp only [List.mem_cons, List.mem_append] at hp ⊢
    grind
  · intro p hp
    simp only [List.mem_cons] at hp
    rcases hp with rfl | rfl | hp
    · exact Ne.symm hTa
    · exact Ne.symm hT
    · exact (hR p hp).2
  · k_room
  · k_units
  intro h1 tk1 t tn1 F2 N2
  have N3 : News _ _ h1 ((a, instObj 39 da) :: (da, ndO q pv nk (.int k kt) vl (.ref f)) :: (t, tuO [.int k kt, vl]) :: (tl, listOf (ts ++ [Value.ref t]).toArray tn1) :: (lam ++ rest)) := news_sub N2 (by
    intro p hp
    simp only [List.mem_cons, List.mem_append] at hp ⊢
    grind)
  have htd : t ≠ da := fun e => by
    have h1 := N3 (da, _) (.tail _ (.head _))
    have h2 := N3 (t, _) (.tail _ (.tail _ (.head _)))
    rw [e] at h2
    have h3 := congrArg Obj.data (Option.some.inj (h1.1.symm.trans h2.1))
    exact nomatch h3
  clear N2 N1 F1
  dsimp only
  k_steps
  exact h _ _ _ _ (by assumption) (by assumption)
end
theorem upd_mem {d : Addr} {o o' : Obj} {l l' : List (Addr × Obj)} (U : Upd d o o' l l') {p : Addr × Obj} : p ∈ l' ↔ p = (d, o') ∨ (p ∈ l ∧ p.1 ≠ d) := by
  obtain ⟨pre, post, rfl, rfl, a, b⟩ := U.split
  simp only [List.mem_append, List.mem_cons]
  constructor
  · rintro (h | h | h)
    · exact .inr ⟨.inl h, a p h⟩
    · exact .inl h
    · exact .inr ⟨.inr (.inr h), b p h⟩
  · rintro (h | ⟨h | h | h, hn⟩)
    · exact .inr (.inl h)
    · exact .inl h
    · exact absurd (by rw [h]) hn
    · exact .inr (.inr h)
theorem upd_has {d : Addr} {o o' : Obj} {l l' : List (Addr × Obj)} (U : Upd d o o' l l') : (d, o) ∈ l := by
  obtain ⟨pre, post, rfl, rfl, a, b⟩ := U.split
  simp
theorem updF_mem {d : Addr} {o o' : Obj} {l : List (Addr × Obj)} {g : Obj → List (Addr × Obj)} (U : UpdF d o l g) {p : Addr × Obj} : p ∈ g o' ↔ p = (d, o') ∨ (p ∈ l ∧ p.1 ≠ d) := by
  obtain ⟨pre, post, rfl, hg, a, b⟩ := U.split
  rw [hg]
  simp only [List.mem_append, List.mem_cons]
  constructor
  · rintro (h | h | h)
    · exact .inr ⟨.inl h, a p h⟩
    · exact .inl h
    · exact .inr ⟨.inr (.inr h), b p h⟩
  · rintro (h | ⟨h | h | h, hn⟩)
    · exact .inr (.inl h)
    · exact .inl h
    · exact absurd (by rw [h]) hn
    · exact .inr (.inr h)
theorem updF_has {d : Addr} {o : Obj} {l : List (Addr × Obj)} {g : Obj → List (Addr × Obj)} (U : UpdF d o l g) : (d, o) ∈ l := by
  obtain ⟨pre, post, rfl, hg, a, b⟩ := U.split
  simp
section
variable {w : World} {A A₀ : Around} {base h₀ : Heap} {env : Env} {outer : List Env} {L : Addr} {p : Program} {loose : List Str} {mean : ExcName → Option Value} {mg mb m : Str → Option Value} {s : Shared} {news news' : List (Addr × Obj)} {R : Result → Shared → Prop}
variable {a da : Addr} {q : K6} {pv nk vl : Value} {k : Int} {kt : Tok}
theorem m_rc_none (AM : Amb w A A₀ base h₀ env outer L p loose mean mg mb) (F : Fr h₀ L s.heap m) (N : News h₀ L s.heap news) (hm : (a, instObj 39 da) ∈ news)
    (U : Upd da (ndO q pv nk (.int k kt) vl .none) (ndO q pv nk (.int k kt) .none .none) news news') (hd : A.depth + 10 < recursionLimit)
    (h : ∀ h' tk', Fr h₀ L h' m → News h₀ L h' news' → R (.ok (.ret .none)) { s with heap := h', toks := tk' }) :
    codeAny (model PySem.Challenge.rw_jh0006_01.row.prog w) A (.call (.ref 36) ⟨[.ref a], []⟩) R s := by
  have hn := news_ne N hm (upd_has U) (fun e => nomatch e)
  refine rc_none (rest := offs [da] news) AM F (news_focus N [da] [(a, instObj 39 da), (da, ndO q pv nk (.int k kt) vl .none)] ?_) hn (offs_off (by simp)) hd fun h' tk' F' N' => h h' tk' F' (news_sub N' ?_)
  · simp only [List.forall_mem_cons]
    exact ⟨hm, upd_has U, fun _ h => nomatch h⟩
  · intro p hp
    rcases (upd_mem U).mp hp with rfl | ⟨h1, h2⟩
    · exact .tail _ (.head _)
    · exact .tail _ (.tail _ (mem_offs.mpr ⟨h1, by simpa using h2⟩))
theorem m_rc_lam {f tl : Addr} {lam : List (Addr × Obj)} {ts : List Value} {tn : Nat} {g : Obj → List (Addr × Obj)} (C : CbOk w f tl lam) (AM : Amb w A A₀ base h₀ env outer L p loose mean mg mb) (F : Fr h₀ L s.heap m) (N : News h₀ L s.heap news) (hm : (a, instObj 39 da) ∈ news)
    (U : Upd da (ndO q pv nk (.int k kt) vl (.ref f)) (ndO q pv nk (.int k kt) .none .none) news news') (U2 : UpdF tl (listOf ts.toArray tn) news' g) (hl : ∀ p ∈ lam, p ∈ news)
    (hd : A.depth + 20 < recursionLimit) (hu : A.units + 120 < cLine) (hts : ts.length ≤ 1000) (hv : handedIn vl = true)
    (h : ∀ h' tk' t tn', Fr h₀ L h' m → News h₀ L h' ((t, tuO [.int k kt, vl]) :: g (listOf (ts ++ [Value.ref t]).toArray tn')) → R (.ok (.ret .none)) { s with heap := h', toks := tk' }) :
    codeAny (model PySem.Challenge.rw_jh0006_01.row.prog w) A (.call (.ref 36) ⟨[.ref a], []⟩) R s := by
  have hn := news_ne N hm (upd_has U) (fun e => nomatch e)
  have ht0 : (tl, listOf ts.toArray tn) ∈ news ∧ tl ≠ da := by
    rcases (upd_mem U).mp (updF_has U2) with e | e
    · exact absurd (congrArg (fun p => p.2.data) e) (fun e => nomatch e)
    · exact e
  have hTa := news_ne N ht0.1 hm (fun e => nomatch e)
  refine rc_lam (q := q) (pv := pv) (nk := nk) (k := k) (kt := kt) (f := f) (tl := tl) (lam := lam) (ts := ts) (tn := tn) (rest := offs [da, tl] news) AM F (news_sub N ?_) hn ht0.2 ?_ ?_ (fun p hp => ⟨offs_off (by simp) p hp, offs_off (by simp) p hp⟩) hTa hd hu hts hv C fun h' tk' t tn' F' N' => h h' tk' t tn' F' (news_sub N' ?_)
  · intro p hp
    simp only [List.mem_cons, List.mem_append] at hp
    rcases hp with rfl | rfl | rfl | hp | hp
    · exact hm
    · exact upd_has U
    · exact ht0.1
    · exact hl p hp
    · exact (mem_offs.mp hp).1
  · intro p hp
    exact news_ne N (hl p hp) (upd_has U) ((C.2.1 p hp).1 _ _)
  · intro p hp
    exact news_ne N (hl p hp) ht0.1 ((C.2.1 p hp).2 _ _)
  · intro p hp
    simp only [List.mem_cons, List.mem_append] at hp ⊢
    rcases hp with rfl | hp
    · exact .inr (.inr (.inl rfl))
    · rcases (updF_mem U2).mp hp with rfl | ⟨h1, h2⟩
      · exact .inr (.inr (.inr (.inl rfl)))
      · rcases (upd_mem U).mp h1 with rfl | ⟨h3, h4⟩
        · exact .inr (.inl rfl)
        · exact .inr (.inr (.inr (.inr (.inr (mem_offs.mpr ⟨h3, by simp [h2, h4]⟩)))))
end
end Mine
end
theorem Mine.top_off_p06 : True := by
  w_top off
  try walk1
  trivial
section
local macro_rules | `(tactic| walk_at "call builtin:dict.pop") => `(tactic| (k_here; k_dflt (refine kob_pop (knd := PySem.intKind _ _) (more := []) (by k_asm) (by k_asm) (by k_updF) (by k_asm) (intKind_is _ _ _ _) (.inl rfl) (by rfl) (PySem.F.args_dict_pop_2 _ _) (by assumption) (by assumption) ?_); intro h' o' F' N' hd'; (try dsimp only at N')))
local macro_rules | `(tactic| walk_at "call ref") => `(tactic| (k_here; k_dflt (refine wpAny_call (Mine.m_rc_none (Mine.Amb.deep (by assumption) (by assumption) (by assumption) (by assumption) (by rfl) (by rfl)) (by k_asm) (by k_asm) (by k_mem) (by k_upd) (by k_room) ?_); intro h' tk' F' N'; (try dsimp only))))
local macro_rules | `(tactic| walk_at "call ref") => `(tactic| (k_here; k_dflt (refine wpAny_call (Mine.m_rc_lam (by assumption) (Mine.Amb.deep (by assumption) (by assumption) (by assumption) (by assumption) (by rfl) (by rfl)) (by k_asm) (by k_asm) (by k_mem) (by k_upd) (by k_updF) (by intro p hp; (repeat apply List.Mem.tail); exact List.mem_append_left _ hp) (by k_room) (by k_units) (by assumption) (by assumption) ?_); intro h' tk' t' tn' F' N'; (try dsimp only at N'); (try dsimp only))))
namespace Mine
section
variable {w : World} {A A₀ : Around} {base h₀ : Heap} {env : Env} {outer : List Env} {L : Addr} {p : Program} {loose : List Str} {mean : ExcName → Option Value} {mg mb m : Str → Option Value} {s : Shared} {news rest lam : List (Addr × Obj)} {R : Result → Shared → Prop}
variable {x dx d n dn pr dp mr f tl : Addr} {qc : K5} {qn qp : K6} {mxv afv : Value} {od : Obj} {kvs : List (Int × Value)} {kn kp : Int} {tkn tkp : Tok} {vn pvp vp cp : Value} {ts : List Value} {tn : Nat}
theorem rn_1n (AM : Amb w A A₀ base h₀ env outer L p loose mean mg mb) (F : Fr h₀ L s.heap m)
    (N : News h₀ L s.heap ((x, instObj 175 dx) :: (dx, caO qc (.ref d) (.ref n) (.ref n) mxv afv) :: (d, od) :: (n, instObj 39 dn) :: (dn, ndO qn .none .none (.int kn tkn) vn .none) :: rest))
    (hD : [dx, d, dn].Nodup) (hI : ∀ a ∈ [dx, d, dn], x ≠ a ∧ n ≠ a) (hR : ∀ a ∈ [dx, d, dn], ∀ p ∈ rest, p.1 ≠ a) (hd : A.depth + 50 < recursionLimit) (hod : od.IsDictOf (intKind PySem.Challenge.rw_jh0006_01.row.prog w) kvs) (hv : valueAt kvs kn = some (.ref n)) (hz : kvs.length ≤ sizeLine)
    (h : ∀ h' tk od', Fr h₀ L h' m → News h₀ L h' ((x, instObj 175 dx) :: (dx, caO qc (.ref d) .none .none mxv afv) :: (d, od') :: (n, instObj 39 dn) :: (dn, ndO qn .none .none (.int kn tkn) .none .none) :: rest) → od'.IsDictOf (intKind PySem.Challenge.rw_jh0006_01.row.prog w) (without kvs kn) → R (.ok (.ret .none)) { s with heap := h', toks := tk }) :
    codeAny (model PySem.Challenge.rw_jh0006_01.row.prog w) A (.call (.ref 142) ⟨[.ref x, .ref n], []⟩) R s := by
  obtain ⟨B, X, T, hA, hf, hk, hh⟩ := AM
  simp only [List.forall_mem_cons, List.not_mem_nil, false_implies, implies_true, and_true] at hR hI
  simp only [List.nodup_cons, List.mem_cons, List.not_mem_nil, or_false, not_or, List.nodup_nil, and_true, not_false_eq_true] at hD
  obtain ⟨⟨_, _⟩, _⟩ := hD
  obtain ⟨⟨_, _⟩, ⟨_, _⟩, ⟨_, _⟩⟩ := hI
  obtain ⟨_, _, _⟩ := hR
  k_enter
  k_steps
  exact h _ _ _ (by assumption) (by assumption) (by assumption)
theorem rn_2n (AM : Amb w A A₀ base h₀ env outer L p loose mean mg mb) (F : Fr h₀ L s.heap m)
    (N : News h₀ L s.heap ((x, instObj 175 dx) :: (dx, caO qc (.ref d) (.ref mr) (.ref n) mxv afv) :: (d, od) :: (n, instObj 39 dn) :: (dn, ndO qn (.ref pr) .none (.int kn tkn) vn .none) :: (pr, instObj 39 dp) :: (dp, ndO qp pvp (.int kn tkn) (.int kp tkp) vp cp) :: rest))
    (hD : [dx, d, dp, dn].Nodup) (hI : ∀ a ∈ [dx, d, dp, dn], x ≠ a ∧ n ≠ a ∧ pr ≠ a) (hR : ∀ a ∈ [dx, d, dp, dn], ∀ p ∈ rest, p.1 ≠ a) (hd : A.depth + 50 < recursionLimit) (hod : od.IsDictOf (intKind PySem.Challenge.rw_jh0006_01.row.prog w) kvs) (hv : valueAt kvs kn = some (.ref n)) (hz : kvs.length ≤ sizeLine)
    (h : ∀ h' tk od', Fr h₀ L h' m → News h₀ L h' ((x, instObj 175 dx) :: (dx, caO qc (.ref d) (.ref mr) (.ref pr) mxv afv) :: (d, od') :: (n, instObj 39 dn) :: (dn, ndO qn .none .none (.int kn tkn) .none .none) :: (pr, instObj 39 dp) :: (dp, ndO qp pvp .none (.int kp tkp) vp cp) :: rest) → od'.IsDictOf (intKind PySem.Challenge.rw_jh0006_01.row.prog w) (without kvs kn) → R (.ok (.ret .none)) { s with heap := h', toks := tk }) :
    codeAny (model PySem.Challenge.rw_jh0006_01.row.prog w) A (.call (.ref 142) ⟨[.ref x, .ref n], []⟩) R s := by
  obtain ⟨B, X, T, hA, hf, hk, hh⟩ := AM
  simp only [List.forall_mem_cons, List.not_mem_nil, false_implies, implies_true, and_true] at hR hI
  simp only [List.nodup_cons, List.mem_cons, List.not_mem_nil, or_false, not_or, List.nodup_nil, and_true, not_false_eq_true] at hD
  obtain ⟨⟨_, _, _⟩, ⟨_, _⟩, _⟩ := hD
  obtain ⟨⟨_, _, _⟩, ⟨_, _, _⟩, ⟨_, _, _⟩, ⟨_, _, _⟩⟩ := hI
  obtain ⟨_, _, _, _⟩ := hR
  k_enter
  k_steps
  exact h _ _ _ (by assumption) (by assumption) (by assumption)
theorem rn_1l (AM : Amb w A A₀ base h₀ env outer L p loose mean mg mb) (F : Fr h₀ L s.heap m)
    (N : News h₀ L s.heap ((x, instObj 175 dx) :: (dx, caO qc (.ref d) (.ref n) (.ref n) mxv afv) :: (d, od) :: (n, instObj 39 dn) :: (dn, ndO qn .none .none (.int kn tkn) vn (.ref f)) :: (tl, listOf ts.toArray tn) :: (lam ++ rest)))
    (hD : [dx, d, dn, tl].Nodup) (hI : ∀ a ∈ [dx, d, dn, tl], x ≠ a ∧ n ≠ a) (hR : ∀ a ∈ [dx, d, dn, tl], ∀ p ∈ (lam ++ rest), p.1 ≠ a) (hd : A.depth + 50 < recursionLimit) (hod : od.IsDictOf (intKind PySem.Challenge.rw_jh0006_01.row.prog w) kvs) (hv : valueAt kvs kn = some (.ref n)) (hz : kvs.length ≤ sizeLine) (hu : A.units + 200 < cLine) (hts : ts.length ≤ 1000) (hvn : handedIn vn = true) (C : CbOk w f tl lam)
    (h : ∀ h' tk od' t tn', Fr h₀ L h' m → News h₀ L h' ((t, tuO [.int kn tkn, vn]) :: (x, instObj 175 dx) :: (dx, caO qc (.ref d) .none .none mxv afv) :: (d, od') :: (n, instObj 39 dn) :: (dn, ndO qn .none .none (.int kn tkn) .none .none) :: (tl, listOf (ts ++ [Value.ref t]).toArray tn') :: (lam ++ rest)) → od'.IsDictOf (intKind PySem.Challenge.rw_jh0006_01.row.prog w) (without kvs kn) → R (.ok (.ret .none)) { s with heap := h', toks := tk }) :
    codeAny (model PySem.Challenge.rw_jh0006_01.row.prog w) A (.call (.ref 142) ⟨[.ref x, .ref n], []⟩) R s := by
  obtain ⟨B, X, T, hA, hf, hk, hh⟩ := AM
  simp only [List.forall_mem_cons, List.not_mem_nil, false_implies, implies_true, and_true] at hR hI
  simp only [List.nodup_cons, List.mem_cons, List.not_mem_nil, or_false, not_or, List.nodup_nil, and_true, not_false_eq_true] at hD
  obtain ⟨⟨_, _, _⟩, ⟨_, _⟩, _⟩ := hD
  obtain ⟨⟨_, _⟩, ⟨_, _⟩, ⟨_, _⟩, ⟨_, _⟩⟩ := hI
  obtain ⟨_, _, _, _⟩ := hR
  k_enter
  k_steps
  exact h _ _ _ _ _ (by assumption) (by assumption) (by assumption)
theorem rn_2l (AM : Amb w A A₀ base h₀ env outer L p loose mean mg mb) (F : Fr h₀ L s.heap m)
    (N : News h₀ L s.heap ((x, instObj 175 dx) :: (dx, caO qc (.ref d) (.ref mr) (.ref n) mxv afv) :: (d, od) :: (n, instObj 39 dn) :: (dn, ndO qn (.ref pr) .none (.int kn tkn) vn (.ref f)) :: (pr, instObj 39 dp) :: (dp, ndO qp pvp (.int kn tkn) (.int kp tkp) vp cp) :: (tl, listOf ts.toArray tn) :: (lam ++ rest)))
    (hD : [dx, d, dp, dn, tl].Nodup) (hI : ∀ a ∈ [dx, d, dp, dn, tl], x ≠ a ∧ n ≠ a ∧ pr ≠ a) (hR : ∀ a ∈ [dx, d, dp, dn, tl], ∀ p ∈ (lam ++ rest), p.1 ≠ a) (hd : A.depth + 50 < recursionLimit) (hod : od.IsDictOf (intKind PySem.Challenge.rw_jh0006_01.row.prog w) kvs) (hv : valueAt kvs kn = some (.ref n)) (hz : kvs.length ≤ sizeLine) (hu : A.units + 200 < cLine) (hts : ts.length ≤ 1000) (hvn : handedIn vn = true) (C : CbOk w f tl lam)
    (h : ∀ h' tk od' t tn', Fr h₀ L h' m → News h₀ L h' ((t, tuO [.int kn tkn, vn]) :: (x, instObj 175 dx) :: (dx, caO qc (.ref d) (.ref mr) (.ref pr) mxv afv) :: (d, od') :: (n, instObj 39 dn) :: (dn, ndO qn .none .none (.int kn tkn) .none .none) :: (pr, instObj 39 dp) :: (dp, ndO qp pvp .none (.int kp tkp) vp cp) :: (tl, listOf (ts ++ [Value.ref t]).toArray tn') :: (lam ++ rest)) → od'.IsDictOf (intKind PySem.Challenge.rw_jh0006_01.row.prog w) (without kvs kn) → R (.ok (.ret .none)) { s with heap := h', toks := tk }) :
    codeAny (model PySem.Challenge.rw_jh0006_01.row.prog w) A (.call (.ref 142) ⟨[.ref x, .ref n], []⟩) R s := by
  obtain ⟨B, X, T, hA, hf, hk, hh⟩ := AM
  simp only [List.forall_mem_cons, List.not_mem_nil, false_implies, implies_true, and_true] at hR hI
  simp only [List.nodup_cons, List.mem_cons, List.not_mem_nil, or_false, not_or, List.nodup_nil, and_true, not_false_eq_true] at hD
  obtain ⟨⟨_, _, _, _⟩, ⟨_, _, _⟩, ⟨_, _⟩, _⟩ := hD
  obtain ⟨⟨_, _, _⟩, ⟨_, _, _⟩, ⟨_, _, _⟩, ⟨_, _, _⟩, ⟨_, _, _⟩⟩ := hI
  obtain ⟨_, _, _, _, _⟩ := hR
  k_enter
  k_steps
  exact h _ _ _ _ _ (by assumption) (by assumption) (by assumption)
end
end Mine
end
section
set_option maxHeartbeats 1000000
namespace Mine
def KeptT (tl : Addr) (news news' : List (Addr × Obj)) : Prop := ∀ p ∈ news, (∀ es n, p.2.data ≠ .dict es n) → p.1 ≠ tl → p ∈ news'
theorem KeptT.refl {tl : Addr} {news : List (Addr × Obj)} : KeptT tl news news := fun _ h _ _ => h
theorem KeptT.trans {tl : Addr} {n1 n2 n3 : List (Addr × Obj)} (h : KeptT tl n1 n2) (h' : KeptT tl n2 n3) : KeptT tl n1 n3 := fun p hp a b => h' p (h p hp a b) a b
theorem Kept.toT {tl : Addr} {D : List Addr} {news news' : List (Addr × Obj)} (K : Kept D news news') (hD : ∀ a ∈ D, a = tl ∨ ∃ o es n, (a, o) ∈ news ∧ o.data = .dict es n) {h₀ h : Heap} {L : Addr} (N : News h₀ L h news) : KeptT tl news news' := fun p hp hd ht => by
  refine K p hp fun hm => ?_
  rcases hD _ hm with e | ⟨o, es, n, ho, e⟩
  · exact ht e
  · have := news_fun N (show (p.1, p.2) ∈ news from hp) ho
    exact hd es n (by rw [this, e])
theorem Links.dicts {news : List (Addr × Obj)} {x dx d : Addr} {qc : K5} {row : List Nd} {mx af : Value} (I : Links news x dx d qc row mx af) : ∀ a ∈ dx :: row.map (·.da), ∃ o es n, (a, o) ∈ news ∧ o.data = .dict es n := by
  intro a ha
  rcases List.mem_cons.mp ha with rfl | ha
  · exact ⟨_, _, _, I.dic, rfl⟩
  · obtain ⟨n, hn, rfl⟩ := List.mem_map.mp ha
    have : ∀ {l : List Nd} {pv e : Value}, Chain news pv l e → ∀ n ∈ l, ∃ o es k, (n.da, o) ∈ news ∧ o.data = .dict es k := by
      intro l
      induction l with
      | nil => intro pv e _ n hn; exact absurd hn (by simp)
      | cons a r ih =>
        intro pv e h n hn
        rcases List.mem_cons.mp hn with rfl | hn
        · exact ⟨_, _, _, h.1.2, rfl⟩
        · exact ih h.2 n hn
    exact this I.ch n hn
theorem Links.keptT {news news' : List (Addr × Obj)} {x dx d tl : Addr} {qc : K5} {row : List Nd} {mx af : Value} (I : Links news x dx d qc row mx af) (K : Kept (dx :: row.map (·.da)) news news') {h₀ h : Heap} {L : Addr} (N : News h₀ L h news) : KeptT tl news news' :=
  K.toT (fun a ha => .inr (I.dicts a ha)) N

def TIt (news : List (Addr × Obj)) : List Value → List (Int × Value) → Prop
  | [], [] => True
  | t :: ts, g :: G => (∃ a kt, t = .ref a ∧ (a, tuO [.int g.1 kt, g.2]) ∈ news) ∧ TIt news ts G
  | _, _ => False
theorem TIt.length {news : List (Addr × Obj)} : ∀ {ts : List Value} {G : List (Int × Value)}, TIt news ts G → ts.length = G.length
  | [], [], _ => rfl
  | _ :: _, _ :: _, h => by simp [TIt.length h.2]
theorem TIt.mono {news news' : List (Addr × Obj)} (hs : ∀ a vs, (a, tuO vs) ∈ news → (a, tuO vs) ∈ news') : ∀ {ts : List Value} {G : List (Int × Value)}, TIt news ts G → TIt news' ts G
  | [], [], _ => trivial
  | _ :: _, _ :: _, ⟨⟨a, kt, e, h⟩, r⟩ => ⟨⟨a, kt, e, hs _ _ h⟩, TIt.mono hs r⟩
theorem TIt.snoc {news : List (Addr × Obj)} {a : Addr} {k : Int} {kt : Tok} {v : Value} (hm : (a, tuO [.int k kt, v]) ∈ news) : ∀ {ts : List Value} {G : List (Int × Value)}, TIt news ts G → TIt news (ts ++ [.ref a]) (G ++ [(k, v)])
  | [], [], _ => ⟨⟨a, kt, rfl, hm⟩, trivial⟩
  | _ :: _, _ :: _, ⟨h, r⟩ => ⟨h, TIt.snoc hm r⟩
theorem tuO_ne_list {vs ts : List Value} {n : Nat} : tuO vs ≠ listOf ts.toArray n := fun e => by
  have := congrArg Obj.cls e
  exact absurd (Value.type.inj this) (by decide)
theorem KeptT.tup {tl : Addr} {news news' : List (Addr × Obj)} (K : KeptT tl news news') {h₀ h : Heap} {L : Addr} (N : News h₀ L h news) {ts : List Value} {tn : Nat} (ht : (tl, listOf ts.toArray tn) ∈ news) : ∀ a vs, (a, tuO vs) ∈ news → (a, tuO vs) ∈ news' :=
  fun a vs h => K _ h (fun _ _ e => nomatch e) fun (e : a = tl) => tuO_ne_list (news_fun N (e ▸ h) ht)

def tells (n : Nd) : List (Int × Value) := if n.cb = .none then [] else [(n.k, n.v)]
def CbIn (w : World) (tl : Addr) (news : List (Addr × Obj)) (n : Nd) : Prop :=
  handedIn n.v = true ∧ (n.cb = .none ∨ ∃ f lam, n.cb = .ref f ∧ CbOk w f tl lam ∧ ∀ p ∈ lam, p ∈ news)
theorem CbIn.kept {w : World} {tl : Addr} {news news' : List (Addr × Obj)} {n : Nd} (C : CbIn w tl news n) (K : KeptT tl news news') {h₀ h : Heap} {L : Addr} (N : News h₀ L h news) {ts : List Value} {tn : Nat} (ht : (tl, listOf ts.toArray tn) ∈ news) : CbIn w tl news' n := by
  obtain ⟨h1, h2⟩ := C
  refine ⟨h1, h2.imp id ?_⟩
  rintro ⟨f, lam, e, c, hl⟩
  exact ⟨f, lam, e, c, fun p hp => K p (hl p hp) (c.2.1 p hp).1 fun e => (c.2.1 p hp).2 _ _ (by
    rw [news_fun N (show (tl, p.2) ∈ news from e ▸ hl p hp) ht])⟩

theorem lam_off {w : World} {f tl : Addr} {lam news : List (Addr × Obj)} (c : CbOk w f tl lam) (hl : ∀ p ∈ lam, p ∈ news) {h₀ h : Heap} {L : Addr} (N : News h₀ L h news) {a : Addr} {o : Obj} (ho : (a, o) ∈ news) (hd : (∃ es n, o.data = .dict es n) ∨ ∃ xs n, o.data = .seq xs n) : ∀ p ∈ lam, p.1 ≠ a := fun p hp => by
  refine news_ne N (hl p hp) ho ?_
  rcases hd with ⟨es, n, e⟩ | ⟨xs, n, e⟩ <;> rw [e]
  · exact (c.2.1 p hp).1 _ _
  · exact (c.2.1 p hp).2 _ _
theorem app_off {lam rest : List (Addr × Obj)} {a : Addr} (h1 : ∀ p ∈ lam, p.1 ≠ a) (h2 : ∀ p ∈ rest, p.1 ≠ a) : ∀ p ∈ lam ++ rest, p.1 ≠ a := fun p hp => (List.mem_append.mp hp).elim (h1 p) (h2 p)
theorem without_perm {kvs : List (Int × Value)} {row : List Nd} {n : Nd} (hp : kvs.Perm ((row ++ [n]).map fun n => (n.k, Value.ref n.a))) (hn : ((row ++ [n]).map (·.k)).Nodup) : (without kvs n.k).Perm (row.map fun n => (n.k, Value.ref n.a)) := by
  refine (hp.filter _).trans (List.Perm.of_eq ?_)
  rw [List.map_append, List.nodup_append] at hn
  rw [List.map_append, List.filter_append]
  have h1 : List.filter (fun kv => decide (kv.1 ≠ n.k)) (row.map fun n => (n.k, Value.ref n.a)) = row.map fun n => (n.k, Value.ref n.a) := by
    refine List.filter_eq_self.mpr fun p hp => ?_
    obtain ⟨m, hm, rfl⟩ := List.mem_map.mp hp
    exact decide_eq_true (hn.2.2 _ (List.mem_map_of_mem hm) _ (by simp))
  rw [h1]
  simp
theorem perm_le {kvs : List (Int × Value)} {row : List Nd} (hp : kvs.Perm (row.map fun n => (n.k, Value.ref n.a))) (hl : row.length ≤ 1000) : kvs.length ≤ sizeLine := by
  rw [hp.length_eq, List.length_map, sizeLine_eq]; omega
section
variable {w : World} {A A₀ : Around} {base h₀ : Heap} {env : Env} {outer : List Env} {L : Addr} {p : Program} {loose : List Str} {mean : ExcName → Option Value} {mg mb m : Str → Option Value} {s : Shared} {news : List (Addr × Obj)} {R : Result → Shared → Prop}
variable {x dx d tl : Addr} {qc : K5} {mx af : Value} {ts : List Value} {tn : Nat} {G : List (Int × Value)}

theorem C_rn_1 {n : Nd} (AM : Amb w A A₀ base h₀ env outer L p loose mean mg mb) (F : Fr h₀ L s.heap m) (N : News h₀ L s.heap news) (hd : A.depth + 50 < recursionLimit) (hu : A.units + 200 < cLine)
    (I : Links news x dx d qc [n] mx af) (M : MapIn w news d [n]) (C : CbIn w tl news n) (ht : (tl, listOf ts.toArray tn) ∈ news) (TI : TIt news ts G) (hts : ts.length ≤ 1000)
    (h : ∀ h' tk news' ts' tn', Fr h₀ L h' m → News h₀ L h' news' → Links news' x dx d qc [] mx af → MapIn w news' d [] → (tl, listOf ts'.toArray tn') ∈ news' → TIt news' ts' (G ++ tells n) → KeptT tl news news' → R (.ok (.ret .none)) { s with heap := h', toks := tk }) :
    codeAny (model PySem.Challenge.rw_jh0006_01.row.prog w) A (.call (.ref 142) ⟨[.ref x, .ref n.a], []⟩) R s := by
  have I' := I
  obtain ⟨i1, i2, ⟨⟨j1, j2⟩, _⟩, i4, i5, i6⟩ := I
  obtain ⟨od, kvs, m1, m2, m3, m4⟩ := M
  have hk := MapIn.keys ⟨od, kvs, m1, m2, m3, m4⟩
  have hv : valueAt kvs n.k = some (.ref n.a) := valueAt_perm m3 (isDict_nodup m2) (by simp)
  have hz := perm_le m3 (by simp)
  obtain ⟨oes, oep, _, od_, _⟩ := id m2
  rcases C.2 with e | ⟨f, lam, e, c, hl⟩
  · have ht1 : tells n = [] := by simp [tells, e]
    rw [ht1, List.append_nil] at h
    rw [e] at j2
    have hs : ∀ a ∈ [dx, d, n.da], a ∈ dx :: d :: [n].map (·.da) := fun a h => h
    refine rn_1n (x := x) (dx := dx) (d := d) (n := n.a) (dn := n.da) (rest := offs [dx, d, n.da] news) AM F
      (news_focus N [dx, d, n.da] [(x, instObj 175 dx), (dx, caO qc (.ref d) (.ref n.a) (.ref n.a) mx af), (d, od), (n.a, instObj 39 n.da), (n.da, ndO n.q .none .none (.int n.k n.tk) n.v .none)] ?_)
      i4 (fun a ha => ⟨I'.sep hs (by simp) a ha, I'.sep hs (by simp) a ha⟩) (fun a ha => offs_off ha) hd m2 hv hz (fun h' tk od' F' N' hod' => ?_)
    · simp only [List.forall_mem_cons]
      exact ⟨i1, i2, m1, j1, j2, fun _ h => nomatch h⟩
    · have K := kept_app (D := [dx, d, n.da]) (news := news) (ex := [(x, instObj 175 dx), (dx, caO qc (.ref d) .none .none mx af), (d, od'), (n.a, instObj 39 n.da), (n.da, ndO n.q .none .none (.int n.k n.tk) .none .none)])
      have K' := K.toT (tl := tl) (fun a ha => .inr (by
        simp only [List.mem_cons, List.not_mem_nil, or_false] at ha
        rcases ha with rfl | rfl | rfl
        · exact ⟨_, _, _, i2, rfl⟩
        · exact ⟨_, _, _, m1, od_⟩
        · exact ⟨_, _, _, j2, rfl⟩)) N
      refine h h' tk _ ts tn F' N' ⟨by k_mem, by k_mem, trivial, ?_, by simp, ?_⟩ ⟨od', _, by k_mem, hod', without_perm (row := []) m3 hk, m4⟩ ?_ (TI.mono (K'.tup N ht)) K'
      · exact i4.sublist (by simp)
      · intro i hi; exact fun q => i6 i (by simp at hi; simp [hi]) (by simp at q; rcases q with q | q <;> simp [q])
      · refine K _ ht fun q => ?_
        simp only [List.mem_cons, List.not_mem_nil, or_false] at q
        rcases q with rfl | rfl | rfl
        · exact news_ne N ht i2 (fun e => nomatch e) rfl
        · exact news_ne N ht m1 (by rw [od_]; exact fun e => nomatch e) rfl
        · exact news_ne N ht j2 (fun e => nomatch e) rfl
  · have ht1 : tells n = [(n.k, n.v)] := by simp [tells, e]
    rw [ht1] at h
    rw [e] at j2
    have hs : ∀ a ∈ [dx, d, n.da], a ∈ dx :: d :: [n].map (·.da) := fun a h => h
    have t1 := news_ne N ht i2 (fun e => nomatch e)
    have t2 := news_ne N ht m1 (by rw [od_]; exact fun e => nomatch e)
    have t3 := news_ne N ht j2 (fun e => nomatch e)
    have hsep : ∀ i ∈ [x, n.a], ∀ a ∈ [dx, d, n.da, tl], i ≠ a := by
      intro i hi a ha
      simp only [List.mem_cons, List.not_mem_nil, or_false] at ha
      have hi' : i ∈ x :: [n].map (·.a) := hi
      rcases ha with rfl | rfl | rfl | rfl
      · exact I'.sep hs hi' _ (by simp)
      · exact I'.sep hs hi' _ (by simp)
      · exact I'.sep hs hi' _ (by simp)
      · rcases List.mem_cons.mp hi with rfl | hi
        · exact news_ne N i1 ht (fun e => nomatch e)
        · rw [List.mem_singleton.mp hi]; exact news_ne N j1 ht (fun e => nomatch e)
    refine rn_1l (x := x) (dx := dx) (d := d) (n := n.a) (dn := n.da) (f := f) (tl := tl) (lam := lam) (ts := ts) (tn := tn) (rest := offs [dx, d, n.da, tl] news) AM F
      (news_sub N (news' := (x, instObj 175 dx) :: (dx, caO qc (.ref d) (.ref n.a) (.ref n.a) mx af) :: (d, od) :: (n.a, instObj 39 n.da) :: (n.da, ndO n.q .none .none (.int n.k n.tk) n.v (.ref f)) :: (tl, listOf ts.toArray tn) :: (lam ++ offs [dx, d, n.da, tl] news)) ?_) ?_ (fun a ha => ⟨hsep x (by simp) a ha, hsep n.a (by simp) a ha⟩) ?_ hd m2 hv hz hu hts C.1 c (fun h' tk od' t tn' F' N' hod' => ?_)
    · intro p hp
      simp only [List.mem_cons, List.mem_append] at hp
      rcases hp with rfl | rfl | rfl | rfl | rfl | rfl | hp | hp
      · exact i1
      · exact i2
      · exact m1
      · exact j1
      · exact j2
      · exact ht
      · exact hl p hp
      · exact (mem_offs.mp hp).1
    · exact (List.perm_append_comm (l₁ := [tl]) (l₂ := [dx, d, n.da])).nodup_iff.mp (List.nodup_cons.mpr ⟨by simp [t1, t2, t3], i4⟩)
    · intro a ha
      refine app_off ?_ (offs_off ha)
      simp only [List.mem_cons, List.not_mem_nil, or_false] at ha
      rcases ha with rfl | rfl | rfl | rfl
      · exact lam_off c hl N i2 (.inl ⟨_, _, rfl⟩)
      · exact lam_off c hl N m1 (.inl ⟨_, _, od_⟩)
      · exact lam_off c hl N j2 (.inl ⟨_, _, rfl⟩)
      · exact lam_off c hl N ht (.inr ⟨_, _, rfl⟩)
    · have K : Kept [dx, d, n.da, tl] news ((t, tuO [.int n.k n.tk, n.v]) :: (x, instObj 175 dx) :: (dx, caO qc (.ref d) .none .none mx af) :: (d, od') :: (n.a, instObj 39 n.da) :: (n.da, ndO n.q .none .none (.int n.k n.tk) .none .none) :: (tl, listOf (ts ++ [Value.ref t]).toArray tn') :: (lam ++ offs [dx, d, n.da, tl] news)) := fun p hp hn =>
        List.mem_append_right [_, _, _, _, _, _, _] (List.mem_append_right _ (mem_offs.mpr ⟨hp, hn⟩))
      have K' := K.toT (tl := tl) (fun a ha => by
        simp only [List.mem_cons, List.not_mem_nil, or_false] at ha
        rcases ha with rfl | rfl | rfl | rfl
        · exact .inr ⟨_, _, _, i2, rfl⟩
        · exact .inr ⟨_, _, _, m1, od_⟩
        · exact .inr ⟨_, _, _, j2, rfl⟩
        · exact .inl rfl) N
      refine h h' tk _ (ts ++ [.ref t]) tn' F' N' ⟨by k_mem, by k_mem, trivial, ?_, by simp, ?_⟩ ⟨od', _, by k_mem, hod', without_perm (row := []) m3 hk, m4⟩ (by k_mem) ((TI.mono (K'.tup N ht)).snoc (kt := n.tk) (by k_mem)) K'
      · exact i4.sublist (by simp)
      · intro i hi; exact fun q => i6 i (by simp at hi; simp [hi]) (by simp at q; rcases q with q | q <;> simp [q])

theorem C_rn_2 {n p1 : Nd} {r : List Nd} (AM : Amb w A A₀ base h₀ env outer L p loose mean mg mb) (F : Fr h₀ L s.heap m) (N : News h₀ L s.heap news) (hd : A.depth + 50 < recursionLimit) (hu : A.units + 200 < cLine)
    (I : Links news x dx d qc (r ++ [p1, n]) mx af) (M : MapIn w news d (r ++ [p1, n])) (hlen : r.length ≤ 900) (C : CbIn w tl news n) (ht : (tl, listOf ts.toArray tn) ∈ news) (TI : TIt news ts G) (hts : ts.length ≤ 1000)
    (h : ∀ h' tk news' ts' tn', Fr h₀ L h' m → News h₀ L h' news' → Links news' x dx d qc (r ++ [p1]) mx af → MapIn w news' d (r ++ [p1]) → (tl, listOf ts'.toArray tn') ∈ news' → TIt news' ts' (G ++ tells n) → KeptT tl news news' → R (.ok (.ret .none)) { s with heap := h', toks := tk }) :
    codeAny (model PySem.Challenge.rw_jh0006_01.row.prog w) A (.call (.ref 142) ⟨[.ref x, .ref n.a], []⟩) R s := by
  have I' := I
  obtain ⟨i1, i2, i3, i4, i5, i6⟩ := I
  obtain ⟨jr, ⟨j5, j6⟩, ⟨j1, j2⟩, _⟩ := (chain_append ..).mp i3
  obtain ⟨mr, em⟩ : ∃ mr, fsR (r ++ [p1, n]) .none = .ref mr := by cases r <;> exact ⟨_, rfl⟩
  have em' : fsR (r ++ [p1]) .none = .ref mr := by cases r <;> exact em
  have e : lsR (r ++ [p1, n]) .none = .ref n.a := by simp [lsR, lsR_append]
  have e' : lsR (r ++ [p1]) .none = .ref p1.a := by simp [lsR, lsR_append]
  rw [em, e] at i2
  have j6 : (p1.da, ndO p1.q (lsR r .none) (.int n.k n.tk) (.int p1.k p1.tk) p1.v p1.cb) ∈ news := j6
  have j2 : (n.da, ndO n.q (.ref p1.a) .none (.int n.k n.tk) n.v n.cb) ∈ news := j2
  obtain ⟨od, kvs, m1, m2, m3, m4⟩ := M
  have hk := MapIn.keys ⟨od, kvs, m1, m2, m3, m4⟩
  have hv : valueAt kvs n.k = some (.ref n.a) := valueAt_perm m3 (isDict_nodup m2) (List.mem_map.mpr ⟨n, by simp, rfl⟩)
  have hz := perm_le m3 (by simp; omega)
  have happ : r ++ [p1, n] = (r ++ [p1]) ++ [n] := by simp
  obtain ⟨oes, oep, _, od_, _⟩ := id m2
  have hs : ∀ a ∈ [dx, d, p1.da, n.da], a ∈ dx :: d :: (r ++ [p1, n]).map (·.da) := by simp
  have hD : [dx, d, p1.da, n.da].Nodup := i4.sublist (by
    simp only [List.map_append, List.map_cons, List.map_nil, List.cons_sublist_cons]
    exact List.sublist_append_of_sublist_right (List.Sublist.refl _))
  have hrd : ∀ k ∈ r, k.da ∉ [dx, d, p1.da, n.da] ∧ k.a ∉ [dx, d, p1.da, n.da] := by
    intro k hkm
    refine ⟨fun hq => ?_, fun hq => I'.sep hs (.tail _ (List.mem_map_of_mem (List.mem_append_left _ hkm))) _ hq rfl⟩
    have hk' := List.mem_map_of_mem (f := (·.da)) hkm
    simp only [List.map_append, List.map_cons, List.map_nil, List.nodup_cons, List.nodup_append, List.mem_append, List.mem_cons, List.not_mem_nil, or_false, not_or] at i4
    simp only [List.mem_cons, List.not_mem_nil, or_false] at hq
    rcases hq with q | q | q | q <;> rw [q] at hk' <;> grind
  have i4' : (dx :: d :: (r ++ [p1]).map (·.da)).Nodup := i4.sublist (by simp)
  have i5' : ((r ++ [p1]).map (·.a)).Nodup := i5.sublist (by simp)
  have i6' : ∀ i ∈ x :: (r ++ [p1]).map (·.a), i ∉ dx :: d :: (r ++ [p1]).map (·.da) := fun i hi hq => i6 i (List.Sublist.mem hi (by simp)) (List.Sublist.mem hq (by simp))
  rcases C.2 with ec | ⟨f, lam, ec, c, hl⟩
  · have ht1 : tells n = [] := by simp [tells, ec]
    rw [ht1, List.append_nil] at h
    rw [ec] at j2
    refine rn_2n (x := x) (dx := dx) (d := d) (n := n.a) (dn := n.da) (pr := p1.a) (dp := p1.da) (mr := mr) (rest := offs [dx, d, p1.da, n.da] news) AM F
      (news_focus N [dx, d, p1.da, n.da] [(x, instObj 175 dx), (dx, caO qc (.ref d) (.ref mr) (.ref n.a) mx af), (d, od), (n.a, instObj 39 n.da), (n.da, ndO n.q (.ref p1.a) .none (.int n.k n.tk) n.v .none), (p1.a, instObj 39 p1.da), (p1.da, ndO p1.q (lsR r .none) (.int n.k n.tk) (.int p1.k p1.tk) p1.v p1.cb)] ?_)
      hD (fun a ha => ⟨I'.sep hs (by simp) a ha, I'.sep hs (by simp) a ha, I'.sep hs (by simp) a ha⟩) (fun a ha => offs_off ha) hd m2 hv hz (fun h' tk od' F' N' hod' => ?_)
    · simp only [List.forall_mem_cons]
      exact ⟨i1, i2, m1, j1, j2, j5, j6, fun _ h => nomatch h⟩
    · have K := kept_app (D := [dx, d, p1.da, n.da]) (news := news) (ex := [(x, instObj 175 dx), (dx, caO qc (.ref d) (.ref mr) (.ref p1.a) mx af), (d, od'), (n.a, instObj 39 n.da), (n.da, ndO n.q .none .none (.int n.k n.tk) .none .none), (p1.a, instObj 39 p1.da), (p1.da, ndO p1.q (lsR r .none) .none (.int p1.k p1.tk) p1.v p1.cb)])
      have K' := K.toT (tl := tl) (fun a ha => .inr (by
        simp only [List.mem_cons, List.not_mem_nil, or_false] at ha
        rcases ha with rfl | rfl | rfl | rfl
        · exact ⟨_, _, _, i2, rfl⟩
        · exact ⟨_, _, _, m1, od_⟩
        · exact ⟨_, _, _, j6, rfl⟩
        · exact ⟨_, _, _, j2, rfl⟩)) N
      have hr' := jr.kept K (fun k hk => ⟨(hrd k hk).2, (hrd k hk).1⟩)
      refine h h' tk _ ts tn F' N' ⟨by k_mem, ?_, (chain_append ..).mpr ⟨hr', ⟨by k_mem, by k_mem⟩, trivial⟩, i4', i5', i6'⟩ ⟨od', _, by k_mem, hod', without_perm (row := r ++ [p1]) (happ ▸ m3) (happ ▸ hk), m4⟩ ?_ (TI.mono (K'.tup N ht)) K'
      · rw [em', e']; k_mem
      · refine K _ ht fun q => ?_
        simp only [List.mem_cons, List.not_mem_nil, or_false] at q
        rcases q with rfl | rfl | rfl | rfl
        · exact news_ne N ht i2 (fun e => nomatch e) rfl
        · exact news_ne N ht m1 (by rw [od_]; exact fun e => nomatch e) rfl
        · exact news_ne N ht j6 (fun e => nomatch e) rfl
        · exact news_ne N ht j2 (fun e => nomatch e) rfl
  · have ht1 : tells n = [(n.k, n.v)] := by simp [tells, ec]
    rw [ht1] at h
    rw [ec] at j2
    have t1 := news_ne N ht i2 (fun e => nomatch e)
    have t2 := news_ne N ht m1 (by rw [od_]; exact fun e => nomatch e)
    have t3 := news_ne N ht j2 (fun e => nomatch e)
    have t4 := news_ne N ht j6 (fun e => nomatch e)
    have hsep : ∀ i ∈ [x, n.a, p1.a], ∀ a ∈ [dx, d, p1.da, n.da, tl], i ≠ a := by
      intro i hi a ha
      have hi' : i ∈ x :: (r ++ [p1, n]).map (·.a) := by simp at hi ⊢; grind
      by_cases hat : a = tl
      · subst hat
        simp only [List.mem_cons, List.not_mem_nil, or_false] at hi
        rcases hi with rfl | rfl | rfl
        · exact news_ne N i1 ht (fun e => nomatch e)
        · exact news_ne N j1 ht (fun e => nomatch e)
        · exact news_ne N j5 ht (fun e => nomatch e)
      · exact I'.sep hs hi' a (by simp at ha ⊢; grind)
    refine rn_2l (x := x) (dx := dx) (d := d) (n := n.a) (dn := n.da) (pr := p1.a) (dp := p1.da) (mr := mr) (f := f) (tl := tl) (lam := lam) (ts := ts) (tn := tn) (rest := offs [dx, d, p1.da, n.da, tl] news) AM F
      (news_sub N (news' := (x, instObj 175 dx) :: (dx, caO qc (.ref d) (.ref mr) (.ref n.a) mx af) :: (d, od) :: (n.a, instObj 39 n.da) :: (n.da, ndO n.q (.ref p1.a) .none (.int n.k n.tk) n.v (.ref f)) :: (p1.a, instObj 39 p1.da) :: (p1.da, ndO p1.q (lsR r .none) (.int n.k n.tk) (.int p1.k p1.tk) p1.v p1.cb) :: (tl, listOf ts.toArray tn) :: (lam ++ offs [dx, d, p1.da, n.da, tl] news)) ?_) ?_ (fun a ha => ⟨hsep x (by simp) a ha, hsep n.a (by simp) a ha, hsep p1.a (by simp) a ha⟩) ?_ hd m2 hv hz hu hts C.1 c (fun h' tk od' t tn' F' N' hod' => ?_)
    · intro p hp
      simp only [List.mem_cons, List.mem_append] at hp
      rcases hp with rfl | rfl | rfl | rfl | rfl | rfl | rfl | rfl | hp | hp
      · exact i1
      · exact i2
      · exact m1
      · exact j1
      · exact j2
      · exact j5
      · exact j6
      · exact ht
      · exact hl p hp
      · exact (mem_offs.mp hp).1
    · exact (List.perm_append_comm (l₁ := [tl]) (l₂ := [dx, d, p1.da, n.da])).nodup_iff.mp (List.nodup_cons.mpr ⟨by simp [t1, t2, t3, t4], hD⟩)
    · intro a ha
      refine app_off ?_ (offs_off ha)
      simp only [List.mem_cons, List.not_mem_nil, or_false] at ha
      rcases ha with rfl | rfl | rfl | rfl | rfl
      · exact lam_off c hl N i2 (.inl ⟨_, _, rfl⟩)
      · exact lam_off c hl N m1 (.inl ⟨_, _, od_⟩)
      · exact lam_off c hl N j6 (.inl ⟨_, _, rfl⟩)
      · exact lam_off c hl N j2 (.inl ⟨_, _, rfl⟩)
      · exact lam_off c hl N ht (.inr ⟨_, _, rfl⟩)
    · have K : Kept [dx, d, p1.da, n.da, tl] news ((t, tuO [.int n.k n.tk, n.v]) :: (x, instObj 175 dx) :: (dx, caO qc (.ref d) (.ref mr) (.ref p1.a) mx af) :: (d, od') :: (n.a, instObj 39 n.da) :: (n.da, ndO n.q .none .none (.int n.k n.tk) .none .none) :: (p1.a, instObj 39 p1.da) :: (p1.da, ndO p1.q (lsR r .none) .none (.int p1.k p1.tk) p1.v p1.cb) :: (tl, listOf (ts ++ [Value.ref t]).toArray tn') :: (lam ++ offs [dx, d, p1.da, n.da, tl] news)) := fun p hp hn =>
        List.mem_append_right [_, _, _, _, _, _, _, _, _] (List.mem_append_right _ (mem_offs.mpr ⟨hp, hn⟩))
      have K' := K.toT (tl := tl) (fun a ha => by
        simp only [List.mem_cons, List.not_mem_nil, or_false] at ha
        rcases ha with rfl | rfl | rfl | rfl | rfl
        · exact .inr ⟨_, _, _, i2, rfl⟩
        · exact .inr ⟨_, _, _, m1, od_⟩
        · exact .inr ⟨_, _, _, j6, rfl⟩
        · exact .inr ⟨_, _, _, j2, rfl⟩
        · exact .inl rfl) N
      have hchd : ∀ k ∈ r, ∃ o es n', (k.da, o) ∈ news ∧ o.data = .dict es n' := fun k hk => I'.dicts k.da (.tail _ (List.mem_map_of_mem (List.mem_append_left _ hk)))
      have hr' := jr.kept K (fun k hk => ⟨fun q => by
          by_cases hkt : k.a = tl
          · exact news_ne N (chain_inst jr k hk) ht (fun e => nomatch e) hkt
          · exact (hrd k hk).2 (by simp at q ⊢; grind), fun q => by
          by_cases hkt : k.da = tl
          · obtain ⟨o, es, n', ho, eo⟩ := hchd k hk
            exact news_ne N ho ht (by rw [eo]; exact fun e => nomatch e) hkt
          · exact (hrd k hk).1 (by simp at q ⊢; grind)⟩)
      refine h h' tk _ (ts ++ [.ref t]) tn' F' N' ⟨by k_mem, ?_, (chain_append ..).mpr ⟨hr', ⟨by k_mem, by k_mem⟩, trivial⟩, i4', i5', i6'⟩ ⟨od', _, by k_mem, hod', without_perm (row := r ++ [p1]) (happ ▸ m3) (happ ▸ hk), m4⟩ (by k_mem) ((TI.mono (K'.tup N ht)).snoc (kt := n.tk) (by k_mem)) K'
      rw [em', e']; k_mem
end
end Mine
end
theorem Mine.top_off_p08 : True := by
  w_top off
  try walk1
  trivial
section
namespace Mine
theorem tells_len : ∀ l : List Nd, (l.flatMap tells).length ≤ l.length
  | [] => Nat.le_refl _
  | a :: r => by
    rw [List.flatMap_cons, List.length_append, List.length_cons]
    have h1 : (tells a).length ≤ 1 := by unfold tells; split <;> simp
    have h2 := tells_len r
    omega
section
local macro_rules | `(tactic| walk_at "call ref") => `(tactic| (k_here; (with_reducible show wpAny _ _ (call (Value.ref _) _ _) _ _ _); refine Mine.stop ?_))
variable {w : World} {A A₀ : Around} {base h₀ : Heap} {env : Env} {outer : List Env} {L : Addr} {p : Program} {loose : List Str} {mean : ExcName → Option Value} {mg mb m : Str → Option Value} {s : Shared} {news : List (Addr × Obj)} {R : Result → Shared → Prop}
variable {x dx d tl : Addr} {qc : K5} {mx af : Value} {ts : List Value} {tn : Nat} {G : List (Int × Value)}

theorem C_rn {n : Nd} {r : List Nd} (AM : Amb w A A₀ base h₀ env outer L p loose mean mg mb) (F : Fr h₀ L s.heap m) (N : News h₀ L s.heap news) (hd : A.depth + 50 < recursionLimit) (hu : A.units + 200 < cLine)
    (I : Links news x dx d qc (r ++ [n]) mx af) (M : MapIn w news d (r ++ [n])) (hlen : r.length ≤ 900) (C : CbIn w tl news n) (ht : (tl, listOf ts.toArray tn) ∈ news) (TI : TIt news ts G) (hts : ts.length ≤ 1000)
    (h : ∀ h' tk news' ts' tn', Fr h₀ L h' m → News h₀ L h' news' → Links news' x dx d qc r mx af → MapIn w news' d r → (tl, listOf ts'.toArray tn') ∈ news' → TIt news' ts' (G ++ tells n) → KeptT tl news news' → R (.ok (.ret .none)) { s with heap := h', toks := tk }) :
    codeAny (model PySem.Challenge.rw_jh0006_01.row.prog w) A (.call (.ref 142) ⟨[.ref x, .ref n.a], []⟩) R s := by
  rcases List.eq_nil_or_concat r with rfl | ⟨r', p1, rfl⟩
  · exact C_rn_1 AM F N hd hu I M C ht TI hts h
  · simp only [List.concat_eq_append, List.append_assoc, List.singleton_append] at I M hlen
    exact C_rn_2 AM F N hd hu I M (by simp at hlen; omega) C ht TI hts (by simpa using h)

theorem C_rl {n : Nd} {r : List Nd} (AM : Amb w A A₀ base h₀ env outer L p loose mean mg mb) (F : Fr h₀ L s.heap m) (N : News h₀ L s.heap news) (hd : A.depth + 60 < recursionLimit) (hu : A.units + 220 < cLine)
    (I : Links news x dx d qc (r ++ [n]) mx af) (M : MapIn w news d (r ++ [n])) (hlen : r.length ≤ 900) (C : CbIn w tl news n) (ht : (tl, listOf ts.toArray tn) ∈ news) (TI : TIt news ts G) (hts : ts.length ≤ 1000)
    (h : ∀ h' tk news' ts' tn', Fr h₀ L h' m → News h₀ L h' news' → Links news' x dx d qc r mx af → MapIn w news' d r → (tl, listOf ts'.toArray tn') ∈ news' → TIt news' ts' (G ++ tells n) → KeptT tl news news' → R (.ok (.ret .none)) { s with heap := h', toks := tk }) :
    codeAny (model PySem.Challenge.rw_jh0006_01.row.prog w) A (.call (.ref 149) ⟨[.ref x], []⟩) R s := by
  have i1 := I.inst
  have i2 := I.dic
  have e : lsR (r ++ [n]) .none = .ref n.a := by simp [lsR, lsR_append]
  rw [e] at i2
  have j1 : (n.a, instObj 39 n.da) ∈ news := chain_inst I.ch n (by simp)
  have j2 : ∃ q es k, (n.da, dictOf q k) ∈ news ∧ q = es := by
    obtain ⟨_, ⟨_, j⟩, _⟩ := (chain_append ..).mp I.ch
    exact ⟨_, _, _, j, rfl⟩
  obtain ⟨q, _, k, j2, _⟩ := j2
  obtain ⟨B, X, T, hA, hf, hk, hh⟩ := AM
  k_enter
  k_steps
  unfold Stop
  rename News _ _ _ _ => N1
  rename Fr _ _ _ _ => F1
  rename Below _ _ _ _ => B1
  rename Top _ _ _ _ _ _ => T1
  rename Frag.In _ _ => X1
  refine wpAny_call (C_rn (Amb.deep hh B1 X1 T1 rfl rfl) F1 N1 (by k_room) (by k_units) I M hlen C ht TI hts fun h2 tk2 news2 ts2 tn2 F2 N2 I2 M2 ht2 TI2 K2 => ?_)
  clear F1 N1
  dsimp only
  k_steps
  rename News _ _ _ _ => N3
  rename Fr _ _ _ _ => F3
  exact h _ _ _ _ _ F3 N3 I2 M2 ht2 TI2 K2

local macro_rules | `(tactic| walk_at "exec While Compare cons nil") => `(tactic| (k_here; refine Mine.stop ?_))
local macro_rules | `(tactic| walk_at "exec While Attribute") => `(tactic| (k_here; refine Mine.stop ?_))

theorem C_cleanup {row : List Nd} {afi : Int} {ta : Tok} (AM : Amb w A A₀ base h₀ env outer L p loose mean mg mb) (F : Fr h₀ L s.heap m) (N : News h₀ L s.heap news) (hd : A.depth + 70 < recursionLimit) (hu : A.units + 240 < cLine)
    (I : Links news x dx d qc row mx (.int afi ta)) (M : MapIn w news d row) (hlen : row.length + G.length ≤ 800) (h0 : 0 ≤ afi) (C : ∀ n ∈ row, CbIn w tl news n) (ht : (tl, listOf ts.toArray tn) ∈ news) (TI : TIt news ts G)
    (h : ∀ h' tk news' ts' tn', Fr h₀ L h' m → News h₀ L h' news' → Links news' x dx d qc (row.take afi.toNat) mx (.int afi ta) → MapIn w news' d (row.take afi.toNat) → (tl, listOf ts'.toArray tn') ∈ news' → TIt news' ts' (G ++ (row.drop afi.toNat).reverse.flatMap tells) → KeptT tl news news' → R (.ok (.ret .none)) { s with heap := h', toks := tk }) :
    codeAny (model PySem.Challenge.rw_jh0006_01.row.prog w) A (.call (.ref 121) ⟨[.ref x], []⟩) R s := by
  obtain ⟨B, X, T, hA, hf, hk, hh⟩ := AM
  k_enter
  k_steps
  unfold Stop
  rename News _ _ _ _ => N1
  rename Fr _ _ _ _ => F1
  rename Below _ _ _ _ => B1
  rename Top _ _ _ _ _ _ => T1
  rename Frag.In _ _ => X1
  refine While_inv2 (n₀ := row.length) (fun n m1 n1 => m1 = _ ∧ n ≤ row.length ∧ (n = row.length ∨ afi ≤ n) ∧ ∃ ts1 tn1, Links n1 x dx d qc (row.take n) mx (.int afi ta) ∧ MapIn w n1 d (row.take n) ∧ (tl, listOf ts1.toArray tn1) ∈ n1 ∧ TIt n1 ts1 (G ++ (row.drop n).reverse.flatMap tells) ∧ KeptT tl news n1) F1 N1 ⟨rfl, Nat.le_refl _, .inl rfl, ts, tn, by simpa using I, by simpa using M, ht, by simpa using TI, KeptT.refl⟩ ?_ ?_
  · rintro n _ n1 h1 tk1 F2 N2 ⟨rfl, hn, hn2, ts1, tn1, I2, M2, ht2, TI2, K2⟩
    clear F1 N1
    have a1 := I2.inst
    have a2 := I2.dic
    obtain ⟨od, kvs, m1, m2, m3, m4⟩ := id M2
    have hkl : kvs.length = n := by rw [m3.length_eq, List.length_map, List.length_take]; omega
    have hz : kvs.length ≤ 16777216 := by omega
    k_steps
    · unfold Stop
      rename afi < _ => hc
      rw [hkl] at hc
      obtain ⟨n', rfl⟩ : ∃ n', n = n' + 1 := ⟨n - 1, by omega⟩
      have hlt : n' < row.length := by omega
      have e1 : row.take (n' + 1) = row.take n' ++ [row[n']] := List.take_succ_eq_append_getElem hlt
      have e2 : row.drop n' = row[n'] :: row.drop (n' + 1) := List.drop_eq_getElem_cons hlt
      rw [e1] at I2 M2
      have hCn : CbIn w tl n1 row[n'] := (C _ (List.getElem_mem hlt)).kept K2 N ht
      have hts : ts1.length ≤ 1000 := by
        have h1 := tells_len (row.drop (n' + 1)).reverse
        rw [TI2.length, List.length_append]
        rw [List.length_reverse, List.length_drop] at h1
        omega
      rename Fr _ _ _ _ => F3
      rename News _ _ _ _ => N3
      refine wpAny_call (C_rl (Amb.deep hh B1 X1 T1 rfl rfl) F3 N3 (by k_room) (by k_units) I2 M2 (by rw [List.length_take]; omega) hCn ht2 TI2 hts fun h2 tk2 news2 ts2 tn2 F4 N4 I4 M4 ht4 TI4 K4 => ?_)
      clear F3 N3
      dsimp only
      k_steps
      rename Fr _ _ _ _ => F5
      rename News _ _ _ _ => N5
      refine ⟨_, _, _, _, n', rfl, F5, N5, Nat.lt_succ_self _, rfl, by omega, by omega, ts2, tn2, I4, M4, ht4, ?_, K2.trans K4⟩
      rw [e2, List.reverse_cons, List.flatMap_append, ← List.append_assoc]
      simpa using TI4
    · rename ¬ _ => hc
      have hlt : ¬ afi < (n : Int) := by rw [hkl] at hc; exact hc
      have e1 : row.take n = row.take afi.toNat ∧ row.drop n = row.drop afi.toNat := by
        rcases hn2 with rfl | hn2
        · rw [List.take_of_length_le (Nat.le_refl _), List.take_of_length_le (by omega), List.drop_of_length_le (Nat.le_refl _), List.drop_of_length_le (by omega)]
          exact ⟨rfl, rfl⟩
        · have : n = afi.toNat := by omega
          rw [this]; exact ⟨rfl, rfl⟩
      rw [e1.1] at I2 M2
      rw [e1.2] at TI2
      rename News _ _ _ _ => N3
      rename Fr _ _ _ _ => F3
      exact h _ _ _ _ _ F3 N3 I2 M2 ht2 TI2 K2
  · with_unfolding_all passes_own

local macro_rules | `(tactic| walk_at "truthy ref") => `(tactic| (k_here; k_dflt (refine wpAny_truthy_dict (knd := PySem.intKind _ _) (by assumption) (kda_dict (by k_asm) (by k_mem) (by assumption)) (by assumption) ?_)))
theorem C_clear {row : List Nd} (AM : Amb w A A₀ base h₀ env outer L p loose mean mg mb) (F : Fr h₀ L s.heap m) (N : News h₀ L s.heap news) (hd : A.depth + 70 < recursionLimit) (hu : A.units + 240 < cLine)
    (I : Links news x dx d qc row mx af) (M : MapIn w news d row) (hlen : row.length + G.length ≤ 800) (C : ∀ n ∈ row, CbIn w tl news n) (ht : (tl, listOf ts.toArray tn) ∈ news) (TI : TIt news ts G)
    (h : ∀ h' tk news' ts' tn', Fr h₀ L h' m → News h₀ L h' news' → Links news' x dx d qc [] mx af → MapIn w news' d [] → (tl, listOf ts'.toArray tn') ∈ news' → TIt news' ts' (G ++ row.reverse.flatMap tells) → KeptT tl news news' → R (.ok (.ret .none)) { s with heap := h', toks := tk }) :
    codeAny (model PySem.Challenge.rw_jh0006_01.row.prog w) A (.call (.ref 156) ⟨[.ref x], []⟩) R s := by
  obtain ⟨B, X, T, hA, hf, hk, hh⟩ := AM
  k_enter
  k_steps
  unfold Stop
  rename News _ _ _ _ => N1
  rename Fr _ _ _ _ => F1
  rename Below _ _ _ _ => B1
  rename Top _ _ _ _ _ _ => T1
  rename Frag.In _ _ => X1
  refine While_inv2 (n₀ := row.length) (fun n m1 n1 => m1 = _ ∧ n ≤ row.length ∧ ∃ ts1 tn1, Links n1 x dx d qc (row.take n) mx af ∧ MapIn w n1 d (row.take n) ∧ (tl, listOf ts1.toArray tn1) ∈ n1 ∧ TIt n1 ts1 (G ++ (row.drop n).reverse.flatMap tells) ∧ KeptT tl news n1) F1 N1 ⟨rfl, Nat.le_refl _, ts, tn, by simpa using I, by simpa using M, ht, by simpa using TI, KeptT.refl⟩ ?_ ?_
  · rintro n _ n1 h1 tk1 F2 N2 ⟨rfl, hn, ts1, tn1, I2, M2, ht2, TI2, K2⟩
    clear F1 N1
    have a1 := I2.inst
    have a2 := I2.dic
    obtain ⟨od, kvs, m1, m2, m3, m4⟩ := id M2
    have hkl : kvs.length = n := by rw [m3.length_eq, List.length_map, List.length_take]; omega
    have hz : (kvs.length : Int) < 2 ^ 63 := by omega
    k_steps
    · rename kvs.isEmpty = true => hc
      have hn0 : n = 0 := by rw [← hkl]; simpa using hc
      subst hn0
      rename News _ _ _ _ => N3
      rename Fr _ _ _ _ => F3
      exact h _ _ _ _ _ F3 N3 (by simpa using I2) (by simpa using M2) ht2 (by simpa using TI2) K2
    · unfold Stop
      rename kvs.isEmpty = false => hc
      have hn0 : n ≠ 0 := fun e => by
        rw [e] at hkl
        rw [List.length_eq_zero_iff.mp hkl] at hc
        cases hc
      obtain ⟨n', rfl⟩ : ∃ n', n = n' + 1 := ⟨n - 1, by omega⟩
      have hlt : n' < row.length := by omega
      have e1 : row.take (n' + 1) = row.take n' ++ [row[n']] := List.take_succ_eq_append_getElem hlt
      have e2 : row.drop n' = row[n'] :: row.drop (n' + 1) := List.drop_eq_getElem_cons hlt
      rw [e1] at I2 M2
      have hCn : CbIn w tl n1 row[n'] := (C _ (List.getElem_mem hlt)).kept K2 N ht
      have hts : ts1.length ≤ 1000 := by
        have h1 := tells_len (row.drop (n' + 1)).reverse
        rw [TI2.length, List.length_append]
        rw [List.length_reverse, List.length_drop] at h1
        omega
      rename Fr _ _ _ _ => F3
      rename News _ _ _ _ => N3
      refine wpAny_call (C_rl (Amb.deep hh B1 X1 T1 rfl rfl) F3 N3 (by k_room) (by k_units) I2 M2 (by rw [List.length_take]; omega) hCn ht2 TI2 hts fun h2 tk2 news2 ts2 tn2 F4 N4 I4 M4 ht4 TI4 K4 => ?_)
      clear F3 N3
      dsimp only
      k_steps
      rename Fr _ _ _ _ => F5
      rename News _ _ _ _ => N5
      refine ⟨_, _, _, _, n', rfl, F5, N5, Nat.lt_succ_self _, rfl, by omega, ts2, tn2, I4, M4, ht4, ?_, K2.trans K4⟩
      rw [e2, List.reverse_cons, List.flatMap_append, ← List.append_assoc]
      simpa using TI4
  · with_unfolding_all passes_own
end
end Mine
end
theorem Mine.top_off_p09 : True := by
  w_top off
  try walk1
  trivial
section
namespace Mine
def afOf (M : Int) : Option Int → Int
  | none => (M * 8).fdiv 10
  | some c => if M < c then M else c
theorem afOf_nonneg {M : Int} {o : Option Int} (hM : 0 ≤ M) (ho : ∀ c, o = some c → 0 ≤ c) : 0 ≤ afOf M o := by
  cases o with
  | none => unfold afOf; dsimp only; rw [Int.fdiv_eq_ediv_of_nonneg _ (by decide)]; omega
  | some c => have := ho c rfl; unfold afOf; dsimp only; split <;> omega
def lsV : Option Int → Tok → Value
  | none, _ => .none
  | some c, t => .int c t
section
local macro_rules | `(tactic| walk_at "call ref") => `(tactic| (k_here; (with_reducible show wpAny _ _ (call (Value.ref _) _ _) _ _ _); refine Mine.stop ?_))
variable {w : World} {A A₀ : Around} {base h₀ : Heap} {env : Env} {outer : List Env} {L : Addr} {p : Program} {loose : List Str} {mean : ExcName → Option Value} {mg mb m : Str → Option Value} {s : Shared} {news rest : List (Addr × Obj)} {R : Result → Shared → Prop}
variable {x dx d tl : Addr} {qc : K5} {mx af : Value} {ts : List Value} {tn : Nat} {G : List (Int × Value)}

theorem C_umc {row : List Nd} {M : Int} {tm tc : Tok} {o : Option Int} (AM : Amb w A A₀ base h₀ env outer L p loose mean mg mb) (F : Fr h₀ L s.heap m) (N : News h₀ L s.heap news) (hd : A.depth + 80 < recursionLimit) (hu : A.units + 260 < cLine)
    (I : Links news x dx d qc row mx af) (Mp : MapIn w news d row) (hlen : row.length + G.length ≤ 800) (hM : 0 ≤ M) (hM2 : M ≤ 100) (ho : ∀ c, o = some c → 0 ≤ c) (C : ∀ n ∈ row, CbIn w tl news n) (ht : (tl, listOf ts.toArray tn) ∈ news) (TI : TIt news ts G)
    (h : ∀ h' tk news' ts' tn' ta, Fr h₀ L h' m → News h₀ L h' news' → Links news' x dx d qc (row.take (afOf M o).toNat) (.int M tm) (.int (afOf M o) ta) → MapIn w news' d (row.take (afOf M o).toNat) → (tl, listOf ts'.toArray tn') ∈ news' → TIt news' ts' (G ++ (row.drop (afOf M o).toNat).reverse.flatMap tells) → KeptT tl news news' → R (.ok (.ret .none)) { s with heap := h', toks := tk }) :
    codeAny (model PySem.Challenge.rw_jh0006_01.row.prog w) A (.call (.ref 172) ⟨[.ref x, .int M tm, lsV o tc], []⟩) R s := by
  have i1 := I.inst
  have i2 := I.dic
  have hx : x ≠ dx := news_ne N i1 i2 (fun e => nomatch e)
  have hR : ∀ p ∈ offs [dx] news, p.1 ≠ dx := offs_off (by simp)
  have N0 := news_focus N [dx] [(x, instObj 175 dx), (dx, caO qc (.ref d) (fsR row .none) (lsR row .none) mx af)] (by
    simp only [List.forall_mem_cons]
    exact ⟨i1, i2, fun _ h => nomatch h⟩)
  have key : ∀ ta, Links ([(x, instObj 175 dx), (dx, caO qc (.ref d) (fsR row .none) (lsR row .none) (.int M tm) (.int (afOf M o) ta))] ++ offs [dx] news) x dx d qc row (.int M tm) (.int (afOf M o) ta) ∧ MapIn w ([(x, instObj 175 dx), (dx, caO qc (.ref d) (fsR row .none) (lsR row .none) (.int M tm) (.int (afOf M o) ta))] ++ offs [dx] news) d row ∧ KeptT tl news ([(x, instObj 175 dx), (dx, caO qc (.ref d) (fsR row .none) (lsR row .none) (.int M tm) (.int (afOf M o) ta))] ++ offs [dx] news) ∧ (tl, listOf ts.toArray tn) ∈ ([(x, instObj 175 dx), (dx, caO qc (.ref d) (fsR row .none) (lsR row .none) (.int M tm) (.int (afOf M o) ta))] ++ offs [dx] news) := by
    intro ta
    have K : Kept [dx] news ([(x, instObj 175 dx), (dx, caO qc (.ref d) (fsR row .none) (lsR row .none) (.int M tm) (.int (afOf M o) ta))] ++ offs [dx] news) := kept_app
    have hsub : ∀ a ∈ [dx], a ∈ dx :: row.map (·.da) := by simp
    refine ⟨⟨.head _, .tail _ (.head _), chain_keptL I hsub K I.ch (fun _ h => h) ?_, I.adr, I.ia, I.ins⟩, Mp.kept K ?_, K.toT (fun a ha => .inr (I.dicts a (hsub a ha))) N, K _ ht ?_⟩
    · intro n hn hq
      have h1 := (List.nodup_cons.mp I.adr).1
      rw [← List.mem_singleton.mp hq] at h1
      exact h1 (.tail _ (List.mem_map_of_mem hn))
    · intro hq
      have h1 := (List.nodup_cons.mp I.adr).1
      rw [← List.mem_singleton.mp hq] at h1
      exact h1 (.head _)
    · intro hq
      exact news_ne N ht i2 (fun e => nomatch e) (List.mem_singleton.mp hq)
  have N00 := (⟨_, _, _, N⟩ : ∃ a b c, News a b c news)
  clear N i1 i2
  obtain ⟨hz, Lz, hz2, N00⟩ := N00
  obtain ⟨B, X, T, hA, hf, hk, hh⟩ := AM
  cases o with
  | none =>
    show codeAny _ _ (.call (.ref 172) ⟨[.ref x, .int M tm, .none], []⟩) R s
    simp only [List.cons_append, List.nil_append] at N0 key
    k_enter
    k_steps
    unfold Stop
    rename News _ _ _ _ => N1
    rename Fr _ _ _ _ => F1
    rename Below _ _ _ _ => B1
    rename Top _ _ _ _ _ _ => T1
    rename Frag.In _ _ => X1
    obtain ⟨I1, Mp1, K1, ht1⟩ := key _
    refine wpAny_call (C_cleanup (Amb.deep hh B1 X1 T1 rfl rfl) F1 N1 (by k_room) (by k_units) I1 Mp1 hlen (afOf_nonneg hM ho) (fun n hn => (C n hn).kept K1 N00 ht) ht1 (TI.mono (K1.tup N00 ht)) fun h2 tk2 news2 ts2 tn2 F2 N2 I2 M2 ht2 TI2 K2 => ?_)
    clear F1 N1
    dsimp only
    k_steps
    rename News _ _ _ _ => N3
    rename Fr _ _ _ _ => F3
    exact h _ _ _ _ _ _ F3 N3 I2 M2 ht2 TI2 (K1.trans K2)
  | some c =>
    show codeAny _ _ (.call (.ref 172) ⟨[.ref x, .int M tm, .int c tc], []⟩) R s
    simp only [List.cons_append, List.nil_append] at N0 key
    k_enter
    k_steps
    unfold Stop
    rename News _ _ _ _ => N1
    rename Fr _ _ _ _ => F1
    rename Below _ _ _ _ => B1
    rename Top _ _ _ _ _ _ => T1
    rename Frag.In _ _ => X1
    obtain ⟨I1, Mp1, K1, ht1⟩ := key _
    refine wpAny_call (C_cleanup (Amb.deep hh B1 X1 T1 rfl rfl) F1 N1 (by k_room) (by k_units) I1 Mp1 hlen (afOf_nonneg hM ho) (fun n hn => (C n hn).kept K1 N00 ht) ht1 (TI.mono (K1.tup N00 ht)) fun h2 tk2 news2 ts2 tn2 F2 N2 I2 M2 ht2 TI2 K2 => ?_)
    clear F1 N1
    dsimp only
    k_steps
    rename News _ _ _ _ => N3
    rename Fr _ _ _ _ => F3
    exact h _ _ _ _ _ _ F3 N3 I2 M2 ht2 TI2 (K1.trans K2)
theorem C_umk {row : List Nd} {M : Int} {tm tc : Tok} {o : Option Int} (AM : Amb w A A₀ base h₀ env outer L p loose mean mg mb) (F : Fr h₀ L s.heap m) (N : News h₀ L s.heap news) (hd : A.depth + 80 < recursionLimit) (hu : A.units + 260 < cLine)
    (I : Links news x dx d qc row mx af) (Mp : MapIn w news d row) (hlen : row.length + G.length ≤ 800) (hM : 0 ≤ M) (hM2 : M ≤ 100) (ho : ∀ c, o = some c → 0 ≤ c) (C : ∀ n ∈ row, CbIn w tl news n) (ht : (tl, listOf ts.toArray tn) ∈ news) (TI : TIt news ts G)
    (h : ∀ h' tk news' ts' tn' ta, Fr h₀ L h' m → News h₀ L h' news' → Links news' x dx d qc (row.take (afOf M o).toNat) (.int M tm) (.int (afOf M o) ta) → MapIn w news' d (row.take (afOf M o).toNat) → (tl, listOf ts'.toArray tn') ∈ news' → TIt news' ts' (G ++ (row.drop (afOf M o).toNat).reverse.flatMap tells) → KeptT tl news news' → R (.ok (.ret .none)) { s with heap := h', toks := tk }) :
    codeAny (model PySem.Challenge.rw_jh0006_01.row.prog w) A (.call (.ref 172) ⟨[.ref x, .int M tm], [("after_cleanup_count", lsV o tc)]⟩) R s := by
  have i1 := I.inst
  have i2 := I.dic
  have hx : x ≠ dx := news_ne N i1 i2 (fun e => nomatch e)
  have hR : ∀ p ∈ offs [dx] news, p.1 ≠ dx := offs_off (by simp)
  have N0 := news_focus N [dx] [(x, instObj 175 dx), (dx, caO qc (.ref d) (fsR row .none) (lsR row .none) mx af)] (by
    simp only [List.forall_mem_cons]
    exact ⟨i1, i2, fun _ h => nomatch h⟩)
  have key : ∀ ta, Links ([(x, instObj 175 dx), (dx, caO qc (.ref d) (fsR row .none) (lsR row .none) (.int M tm) (.int (afOf M o) ta))] ++ offs [dx] news) x dx d qc row (.int M tm) (.int (afOf M o) ta) ∧ MapIn w ([(x, instObj 175 dx), (dx, caO qc (.ref d) (fsR row .none) (lsR row .none) (.int M tm) (.int (afOf M o) ta))] ++ offs [dx] news) d row ∧ KeptT tl news ([(x, instObj 175 dx), (dx, caO qc (.ref d) (fsR row .none) (lsR row .none) (.int M tm) (.int (afOf M o) ta))] ++ offs [dx] news) ∧ (tl, listOf ts.toArray tn) ∈ ([(x, instObj 175 dx), (dx, caO qc (.ref d) (fsR row .none) (lsR row .none) (.int M tm) (.int (afOf M o) ta))] ++ offs [dx] news) := by
    intro ta
    have K : Kept [dx] news ([(x, instObj 175 dx), (dx, caO qc (.ref d) (fsR row .none) (lsR row .none) (.int M tm) (.int (afOf M o) ta))] ++ offs [dx] news) := kept_app
    have hsub : ∀ a ∈ [dx], a ∈ dx :: row.map (·.da) := by simp
    refine ⟨⟨.head _, .tail _ (.head _), chain_keptL I hsub K I.ch (fun _ h => h) ?_, I.adr, I.ia, I.ins⟩, Mp.kept K ?_, K.toT (fun a ha => .inr (I.dicts a (hsub a ha))) N, K _ ht ?_⟩
    · intro n hn hq
      have h1 := (List.nodup_cons.mp I.adr).1
      rw [← List.mem_singleton.mp hq] at h1
      exact h1 (.tail _ (List.mem_map_of_mem hn))
    · intro hq
      have h1 := (List.nodup_cons.mp I.adr).1
      rw [← List.mem_singleton.mp hq] at h1
      exact h1 (.head _)
    · intro hq
      exact news_ne N ht i2 (fun e => nomatch e) (List.mem_singleton.mp hq)
  have N00 := (⟨_, _, _, N⟩ : ∃ a b c, News a b c news)
  clear N i1 i2
  obtain ⟨hz, Lz, hz2, N00⟩ := N00
  obtain ⟨B, X, T, hA, hf, hk, hh⟩ := AM
  cases o with
  | none =>
    show codeAny _ _ (.call (.ref 172) ⟨[.ref x, .int M tm], [("after_cleanup_count", .none)]⟩) R s
    simp only [List.cons_append, List.nil_append] at N0 key
    k_enter
    k_steps
    unfold Stop
    rename News _ _ _ _ => N1
    rename Fr _ _ _ _ => F1
    rename Below _ _ _ _ => B1
    rename Top _ _ _ _ _ _ => T1
    rename Frag.In _ _ => X1
    obtain ⟨I1, Mp1, K1, ht1⟩ := key _
    refine wpAny_call (C_cleanup (Amb.deep hh B1 X1 T1 rfl rfl) F1 N1 (by k_room) (by k_units) I1 Mp1 hlen (afOf_nonneg hM ho) (fun n hn => (C n hn).kept K1 N00 ht) ht1 (TI.mono (K1.tup N00 ht)) fun h2 tk2 news2 ts2 tn2 F2 N2 I2 M2 ht2 TI2 K2 => ?_)
    clear F1 N1
    dsimp only
    k_steps
    rename News _ _ _ _ => N3
    rename Fr _ _ _ _ => F3
    exact h _ _ _ _ _ _ F3 N3 I2 M2 ht2 TI2 (K1.trans K2)
  | some c =>
    show codeAny _ _ (.call (.ref 172) ⟨[.ref x, .int M tm], [("after_cleanup_count", .int c tc)]⟩) R s
    simp only [List.cons_append, List.nil_append] at N0 key
    k_enter
    k_steps
    unfold Stop
    rename News _ _ _ _ => N1
    rename Fr _ _ _ _ => F1
    rename Below _ _ _ _ => B1
    rename Top _ _ _ _ _ _ => T1
    rename Frag.In _ _ => X1
    obtain ⟨I1, Mp1, K1, ht1⟩ := key _
    refine wpAny_call (C_cleanup (Amb.deep hh B1 X1 T1 rfl rfl) F1 N1 (by k_room) (by k_units) I1 Mp1 hlen (afOf_nonneg hM ho) (fun n hn => (C n hn).kept K1 N00 ht) ht1 (TI.mono (K1.tup N00 ht)) fun h2 tk2 news2 ts2 tn2 F2 N2 I2 M2 ht2 TI2 K2 => ?_)
    clear F1 N1
    dsimp only
    k_steps
    rename News _ _ _ _ => N3
    rename Fr _ _ _ _ => F3
    exact h _ _ _ _ _ _ F3 N3 I2 M2 ht2 TI2 (K1.trans K2)

theorem C_resize {row : List Nd} {M : Int} {tm tc : Tok} {o : Option Int} (AM : Amb w A A₀ base h₀ env outer L p loose mean mg mb) (F : Fr h₀ L s.heap m) (N : News h₀ L s.heap news) (hd : A.depth + 90 < recursionLimit) (hu : A.units + 280 < cLine)
    (I : Links news x dx d qc row mx af) (Mp : MapIn w news d row) (hlen : row.length + G.length ≤ 800) (hM : 0 ≤ M) (hM2 : M ≤ 100) (ho : ∀ c, o = some c → 0 ≤ c) (C : ∀ n ∈ row, CbIn w tl news n) (ht : (tl, listOf ts.toArray tn) ∈ news) (TI : TIt news ts G)
    (h : ∀ h' tk news' ts' tn' ta, Fr h₀ L h' m → News h₀ L h' news' → Links news' x dx d qc (row.take (afOf M o).toNat) (.int M tm) (.int (afOf M o) ta) → MapIn w news' d (row.take (afOf M o).toNat) → (tl, listOf ts'.toArray tn') ∈ news' → TIt news' ts' (G ++ (row.drop (afOf M o).toNat).reverse.flatMap tells) → KeptT tl news news' → R (.ok (.ret .none)) { s with heap := h', toks := tk }) :
    codeAny (model PySem.Challenge.rw_jh0006_01.row.prog w) A (.call (.ref 164) ⟨[.ref x, .int M tm, lsV o tc], []⟩) R s := by
  have i1 := I.inst
  have i2 := I.dic
  have hlv : handedIn (lsV o tc) = true := by cases o <;> rfl
  obtain ⟨B, X, T, hA, hf, hk, hh⟩ := AM
  k_enter
  k_steps
  unfold Stop
  rename News _ _ _ _ => N1
  rename Fr _ _ _ _ => F1
  rename Below _ _ _ _ => B1
  rename Top _ _ _ _ _ _ => T1
  rename Frag.In _ _ => X1
  refine wpAny_call (C_umk (Amb.deep hh B1 X1 T1 rfl rfl) F1 N1 (by k_room) (by k_units) I Mp hlen hM hM2 ho C ht TI fun h2 tk2 news2 ts2 tn2 ta F2 N2 I2 M2 ht2 TI2 K2 => ?_)
  clear F1 N1
  dsimp only
  k_steps
  rename News _ _ _ _ => N3
  rename Fr _ _ _ _ => F3
  exact h _ _ _ _ _ _ F3 N3 I2 M2 ht2 TI2 K2
end
end Mine
end
theorem Mine.top_off_p10 : True := by
  w_top off
  try walk1
  trivial
section
namespace Mine
section
variable {w : World} {A A₀ : Around} {base h₀ : Heap} {env : Env} {outer : List Env} {L : Addr} {p : Program} {loose : List Str} {mean : ExcName → Option Value} {mg mb m : Str → Option Value} {s : Shared} {news rest : List (Addr × Obj)} {E : Value → Shared → Prop} {Q : Value → Shared → Prop}

theorem C_node {k : Int} {kt : Tok} {v cb : Value} (AM : Amb w A A₀ base h₀ env outer L p loose mean mg mb) (F : Fr h₀ L s.heap m) (N : News h₀ L s.heap news) (hd : A.depth + 20 < recursionLimit)
    (h : ∀ h' tk a da q, Fr h₀ L h' m → News h₀ L h' ((a, instObj 39 da) :: (da, ndO q .none .none (.int k kt) v cb) :: news) → (∀ p ∈ news, p.1 < da) → da < a → Q (.ref a) { s with heap := h', toks := tk }) :
    wpAny (model PySem.Challenge.rw_jh0006_01.row.prog w) A (call (.ref 39) [.int k kt, v] [("cleanup", cb)]) Q E s := by
  obtain ⟨B, X, T, hA, hf, hk, hh⟩ := AM
  k_steps
  exact h _ _ _ _ ⟨_, _, _, _, _, _, _, _, _, _, _, _⟩ (by assumption) (by assumption) (by first | assumption | exact kst_ltOf (by assumption)) (by assumption)
end
section
local macro_rules | `(tactic| walk_at "call ref") => `(tactic| (k_here; (with_reducible show wpAny _ _ (call (Value.ref _) _ _) _ _ _); refine Mine.stop ?_))
variable {w : World} {A A₀ : Around} {base h₀ : Heap} {env : Env} {outer : List Env} {L : Addr} {p : Program} {loose : List Str} {mean : ExcName → Option Value} {mg mb m : Str → Option Value} {s : Shared} {news rest : List (Addr × Obj)} {R : Result → Shared → Prop}
variable {x dx d tl : Addr} {qc : K5} {ts : List Value} {tn : Nat} {G : List (Int × Value)}

/-- the contract of run_cleanup upon a node of the ledger -/
theorem C_rc {n : Nd} {pv nk : Value} (AM : Amb w A A₀ base h₀ env outer L p loose mean mg mb) (F : Fr h₀ L s.heap m) (N : News h₀ L s.heap news) (hd : A.depth + 30 < recursionLimit) (hu : A.units + 130 < cLine)
    (J : NodeIn news pv nk n) (C : CbIn w tl news n) (ht : (tl, listOf ts.toArray tn) ∈ news) (TI : TIt news ts G) (hts : ts.length ≤ 1000)
    (h : ∀ h' tk news' ts' tn', Fr h₀ L h' m → News h₀ L h' news' → NodeIn news' pv nk { n with v := .none, cb := .none } → (tl, listOf ts'.toArray tn') ∈ news' → TIt news' ts' (G ++ tells n) → Kept [n.da, tl] news news' → R (.ok (.ret .none)) { s with heap := h', toks := tk }) :
    codeAny (model PySem.Challenge.rw_jh0006_01.row.prog w) A (.call (.ref 36) ⟨[.ref n.a], []⟩) R s := by
  obtain ⟨j1, j2⟩ := J
  have hne : n.a ≠ n.da := news_ne N j1 j2 (fun e => nomatch e)
  have hta : tl ≠ n.da := news_ne N ht j2 (fun e => nomatch e)
  have htn : tl ≠ n.a := news_ne N ht j1 (fun e => nomatch e)
  rcases C.2 with e | ⟨f, lam, e, c, hl⟩
  · have ht1 : tells n = [] := by simp [tells, e]
    rw [ht1, List.append_nil] at h
    rw [e] at j2
    refine rc_none (q := n.q) (pv := pv) (nk := nk) (vl := n.v) (k := n.k) (kt := n.tk) (a := n.a) (da := n.da) (rest := offs [n.da] news) AM F (news_focus N [n.da] [(n.a, instObj 39 n.da), (n.da, ndO n.q pv nk (.int n.k n.tk) n.v .none)] ?_) hne (offs_off (by simp)) (by omega) fun h' tk' F' N' => h h' tk' _ ts tn F' N' ⟨.head _, .tail _ (.head _)⟩ ?_ ?_ ?_
    · simp only [List.forall_mem_cons]
      exact ⟨j1, j2, fun _ h => nomatch h⟩
    · exact List.mem_append_right [_, _] (mem_offs.mpr ⟨ht, by simpa using hta⟩)
    · refine TI.mono fun a vs hm => List.mem_append_right [_, _] (mem_offs.mpr ⟨hm, ?_⟩)
      simpa using news_ne N hm j2 (fun e => nomatch e)
    · intro p hp hn
      exact List.mem_append_right [_, _] (mem_offs.mpr ⟨hp, fun q => hn (by simp at q; simp [q])⟩)
  · have ht1 : tells n = [(n.k, n.v)] := by simp [tells, e]
    rw [ht1] at h
    rw [e] at j2
    have l1 := lam_off c hl N j2 (.inl ⟨_, _, rfl⟩)
    have l2 := lam_off c hl N ht (.inr ⟨_, _, rfl⟩)
    refine rc_lam (q := n.q) (pv := pv) (nk := nk) (vl := n.v) (k := n.k) (kt := n.tk) (a := n.a) (da := n.da) (f := f) (tl := tl) (lam := lam) (ts := ts) (tn := tn) (rest := offs [n.da, tl] news) AM F (news_sub N ?_) hne hta l1 l2 (fun p hp => ⟨offs_off (by simp) p hp, offs_off (by simp) p hp⟩) htn (by omega) (by omega) hts C.1 c fun h' tk' t tn' F' N' => h h' tk' _ (ts ++ [.ref t]) tn' F' N' ⟨.head _, .tail _ (.head _)⟩ (by k_mem) ?_ ?_
    · intro p hp
      simp only [List.mem_cons, List.mem_append] at hp
      rcases hp with rfl | rfl | rfl | hp | hp
      · exact j1
      · exact j2
      · exact ht
      · exact hl p hp
      · exact (mem_offs.mp hp).1
    · refine TIt.snoc (kt := n.tk) (by k_mem) (TI.mono fun a vs hm => List.mem_append_right [_, _, _, _] (List.mem_append_right _ (mem_offs.mpr ⟨hm, ?_⟩)))
      simp only [List.mem_cons, List.not_mem_nil, or_false, not_or]
      exact ⟨news_ne N hm j2 (fun e => nomatch e), fun q => tuO_ne_list (news_fun N (q ▸ hm) ht)⟩
    · intro p hp hn
      exact List.mem_append_right [_, _, _, _] (List.mem_append_right _ (mem_offs.mpr ⟨hp, hn⟩))
end
end Mine
end
theorem Mine.top_off_p11 : True := by
  w_top off
  try walk1
  trivial
section
namespace Mine
theorem Links.repl {news news' : List (Addr × Obj)} {x dx d : Addr} {qc : K5} {l1 l2 : List Nd} {n n' : Nd} {mx af : Value} {D : List Addr} (I : Links news x dx d qc (l1 ++ n :: l2) mx af) (ea : n'.a = n.a) (ed : n'.da = n.da) (ek : n'.k = n.k) (et : n'.tk = n.tk)
    (J : NodeIn news' (lsR l1 .none) (nxk l2 .none) n') (K : Kept D news news') (hx : x ∉ D) (hdx : dx ∉ D) (hm : ∀ m ∈ l1 ++ l2, m.a ∉ D ∧ m.da ∉ D) : Links news' x dx d qc (l1 ++ n' :: l2) mx af := by
  obtain ⟨i1, i2, i3, i4, i5, i6⟩ := I
  have e1 : ∀ e, fsR (l1 ++ n' :: l2) e = fsR (l1 ++ n :: l2) e := by intro e; cases l1 <;> simp [fsR, ea]
  have e2 : ∀ e, lsR (l1 ++ n' :: l2) e = lsR (l1 ++ n :: l2) e := by intro e; simp [lsR_append, lsR, ea]
  obtain ⟨c1, c2, c3⟩ := (chain_append ..).mp i3
  have m1 : (l1 ++ n' :: l2).map (·.da) = (l1 ++ n :: l2).map (·.da) := by simp [ed]
  have m2 : (l1 ++ n' :: l2).map (·.a) = (l1 ++ n :: l2).map (·.a) := by simp [ea]
  refine ⟨K _ i1 hx, ?_, (chain_append ..).mpr ⟨?_, J, ?_⟩, by rw [m1]; exact i4, by rw [m2]; exact i5, by rw [m1, m2]; exact i6⟩
  · rw [e1, e2]; exact K _ i2 hdx
  · have : nxk (n' :: l2) .none = nxk (n :: l2) .none := by simp [nxk, ek, et]
    rw [this]
    exact c1.kept K fun k hk => hm k (List.mem_append_left _ hk)
  · rw [ea]
    exact c3.kept K fun k hk => hm k (List.mem_append_right _ hk)
theorem MapIn.repl {w : World} {news : List (Addr × Obj)} {d : Addr} {l1 l2 : List Nd} {n n' : Nd} (M : MapIn w news d (l1 ++ n :: l2)) (ea : n'.a = n.a) (ek : n'.k = n.k) : MapIn w news d (l1 ++ n' :: l2) := by
  obtain ⟨od, kvs, a, b, c, e⟩ := M
  refine ⟨od, kvs, a, b, ?_, e⟩
  have : (l1 ++ n' :: l2).map (fun n => (n.k, Value.ref n.a)) = (l1 ++ n :: l2).map (fun n => (n.k, Value.ref n.a)) := by simp [ea, ek]
  rw [this]; exact c

def cutRow (M af : Int) (row : List Nd) : List Nd := if M < (row.length : Int) then row.take af.toNat else row
def cutTell (M af : Int) (row : List Nd) : List (Int × Value) := if M < (row.length : Int) then (row.drop af.toNat).reverse.flatMap tells else []
section
local macro_rules | `(tactic| walk_at "call ref") => `(tactic| (k_here; (with_reducible show wpAny _ _ (call (Value.ref _) _ _) _ _ _); refine Mine.stop ?_))
local macro_rules | `(tactic| walk_at "compareOp In int ref") => `(tactic| (k_here; k_dflt (refine kda_in (knd := PySem.intKind _ _) (by k_asm) (by k_mem) (by assumption) (by assumption) (intKind_is _ _ _ _) _ (by assumption) ?_)))
variable {w : World} {A A₀ : Around} {base h₀ : Heap} {env : Env} {outer : List Env} {L : Addr} {p : Program} {loose : List Str} {mean : ExcName → Option Value} {mg mb m : Str → Option Value} {s : Shared} {news rest : List (Addr × Obj)} {R : Result → Shared → Prop}
variable {x dx d tl : Addr} {qc : K5} {ts : List Value} {tn : Nat} {G : List (Int × Value)}

theorem C_addE {l1 l2 : List Nd} {n : Nd} {M af : Int} {tm ta kt : Tok} {v cb : Value} {args : Args} (AM : Amb w A A₀ base h₀ env outer L p loose mean mg mb) (F : Fr h₀ L s.heap m) (N : News h₀ L s.heap news) (hd : A.depth + 90 < recursionLimit) (hu : A.units + 280 < cLine)
    (hb : ∀ fd oc od osl, (Mine.hd.heap_1 w.params).lookup 87 = some ⟨oc, od, .func fd, osl⟩ → BindsTo s fd args [("self", .ref x), ("key", .int n.k kt), ("value", v), ("cleanup", cb)])
    (I : Links news x dx d qc (l1 ++ n :: l2) (.int M tm) (.int af ta)) (Mp : MapIn w news d (l1 ++ n :: l2)) (hlen : (l1 ++ n :: l2).length + G.length ≤ 700) (h0 : 0 ≤ af) (C : ∀ m ∈ l1 ++ n :: l2, CbIn w tl news m)
    (hv : handedIn v = true) (hcb : cb = .none ∨ ∃ f lam, cb = .ref f ∧ CbOk w f tl lam ∧ ∀ p ∈ lam, p ∈ news) (ht : (tl, listOf ts.toArray tn) ∈ news) (TI : TIt news ts G)
    (h : ∀ h' tk news' ts' tn', Fr h₀ L h' m → News h₀ L h' news' → Links news' x dx d qc (cutRow M af ({ n with v := v, cb := cb } :: (l1 ++ l2))) (.int M tm) (.int af ta) → MapIn w news' d (cutRow M af ({ n with v := v, cb := cb } :: (l1 ++ l2))) →
      (tl, listOf ts'.toArray tn') ∈ news' → TIt news' ts' (G ++ tells n ++ cutTell M af ({ n with v := v, cb := cb } :: (l1 ++ l2))) → KeptT tl news news' → R (.ok (.ret .none)) { s with heap := h', toks := tk }) :
    codeAny (model PySem.Challenge.rw_jh0006_01.row.prog w) A (.call (.ref 87) args) R s := by
  have i1 := I.inst
  have i2 := I.dic
  obtain ⟨od, kvs, m1, m2, m3, m4⟩ := id Mp
  have hva : valueAt kvs n.k = some (.ref n.a) := valueAt_perm m3 (isDict_nodup m2) (List.mem_map.mpr ⟨n, by simp, rfl⟩)
  have hvs : (valueAt kvs n.k).isSome = true := by rw [hva]; rfl
  obtain ⟨_, ⟨j1, j2⟩, _⟩ := (chain_append ..).mp I.ch
  obtain ⟨B, X, T, hA, hf, hk, hh⟩ := AM
  (refine' code_def ?k1 ?k2 ?k3 ?k4 ?k5 ?kA ?kF ?kK ?k6 ?k7 ?k8 ?k9 ?kB ?_ ?c2 ?c3 ?c4 ?c5; (case kA => assumption); (case kF => assumption); (case kK => assumption); (case k1 => k_asm); (case k2 => k_asm); (case k3 => k_asm); (case k4 => k_asm); (case k5 => k_asm); (case k6 => k_is); (case k7 => k_is); (case k8 => k_room); (case k9 => exact hb _ _ _ _ (by k_is)); (case c5 => decide); (case kB => exact locs rfl); (case c2 => exact rfl); (case c3 => exact rfl); (case c4 => exact rfl); k_whole; intro g' L' h' FG' F' N' B' X' T'; (try dsimp only); (try k_fold))
  k_steps
  unfold Stop
  rename News _ _ _ _ => N1
  rename Fr _ _ _ _ => F1
  rename Below _ _ _ _ => B1
  rename Top _ _ _ _ _ _ => T1
  rename Frag.In _ _ => X1
  have hl1000 : ts.length ≤ 1000 := by rw [TI.length]; omega
  refine wpAny_call (C_rc (Amb.deep hh B1 X1 T1 rfl rfl) F1 N1 (by k_room) (by k_units) ⟨j1, j2⟩ (C n (by simp)) ht TI hl1000 fun h2 tk2 news2 ts2 tn2 F2 N2 J2 ht2 TI2 K2 => ?_)
  clear F1 N1
  dsimp only
  -- what stays
  have hadr := I.adr
  have hins := I.ins
  have hxt : x ≠ tl := news_ne N i1 ht (fun e => nomatch e)
  have hdxt : dx ≠ tl := news_ne N i2 ht (fun e => nomatch e)
  have hxn : x ≠ n.da := fun e => hins x (.head _) (by rw [e]; simp)
  have hdxn : dx ≠ n.da := fun e => (List.nodup_cons.mp hadr).1 (by rw [e]; simp)
  have hnn : n.a ≠ n.da := news_ne N j1 j2 (fun e => nomatch e)
  have htn : tl ≠ n.da := news_ne N ht j2 (fun e => nomatch e)
  have hdn : d ≠ n.da := fun e => (List.nodup_cons.mp (List.nodup_cons.mp hadr).2).1 (by rw [e]; simp)
  have hdt : d ≠ tl := news_ne N m1 ht (by obtain ⟨_, _, _, e, _⟩ := id m2; rw [e]; exact fun e => nomatch e)
  have hoth : ∀ k ∈ l1 ++ l2, k.a ∉ [n.da, tl] ∧ k.da ∉ [n.da, tl] := by
    intro k hk
    have hk' : k ∈ l1 ++ n :: l2 := by simp only [List.mem_append, List.mem_cons] at hk ⊢; exact hk.imp id .inr
    have e1 := chain_inst I.ch k hk'
    obtain ⟨o, es, n', ho, eo⟩ := I.dicts k.da (.tail _ (List.mem_map_of_mem hk'))
    simp only [List.mem_cons, List.not_mem_nil, or_false, not_or]
    refine ⟨⟨fun e => hins k.a (.tail _ (List.mem_map_of_mem hk')) (by rw [e]; simp), news_ne N e1 ht (fun e => nomatch e)⟩, fun e => ?_, news_ne N ho ht (by rw [eo]; exact fun e => nomatch e)⟩
    have h3 := (List.nodup_cons.mp (List.nodup_cons.mp hadr).2).2
    rw [List.map_append, List.map_cons] at h3
    have h4 := (List.perm_middle.nodup_iff.mp h3)
    refine (List.nodup_cons.mp h4).1 ?_
    rw [← List.map_append, ← e]
    exact List.mem_map_of_mem hk
  have x2 : (x, instObj 175 dx) ∈ news2 := K2 _ i1 (by simp [hxn, hxt])
  have dx2 : (dx, caO qc (.ref d) (fsR (l1 ++ n :: l2) .none) (lsR (l1 ++ n :: l2) .none) (.int M tm) (.int af ta)) ∈ news2 := K2 _ i2 (by simp [hdxn, hdxt])
  have N3 : News g' L' h2 ((x, instObj 175 dx) :: (dx, caO qc (.ref d) (fsR (l1 ++ n :: l2) .none) (lsR (l1 ++ n :: l2) .none) (.int M tm) (.int af ta)) :: (n.a, instObj 39 n.da) :: (n.da, ndO n.q (lsR l1 .none) (nxk l2 .none) (.int n.k n.tk) .none .none) :: offs [n.da] news2) := news_sub N2 (by
    intro p hp
    simp only [List.mem_cons] at hp
    rcases hp with rfl | rfl | rfl | rfl | hp
    · exact x2
    · exact dx2
    · exact J2.1
    · exact J2.2
    · exact (mem_offs.mp hp).1)
  have hro : ∀ p ∈ offs [n.da] news2, p.1 ≠ n.da := offs_off (by simp)
  have htu : ∀ a vs, (a, tuO vs) ∈ news2 → a ≠ n.da := fun a vs hm => news_ne N2 hm J2.2 (fun e => nomatch e)
  clear N2
  rename Fr _ _ _ _ => F2
  k_steps
  unfold Stop
  rename News _ _ _ _ => N4
  rename Fr _ _ _ _ => F4
  have Kx : Kept [n.da, tl] news ((x, instObj 175 dx) :: (dx, caO qc (.ref d) (fsR (l1 ++ n :: l2) .none) (lsR (l1 ++ n :: l2) .none) (.int M tm) (.int af ta)) :: (n.a, instObj 39 n.da) :: (n.da, ndO n.q (lsR l1 .none) (nxk l2 .none) (.int n.k n.tk) v cb) :: offs [n.da] news2) := fun p hp hn =>
    List.mem_append_right [_, _, _, _] (mem_offs.mpr ⟨K2 p hp hn, fun q => hn (by simp at q; simp [q])⟩)
  have I4 := I.repl (n' := { n with v := v, cb := cb }) rfl rfl rfl rfl ⟨by k_mem, by k_mem⟩ Kx (by simp [hxn, hxt]) (by simp [hdxn, hdxt]) hoth
  have M4 := (Mp.kept Kx (by simp [hdn, hdt])).repl (n' := { n with v := v, cb := cb }) rfl rfl
  have Kt : KeptT tl news _ := Kx.toT (fun a ha => by
    simp only [List.mem_cons, List.not_mem_nil, or_false] at ha
    rcases ha with rfl | rfl
    · exact .inr ⟨_, _, _, j2, rfl⟩
    · exact .inl rfl) N
  have ht4 : (tl, listOf ts2.toArray tn2) ∈ ((x, instObj 175 dx) :: (dx, caO qc (.ref d) (fsR (l1 ++ n :: l2) .none) (lsR (l1 ++ n :: l2) .none) (.int M tm) (.int af ta)) :: (n.a, instObj 39 n.da) :: (n.da, ndO n.q (lsR l1 .none) (nxk l2 .none) (.int n.k n.tk) v cb) :: offs [n.da] news2) := List.mem_append_right [_, _, _, _] (mem_offs.mpr ⟨ht2, by simpa using htn⟩)
  have TI4 : TIt ((x, instObj 175 dx) :: (dx, caO qc (.ref d) (fsR (l1 ++ n :: l2) .none) (lsR (l1 ++ n :: l2) .none) (.int M tm) (.int af ta)) :: (n.a, instObj 39 n.da) :: (n.da, ndO n.q (lsR l1 .none) (nxk l2 .none) (.int n.k n.tk) v cb) :: offs [n.da] news2) ts2 (G ++ tells n) := TI2.mono fun a vs hm => by
    exact List.mem_append_right [_, _, _, _] (mem_offs.mpr ⟨hm, by simpa using htu a vs hm⟩)
  refine wpAny_call (C_ra (n := { n with v := v, cb := cb }) (Amb.deep hh B1 X1 T1 rfl rfl) F4 N4 (by k_room) I4 M4 fun h5 tk5 news5 F5 N5 I5 K5 => ?_)
  have Kt5 : KeptT tl _ news5 := I4.keptT K5 N4
  have M5 := (M4.kept K5 (by
    have := hadr
    intro q
    have e : (l1 ++ { n with v := v, cb := cb } :: l2).map (·.da) = (l1 ++ n :: l2).map (·.da) := by simp
    rw [e] at q
    rcases List.mem_cons.mp q with q | q
    · exact (List.nodup_cons.mp this).1 (by rw [q]; simp)
    · exact (List.nodup_cons.mp (List.nodup_cons.mp this).2).1 q)).perm (row' := { n with v := v, cb := cb } :: (l1 ++ l2)) List.perm_middle
  have K05 := Kt.trans Kt5
  have ht5 : (tl, listOf ts2.toArray tn2) ∈ news5 := by
    refine K5 _ ht4 fun q => ?_
    have e : (l1 ++ { n with v := v, cb := cb } :: l2).map (·.da) = (l1 ++ n :: l2).map (·.da) := by simp
    rw [e] at q
    obtain ⟨o, es, n', ho, eo⟩ := I.dicts tl q
    exact news_ne N ho ht (by rw [eo]; exact fun e => nomatch e) rfl
  have TI5 := TI4.mono (Kt5.tup N4 ht4)
  have C5 : ∀ k ∈ { n with v := v, cb := cb } :: (l1 ++ l2), CbIn w tl news5 k := by
    intro k hk
    rcases List.mem_cons.mp hk with rfl | hk
    · exact CbIn.kept (n := { n with v := v, cb := cb }) ⟨hv, hcb⟩ K05 N ht
    · exact (C k (by simp only [List.mem_append, List.mem_cons] at hk ⊢; exact hk.imp id .inr)).kept K05 N ht
  clear N4 F4
  dsimp only
  have a1 := I5.inst
  have a2 := I5.dic
  clear m1 m2 m3 m4 hva hvs i1 i2 x2 dx2
  obtain ⟨od5, kvs5, m1, m2, m3, m4⟩ := id M5
  have hkl : kvs5.length = ({ n with v := v, cb := cb } :: (l1 ++ l2)).length := by rw [m3.length_eq, List.length_map]
  have hlen' : ({ n with v := v, cb := cb } :: (l1 ++ l2)).length = (l1 ++ n :: l2).length := by simp; omega
  have hz : kvs5.length ≤ 16777216 := by rw [hkl, hlen']; omega
  k_steps
  · unfold Stop
    rename M < _ => hc
    have hc' : M < (({ n with v := v, cb := cb } :: (l1 ++ l2)).length : Int) := by rw [← hkl]; exact hc
    have r1 : cutRow M af ({ n with v := v, cb := cb } :: (l1 ++ l2)) = ({ n with v := v, cb := cb } :: (l1 ++ l2)).take af.toNat := if_pos hc'
    have r2 : cutTell M af ({ n with v := v, cb := cb } :: (l1 ++ l2)) = (({ n with v := v, cb := cb } :: (l1 ++ l2)).drop af.toNat).reverse.flatMap tells := if_pos hc'
    rw [r1, r2] at h
    rename News _ _ _ _ => N6
    rename Fr _ _ _ _ => F6
    refine wpAny_call (C_cleanup (Amb.deep hh B1 X1 T1 rfl rfl) F6 N6 (by k_room) (by k_units) I5 M5 (by have e1 : (G ++ tells n).length = G.length + (tells n).length := List.length_append; have e2 : (tells n).length ≤ 1 := (by unfold tells; split <;> simp); omega) h0 C5 ht5 TI5 fun h7 tk7 news7 ts7 tn7 F7 N7 I7 M7 ht7 TI7 K7 => ?_)
    clear N6 F6
    dsimp only
    k_steps
    rename News _ _ _ _ => N8
    rename Fr _ _ _ _ => F8
    exact h _ _ _ _ _ F8 N8 I7 M7 ht7 (by simpa only [List.append_assoc] using TI7) (K05.trans K7)
  · rename ¬ _ => hc
    have hc' : ¬ M < (({ n with v := v, cb := cb } :: (l1 ++ l2)).length : Int) := by rw [← hkl]; exact hc
    have r1 : cutRow M af ({ n with v := v, cb := cb } :: (l1 ++ l2)) = { n with v := v, cb := cb } :: (l1 ++ l2) := if_neg hc'
    have r2 : cutTell M af ({ n with v := v, cb := cb } :: (l1 ++ l2)) = [] := if_neg hc'
    rw [r1, r2, List.append_nil] at h
    rename News _ _ _ _ => N8
    rename Fr _ _ _ _ => F8
    exact h _ _ _ _ _ F8 N8 I5 M5 ht5 TI5 K05
end
end Mine
end
theorem Mine.top_off_p12 : True := by
  w_top off
  try walk1
  trivial
section
namespace Mine
theorem Links.kept {news news' : List (Addr × Obj)} {x dx d : Addr} {qc : K5} {row : List Nd} {mx af : Value} {D : List Addr} (I : Links news x dx d qc row mx af) (K : Kept D news news') (hx : x ∉ D) (hdx : dx ∉ D) (hm : ∀ m ∈ row, m.a ∉ D ∧ m.da ∉ D) : Links news' x dx d qc row mx af :=
  ⟨K _ I.inst hx, K _ I.dic hdx, I.ch.kept K hm, I.adr, I.ia, I.ins⟩
theorem Links.below {news : List (Addr × Obj)} {x dx d b : Addr} {qc : K5} {row : List Nd} {mx af : Value} (I : Links news x dx d qc row mx af) {od : Obj} (hd : (d, od) ∈ news) (hb : ∀ p ∈ news, p.1 < b) : x < b ∧ dx < b ∧ d < b ∧ ∀ m ∈ row, m.a < b ∧ m.da < b :=
  ⟨hb _ I.inst, hb _ I.dic, hb _ hd, fun m hm => ⟨hb _ (chain_inst I.ch m hm), by
    obtain ⟨o, _, _, ho, _⟩ := I.dicts m.da (.tail _ (List.mem_map_of_mem hm))
    exact hb _ ho⟩⟩
theorem stored_perm {kvs : List (Int × Value)} {row : List Nd} {k : Int} {v : Value} (hp : kvs.Perm (row.map fun n => (n.k, Value.ref n.a))) (hk : k ∉ row.map (·.k)) : (stored kvs k v).Perm ((k, v) :: row.map fun n => (n.k, Value.ref n.a)) := by
  unfold stored
  rw [if_neg ?_]
  · exact List.perm_append_comm.trans (hp.cons _)
  · rw [List.any_eq_true]
    rintro ⟨p, hp', e⟩
    obtain ⟨n, hn, rfl⟩ := List.mem_map.mp (hp.mem_iff.mp hp')
    exact hk (List.mem_map.mpr ⟨n, hn, of_decide_eq_true e⟩)
section
local macro_rules | `(tactic| walk_at "call ref") => `(tactic| (k_here; (with_reducible show wpAny _ _ (call (Value.ref _) _ _) _ _ _); refine Mine.stop ?_))
local macro_rules | `(tactic| walk_at "compareOp In int ref") => `(tactic| (k_here; k_dflt (refine kda_in (knd := PySem.intKind _ _) (by k_asm) (by k_mem) (by assumption) (by assumption) (intKind_is _ _ _ _) _ (by assumption) ?_)))
local macro_rules | `(tactic| walk_at "setItem ref int") => `(tactic| (k_here; k_dflt (refine kda_set (knd := PySem.intKind _ _) (by k_asm) (by k_asm) (by k_updF) (by assumption) (intKind_is _ _ _ _) (by assumption) ?_); intro h' o' F' N' hd'; (try dsimp only at N')))
variable {w : World} {A A₀ : Around} {base h₀ : Heap} {env : Env} {outer : List Env} {L : Addr} {p : Program} {loose : List Str} {mean : ExcName → Option Value} {mg mb m : Str → Option Value} {s : Shared} {news rest : List (Addr × Obj)} {R : Result → Shared → Prop}
variable {x dx d tl : Addr} {qc : K5} {ts : List Value} {tn : Nat} {G : List (Int × Value)}

theorem C_raF {row : List Nd} {n : Nd} {mx af : Value} (AM : Amb w A A₀ base h₀ env outer L p loose mean mg mb) (F : Fr h₀ L s.heap m) (N : News h₀ L s.heap news) (hd : A.depth + 10 < recursionLimit)
    (I : Links news x dx d qc row mx af) (J : NodeIn news .none .none n) (b1 : n.da ∉ dx :: d :: row.map (·.da)) (b2 : n.a ∉ row.map (·.a)) (b3 : n.a ∉ n.da :: dx :: d :: row.map (·.da)) (b4 : ∀ i ∈ x :: row.map (·.a), i ≠ n.da)
    (h : ∀ h' tk news', Fr h₀ L h' m → News h₀ L h' news' → Links news' x dx d qc (n :: row) mx af → Kept (dx :: n.da :: row.map (·.da)) news news' → R (.ok (.ret .none)) { s with heap := h', toks := tk }) :
    codeAny (model PySem.Challenge.rw_jh0006_01.row.prog w) A (.call (.ref 135) ⟨[.ref x, .ref n.a], []⟩) R s := by
  cases row with
  | nil => exact C_ra_E AM F N hd I J b1 b2 b3 b4 fun h' tk news' F' N' I' K' => h h' tk news' F' N' I' (K'.mono (by simp))
  | cons m1 r => exact C_ra_F AM F N hd I J b1 b2 b3 b4 h

theorem C_addN {row : List Nd} {k : Int} {M af : Int} {tm ta kt : Tok} {v cb : Value} {args : Args} (AM : Amb w A A₀ base h₀ env outer L p loose mean mg mb) (F : Fr h₀ L s.heap m) (N : News h₀ L s.heap news) (hd : A.depth + 90 < recursionLimit) (hu : A.units + 280 < cLine)
    (hb : ∀ fd oc od osl, (Mine.hd.heap_1 w.params).lookup 87 = some ⟨oc, od, .func fd, osl⟩ → BindsTo s fd args [("self", .ref x), ("key", .int k kt), ("value", v), ("cleanup", cb)])
    (I : Links news x dx d qc row (.int M tm) (.int af ta)) (Mp : MapIn w news d row) (hnk : k ∉ row.map (·.k)) (hlen : row.length + G.length ≤ 700) (h0 : 0 ≤ af) (C : ∀ m ∈ row, CbIn w tl news m)
    (hv : handedIn v = true) (hcb : cb = .none ∨ ∃ f lam, cb = .ref f ∧ CbOk w f tl lam ∧ ∀ p ∈ lam, p ∈ news) (ht : (tl, listOf ts.toArray tn) ∈ news) (TI : TIt news ts G)
    (h : ∀ h' tk news' ts' tn' n, n.k = k → n.v = v → n.cb = cb → Fr h₀ L h' m → News h₀ L h' news' → Links news' x dx d qc (cutRow M af (n :: row)) (.int M tm) (.int af ta) → MapIn w news' d (cutRow M af (n :: row)) →
      (tl, listOf ts'.toArray tn') ∈ news' → TIt news' ts' (G ++ cutTell M af (n :: row)) → KeptT tl news news' → R (.ok (.ret .none)) { s with heap := h', toks := tk }) :
    codeAny (model PySem.Challenge.rw_jh0006_01.row.prog w) A (.call (.ref 87) args) R s := by
  have i1 := I.inst
  have i2 := I.dic
  obtain ⟨od, kvs, m1, m2, m3, m4⟩ := id Mp
  have hvs : (valueAt kvs k).isSome = false := by rw [valueAt_none m3 (by rw [List.map_map]; exact hnk)]; rfl
  have hz : kvs.length ≤ sizeLine := perm_le m3 (by omega)
  obtain ⟨B, X, T, hA, hf, hk, hh⟩ := AM
  (refine' code_def ?k1 ?k2 ?k3 ?k4 ?k5 ?kA ?kF ?kK ?k6 ?k7 ?k8 ?k9 ?kB ?_ ?c2 ?c3 ?c4 ?c5; (case kA => assumption); (case kF => assumption); (case kK => assumption); (case k1 => k_asm); (case k2 => k_asm); (case k3 => k_asm); (case k4 => k_asm); (case k5 => k_asm); (case k6 => k_is); (case k7 => k_is); (case k8 => k_room); (case k9 => exact hb _ _ _ _ (by k_is)); (case c5 => decide); (case kB => exact locs rfl); (case c2 => exact rfl); (case c3 => exact rfl); (case c4 => exact rfl); k_whole; intro g' L' h' FG' F' N' B' X' T'; (try dsimp only); (try k_fold))
  k_steps
  unfold Stop
  rename News _ _ _ _ => N1
  rename Fr _ _ _ _ => F1
  rename Below _ _ _ _ => B1
  rename Top _ _ _ _ _ _ => T1
  rename Frag.In _ _ => X1
  refine C_node (Amb.deep hh B1 X1 T1 rfl rfl) F1 N1 (by k_room) fun h2 tk2 a da q F2 N2 lt1 lt2 => ?_
  clear F1 N1
  dsimp only
  obtain ⟨lx, ldx, ld, lrow⟩ := I.below m1 lt1
  have hxd : x ≠ d := fun e => I.ins x (.head _) (by rw [e]; simp)
  have hdxd : dx ≠ d := fun e => (List.nodup_cons.mp I.adr).1 (by rw [e]; simp)
  have had : a ≠ d := Nat.ne_of_gt (Nat.lt_trans ld lt2)
  have hdad : da ≠ d := Nat.ne_of_gt ld
  have N3 : News g' L' h2 ((a, instObj 39 da) :: (da, ndO q .none .none (.int k kt) v cb) :: (x, instObj 175 dx) :: (dx, caO qc (.ref d) (fsR row .none) (lsR row .none) (.int M tm) (.int af ta)) :: (d, od) :: offs [d] news) := news_sub N2 (by
    intro p hp
    simp only [List.mem_cons] at hp ⊢
    rcases hp with rfl | rfl | rfl | rfl | rfl | hp
    · exact .inl rfl
    · exact .inr (.inl rfl)
    · exact .inr (.inr i1)
    · exact .inr (.inr i2)
    · exact .inr (.inr m1)
    · exact .inr (.inr (mem_offs.mp hp).1))
  have hro : ∀ p ∈ offs [d] news, p.1 ≠ d := offs_off (by simp)
  clear N2
  rename Fr _ _ _ _ => F2
  k_steps
  unfold Stop
  rename News _ _ _ _ => N4
  rename Fr _ _ _ _ => F4
  rename_i od4 hod4
  have Kx : Kept [d] news ((a, instObj 39 da) :: (da, ndO q .none .none (.int k kt) v cb) :: (x, instObj 175 dx) :: (dx, caO qc (.ref d) (fsR row .none) (lsR row .none) (.int M tm) (.int af ta)) :: (d, od4) :: offs [d] news) := fun p hp hn =>
    List.mem_append_right [_, _, _, _, _] (mem_offs.mpr ⟨hp, hn⟩)
  have I4 := I.kept Kx (by simpa using hxd) (by simpa using hdxd) (fun m hm => by
    have hm' := List.mem_map_of_mem (f := (·.a)) hm
    have hm2 := List.mem_map_of_mem (f := (·.da)) hm
    simp only [List.mem_singleton]
    exact ⟨fun e => I.ins m.a (.tail _ hm') (by rw [e]; simp), fun e => (List.nodup_cons.mp (List.nodup_cons.mp I.adr).2).1 (by rw [← e]; exact hm2)⟩)
  have J4 : NodeIn ((a, instObj 39 da) :: (da, ndO q .none .none (.int k kt) v cb) :: (x, instObj 175 dx) :: (dx, caO qc (.ref d) (fsR row .none) (lsR row .none) (.int M tm) (.int af ta)) :: (d, od4) :: offs [d] news) .none .none (⟨k, kt, a, da, v, cb, q⟩ : Nd) := by
    exact ⟨.head _, .tail _ (.head _)⟩
  have M4 : MapIn w ((a, instObj 39 da) :: (da, ndO q .none .none (.int k kt) v cb) :: (x, instObj 175 dx) :: (dx, caO qc (.ref d) (fsR row .none) (lsR row .none) (.int M tm) (.int af ta)) :: (d, od4) :: offs [d] news) d ((⟨k, kt, a, da, v, cb, q⟩ : Nd) :: row) := by
    refine ⟨od4, _, by k_mem, by assumption, ?_, m4⟩
    exact stored_perm m3 hnk
  have Kt : KeptT tl news _ := Kx.toT (fun b hb => by
    rw [List.mem_singleton.mp hb]
    obtain ⟨_, _, _, e, _⟩ := id m2
    exact .inr ⟨_, _, _, m1, e⟩) N
  have ht4 : (tl, listOf ts.toArray tn) ∈ ((a, instObj 39 da) :: (da, ndO q .none .none (.int k kt) v cb) :: (x, instObj 175 dx) :: (dx, caO qc (.ref d) (fsR row .none) (lsR row .none) (.int M tm) (.int af ta)) :: (d, od4) :: offs [d] news) := Kx _ ht (by
    rw [List.mem_singleton]
    obtain ⟨_, _, _, e, _⟩ := id m2
    exact news_ne N ht m1 (by rw [e]; exact fun e => nomatch e))
  have TI4 := TI.mono (Kt.tup N ht)
  have b0 : ∀ i, i < da → i ≠ da := fun i hi => Nat.ne_of_lt hi
  have b0' : ∀ i, i < da → a ≠ i := fun i hi => Nat.ne_of_gt (Nat.lt_trans hi lt2)
  have hdas : ∀ i ∈ dx :: d :: row.map (·.da), i < da := by
    intro i hi
    simp only [List.mem_cons] at hi
    rcases hi with rfl | rfl | hi
    · exact ldx
    · exact ld
    · obtain ⟨m, hm, rfl⟩ := List.mem_map.mp hi
      exact (lrow m hm).2
  have has : ∀ i ∈ x :: row.map (·.a), i < da := by
    intro i hi
    rcases List.mem_cons.mp hi with rfl | hi
    · exact lx
    · obtain ⟨m, hm, rfl⟩ := List.mem_map.mp hi
      exact (lrow m hm).1
  refine wpAny_call (C_raF (n := (⟨k, kt, a, da, v, cb, q⟩ : Nd)) (Amb.deep hh B1 X1 T1 rfl rfl) F4 N4 (by k_room) I4 J4 (fun hi => b0 _ (hdas _ hi) rfl) (fun hi => b0' _ (has _ (.tail _ hi)) rfl) (fun hi => ?_) (fun i hi => b0 _ (has _ hi)) fun h5 tk5 news5 F5 N5 I5 K5 => ?_)
  · rcases List.mem_cons.mp hi with e | hi
    · exact Nat.ne_of_gt lt2 e
    · exact b0' _ (hdas _ hi) rfl
  have Kt5 : KeptT tl _ news5 := K5.toT (fun b hb => by
    rcases List.mem_cons.mp hb with rfl | hb
    · exact .inr (I4.dicts _ (.head _))
    · rcases List.mem_cons.mp hb with rfl | hb
      · exact .inr ⟨_, _, _, J4.2, rfl⟩
      · exact .inr (I4.dicts _ (.tail _ hb))) N4
  have M5 := M4.kept K5 (by
    simp only [List.mem_cons, not_or]
    exact ⟨fun e => hdxd e.symm, fun e => hdad e.symm, (List.nodup_cons.mp (List.nodup_cons.mp I.adr).2).1⟩)
  have K05 := Kt.trans Kt5
  have ht5 : (tl, listOf ts.toArray tn) ∈ news5 := by
    refine K5 _ ht4 fun q => ?_
    rcases List.mem_cons.mp q with q | q
    · exact news_ne N ht i2 (fun e => nomatch e) q
    · rcases List.mem_cons.mp q with q | q
      · exact Nat.ne_of_lt (lt1 _ ht) q
      · obtain ⟨o, es, n', ho, eo⟩ := I.dicts tl (.tail _ q)
        exact news_ne N ho ht (by rw [eo]; exact fun e => nomatch e) rfl
  have TI5 := TI4.mono (Kt5.tup N4 ht4)
  have C5 : ∀ k' ∈ (⟨k, kt, a, da, v, cb, q⟩ : Nd) :: row, CbIn w tl news5 k' := by
    intro k' hk
    rcases List.mem_cons.mp hk with rfl | hk
    · exact CbIn.kept (n := (⟨k, kt, a, da, v, cb, q⟩ : Nd)) ⟨hv, hcb⟩ K05 N ht
    · exact (C k' hk).kept K05 N ht
  clear N4 F4
  dsimp only
  have a1 := I5.inst
  have a2 := I5.dic
  clear m1 m2 m3 hvs i1 i2
  obtain ⟨od5, kvs5, m1, m2, m3, m4⟩ := id M5
  have hkl : kvs5.length = ((⟨k, kt, a, da, v, cb, q⟩ : Nd) :: row).length := by rw [m3.length_eq, List.length_map]
  have hz : kvs5.length ≤ 16777216 := by rw [hkl, List.length_cons]; omega
  k_steps
  · unfold Stop
    rename M < _ => hc
    have hc' : M < (((⟨k, kt, a, da, v, cb, q⟩ : Nd) :: row).length : Int) := by rw [← hkl]; exact hc
    have r1 : cutRow M af ((⟨k, kt, a, da, v, cb, q⟩ : Nd) :: row) = ((⟨k, kt, a, da, v, cb, q⟩ : Nd) :: row).take af.toNat := if_pos hc'
    have r2 : cutTell M af ((⟨k, kt, a, da, v, cb, q⟩ : Nd) :: row) = (((⟨k, kt, a, da, v, cb, q⟩ : Nd) :: row).drop af.toNat).reverse.flatMap tells := if_pos hc'
    have h := fun h' tk news' ts' tn' => h h' tk news' ts' tn' (⟨k, kt, a, da, v, cb, q⟩ : Nd) rfl rfl rfl
    rw [r1, r2] at h
    rename News _ _ _ _ => N6
    rename Fr _ _ _ _ => F6
    refine wpAny_call (C_cleanup (Amb.deep hh B1 X1 T1 rfl rfl) F6 N6 (by k_room) (by k_units) I5 M5 (by rw [List.length_cons]; omega) h0 C5 ht5 TI5 fun h7 tk7 news7 ts7 tn7 F7 N7 I7 M7 ht7 TI7 K7 => ?_)
    clear N6 F6
    dsimp only
    k_steps
    rename News _ _ _ _ => N8
    rename Fr _ _ _ _ => F8
    exact h _ _ _ _ _ F8 N8 I7 M7 ht7 (by simpa only [List.append_assoc] using TI7) (K05.trans K7)
  · rename ¬ _ => hc
    have hc' : ¬ M < (((⟨k, kt, a, da, v, cb, q⟩ : Nd) :: row).length : Int) := by rw [← hkl]; exact hc
    have r1 : cutRow M af ((⟨k, kt, a, da, v, cb, q⟩ : Nd) :: row) = (⟨k, kt, a, da, v, cb, q⟩ : Nd) :: row := if_neg hc'
    have r2 : cutTell M af ((⟨k, kt, a, da, v, cb, q⟩ : Nd) :: row) = [] := if_neg hc'
    have h := fun h' tk news' ts' tn' => h h' tk news' ts' tn' (⟨k, kt, a, da, v, cb, q⟩ : Nd) rfl rfl rfl
    rw [r1, r2, List.append_nil] at h
    rename News _ _ _ _ => N8
    rename Fr _ _ _ _ => F8
    exact h _ _ _ _ _ F8 N8 I5 M5 ht5 TI5 K05
end
end Mine
end
theorem Mine.top_off_p13 : True := by
  w_top off
  try walk1
  trivial
section
namespace Mine
section
variable {w : World} {A A₀ : Around} {base h₀ : Heap} {env : Env} {outer : List Env} {L : Addr} {p : Program} {loose : List Str} {mean : ExcName → Option Value} {mg mb m : Str → Option Value} {s : Shared} {news rest : List (Addr × Obj)} {R : Result → Shared → Prop}
variable {x dx d n dn pr dp q dq mr dm lr dl : Addr} {qc : K5} {qn qp qq qm : K6} {mxv afv : Value} {od : Obj} {kvs : List (Int × Value)} {kn kp kq km : Int} {tn tp tq tm kt : Tok} {vn cn pvp vp cp nkq vq cq nkm vm cm kpv : Value}
theorem gi_A (AM : Amb w A A₀ base h₀ env outer L p loose mean mg mb) (F : Fr h₀ L s.heap m)
    (N : News h₀ L s.heap ((x, instObj 175 dx) :: (dx, caO qc (.ref d) (.ref pr) (.ref n) mxv afv) :: (d, od) :: (n, instObj 39 dn) :: (dn, ndO qn (.ref pr) .none (.int kn tn) vn cn) :: (pr, instObj 39 dp) :: (dp, ndO qp .none (.int kn tn) (.int kp tp) vp cp) :: rest))
    (hD : [dx, dp, dn].Nodup) (hI : ∀ a ∈ [dx, dp, dn], x ≠ a ∧ d ≠ a ∧ n ≠ a ∧ pr ≠ a) (hR : ∀ a ∈ [dx, dp, dn], ∀ p ∈ rest, p.1 ≠ a) (n_pr : n ≠ pr) (hd : A.depth + 10 < recursionLimit) (hod : od.IsDictOf (intKind PySem.Challenge.rw_jh0006_01.row.prog w) kvs) (hva : valueAt kvs kn = some (.ref n)) (hvn : handedIn vn = true)
    (h : ∀ h' tk, Fr h₀ L h' m → News h₀ L h' ((x, instObj 175 dx) :: (dx, caO qc (.ref d) (.ref n) (.ref pr) mxv afv) :: (d, od) :: (n, instObj 39 dn) :: (dn, ndO qn .none (.int kp tp) (.int kn tn) vn cn) :: (pr, instObj 39 dp) :: (dp, ndO qp (.ref n) .none (.int kp tp) vp cp) :: rest) → R (.ok (.ret vn)) { s with heap := h', toks := tk }) :
    codeAny (model PySem.Challenge.rw_jh0006_01.row.prog w) A (.call (.ref 72) ⟨[.ref x, .int kn kt], []⟩) R s := by
  obtain ⟨B, X, T, hA, hf, hk, hh⟩ := AM
  simp only [List.forall_mem_cons, List.not_mem_nil, false_implies, implies_true, and_true] at hR hI
  simp only [List.nodup_cons, List.mem_cons, List.not_mem_nil, or_false, not_or, List.nodup_nil, and_true, not_false_eq_true] at hD
  obtain ⟨⟨_, _⟩, _⟩ := hD
  obtain ⟨⟨_, _, _, _⟩, ⟨_, _, _, _⟩, ⟨_, _, _, _⟩⟩ := hI
  obtain ⟨_, _, _⟩ := hR
  k_enter
  k_steps
  exact h _ _ (by assumption) (by assumption)
theorem gi_B (AM : Amb w A A₀ base h₀ env outer L p loose mean mg mb) (F : Fr h₀ L s.heap m)
    (N : News h₀ L s.heap ((x, instObj 175 dx) :: (dx, caO qc (.ref d) (.ref pr) (.ref lr) mxv afv) :: (d, od) :: (n, instObj 39 dn) :: (dn, ndO qn (.ref pr) (.int kq tq) (.int kn tn) vn cn) :: (pr, instObj 39 dp) :: (dp, ndO qp .none (.int kn tn) (.int kp tp) vp cp) :: (q, instObj 39 dq) :: (dq, ndO qq (.ref n) nkq (.int kq tq) vq cq) :: (lr, instObj 39 dl) :: rest))
    (hD : [dx, dp, dn, dq].Nodup) (hI : ∀ a ∈ [dx, dp, dn, dq], x ≠ a ∧ d ≠ a ∧ n ≠ a ∧ pr ≠ a ∧ q ≠ a ∧ lr ≠ a) (hR : ∀ a ∈ [dx, dp, dn, dq], ∀ p ∈ rest, p.1 ≠ a) (n_pr : n ≠ pr) (n_lr : n ≠ lr) (hd : A.depth + 10 < recursionLimit) (hod : od.IsDictOf (intKind PySem.Challenge.rw_jh0006_01.row.prog w) kvs) (hva : valueAt kvs kn = some (.ref n)) (hvn : handedIn vn = true) (hv : valueAt kvs kq = some (.ref q))
    (h : ∀ h' tk, Fr h₀ L h' m → News h₀ L h' ((x, instObj 175 dx) :: (dx, caO qc (.ref d) (.ref n) (.ref lr) mxv afv) :: (d, od) :: (n, instObj 39 dn) :: (dn, ndO qn .none (.int kp tp) (.int kn tn) vn cn) :: (pr, instObj 39 dp) :: (dp, ndO qp (.ref n) (.int kq tq) (.int kp tp) vp cp) :: (q, instObj 39 dq) :: (dq, ndO qq (.ref pr) nkq (.int kq tq) vq cq) :: (lr, instObj 39 dl) :: rest) → R (.ok (.ret vn)) { s with heap := h', toks := tk }) :
    codeAny (model PySem.Challenge.rw_jh0006_01.row.prog w) A (.call (.ref 72) ⟨[.ref x, .int kn kt], []⟩) R s := by
  obtain ⟨B, X, T, hA, hf, hk, hh⟩ := AM
  simp only [List.forall_mem_cons, List.not_mem_nil, false_implies, implies_true, and_true] at hR hI
  simp only [List.nodup_cons, List.mem_cons, List.not_mem_nil, or_false, not_or, List.nodup_nil, and_true, not_false_eq_true] at hD
  obtain ⟨⟨_, _, _⟩, ⟨_, _⟩, _⟩ := hD
  obtain ⟨⟨_, _, _, _, _, _⟩, ⟨_, _, _, _, _, _⟩, ⟨_, _, _, _, _, _⟩, ⟨_, _, _, _, _, _⟩⟩ := hI
  obtain ⟨_, _, _, _⟩ := hR
  k_enter
  k_steps
  exact h _ _ (by assumption) (by assumption)
theorem gi_C (AM : Amb w A A₀ base h₀ env outer L p loose mean mg mb) (F : Fr h₀ L s.heap m)
    (N : News h₀ L s.heap ((x, instObj 175 dx) :: (dx, caO qc (.ref d) (.ref mr) (.ref n) mxv afv) :: (d, od) :: (n, instObj 39 dn) :: (dn, ndO qn (.ref pr) .none (.int kn tn) vn cn) :: (pr, instObj 39 dp) :: (dp, ndO qp pvp (.int kn tn) (.int kp tp) vp cp) :: (mr, instObj 39 dm) :: (dm, ndO qm .none nkm (.int km tm) vm cm) :: rest))
    (hD : [dx, dm, dp, dn].Nodup) (hI : ∀ a ∈ [dx, dm, dp, dn], x ≠ a ∧ d ≠ a ∧ n ≠ a ∧ pr ≠ a ∧ mr ≠ a) (hR : ∀ a ∈ [dx, dm, dp, dn], ∀ p ∈ rest, p.1 ≠ a) (n_mr : n ≠ mr) (hd : A.depth + 10 < recursionLimit) (hod : od.IsDictOf (intKind PySem.Challenge.rw_jh0006_01.row.prog w) kvs) (hva : valueAt kvs kn = some (.ref n)) (hvn : handedIn vn = true)
    (h : ∀ h' tk, Fr h₀ L h' m → News h₀ L h' ((x, instObj 175 dx) :: (dx, caO qc (.ref d) (.ref n) (.ref pr) mxv afv) :: (d, od) :: (n, instObj 39 dn) :: (dn, ndO qn .none (.int km tm) (.int kn tn) vn cn) :: (pr, instObj 39 dp) :: (dp, ndO qp pvp .none (.int kp tp) vp cp) :: (mr, instObj 39 dm) :: (dm, ndO qm (.ref n) nkm (.int km tm) vm cm) :: rest) → R (.ok (.ret vn)) { s with heap := h', toks := tk }) :
    codeAny (model PySem.Challenge.rw_jh0006_01.row.prog w) A (.call (.ref 72) ⟨[.ref x, .int kn kt], []⟩) R s := by
  obtain ⟨B, X, T, hA, hf, hk, hh⟩ := AM
  simp only [List.forall_mem_cons, List.not_mem_nil, false_implies, implies_true, and_true] at hR hI
  simp only [List.nodup_cons, List.mem_cons, List.not_mem_nil, or_false, not_or, List.nodup_nil, and_true, not_false_eq_true] at hD
  obtain ⟨⟨_, _, _⟩, ⟨_, _⟩, _⟩ := hD
  obtain ⟨⟨_, _, _, _, _⟩, ⟨_, _, _, _, _⟩, ⟨_, _, _, _, _⟩, ⟨_, _, _, _, _⟩⟩ := hI
  obtain ⟨_, _, _, _⟩ := hR
  k_enter
  k_steps
  exact h _ _ (by assumption) (by assumption)
theorem gi_D (AM : Amb w A A₀ base h₀ env outer L p loose mean mg mb) (F : Fr h₀ L s.heap m)
    (N : News h₀ L s.heap ((x, instObj 175 dx) :: (dx, caO qc (.ref d) (.ref mr) (.ref lr) mxv afv) :: (d, od) :: (n, instObj 39 dn) :: (dn, ndO qn (.ref pr) (.int kq tq) (.int kn tn) vn cn) :: (pr, instObj 39 dp) :: (dp, ndO qp pvp (.int kn tn) (.int kp tp) vp cp) :: (q, instObj 39 dq) :: (dq, ndO qq (.ref n) nkq (.int kq tq) vq cq) :: (mr, instObj 39 dm) :: (dm, ndO qm .none nkm (.int km tm) vm cm) :: (lr, instObj 39 dl) :: rest))
    (hD : [dx, dm, dp, dn, dq].Nodup) (hI : ∀ a ∈ [dx, dm, dp, dn, dq], x ≠ a ∧ d ≠ a ∧ n ≠ a ∧ pr ≠ a ∧ q ≠ a ∧ mr ≠ a ∧ lr ≠ a) (hR : ∀ a ∈ [dx, dm, dp, dn, dq], ∀ p ∈ rest, p.1 ≠ a) (n_mr : n ≠ mr) (n_lr : n ≠ lr) (hd : A.depth + 10 < recursionLimit) (hod : od.IsDictOf (intKind PySem.Challenge.rw_jh0006_01.row.prog w) kvs) (hva : valueAt kvs kn = some (.ref n)) (hvn : handedIn vn = true) (hv : valueAt kvs kq = some (.ref q))
    (h : ∀ h' tk, Fr h₀ L h' m → News h₀ L h' ((x, instObj 175 dx) :: (dx, caO qc (.ref d) (.ref n) (.ref lr) mxv afv) :: (d, od) :: (n, instObj 39 dn) :: (dn, ndO qn .none (.int km tm) (.int kn tn) vn cn) :: (pr, instObj 39 dp) :: (dp, ndO qp pvp (.int kq tq) (.int kp tp) vp cp) :: (q, instObj 39 dq) :: (dq, ndO qq (.ref pr) nkq (.int kq tq) vq cq) :: (mr, instObj 39 dm) :: (dm, ndO qm (.ref n) nkm (.int km tm) vm cm) :: (lr, instObj 39 dl) :: rest) → R (.ok (.ret vn)) { s with heap := h', toks := tk }) :
    codeAny (model PySem.Challenge.rw_jh0006_01.row.prog w) A (.call (.ref 72) ⟨[.ref x, .int kn kt], []⟩) R s := by
  obtain ⟨B, X, T, hA, hf, hk, hh⟩ := AM
  simp only [List.forall_mem_cons, List.not_mem_nil, false_implies, implies_true, and_true] at hR hI
  simp only [List.nodup_cons, List.mem_cons, List.not_mem_nil, or_false, not_or, List.nodup_nil, and_true, not_false_eq_true] at hD
  obtain ⟨⟨_, _, _, _⟩, ⟨_, _, _⟩, ⟨_, _⟩, _⟩ := hD
  obtain ⟨⟨_, _, _, _, _, _, _⟩, ⟨_, _, _, _, _, _, _⟩, ⟨_, _, _, _, _, _, _⟩, ⟨_, _, _, _, _, _, _⟩, ⟨_, _, _, _, _, _, _⟩⟩ := hI
  obtain ⟨_, _, _, _, _⟩ := hR
  k_enter
  k_steps
  exact h _ _ (by assumption) (by assumption)
theorem gi_G (AM : Amb w A A₀ base h₀ env outer L p loose mean mg mb) (F : Fr h₀ L s.heap m)
    (N : News h₀ L s.heap ((x, instObj 175 dx) :: (dx, caO qc (.ref d) (.ref n) (.ref lr) mxv afv) :: (d, od) :: (n, instObj 39 dn) :: (dn, ndO qn .none nkq (.int kn tn) vn cn) :: rest))
    (hD : [dx].Nodup) (hI : ∀ a ∈ [dx], x ≠ a ∧ d ≠ a ∧ n ≠ a) (hR : ∀ a ∈ [dx], ∀ p ∈ rest, p.1 ≠ a) (hd : A.depth + 10 < recursionLimit) (hod : od.IsDictOf (intKind PySem.Challenge.rw_jh0006_01.row.prog w) kvs) (hva : valueAt kvs kn = some (.ref n)) (hvn : handedIn vn = true)
    (h : ∀ h' tk, Fr h₀ L h' m → News h₀ L h' ((x, instObj 175 dx) :: (dx, caO qc (.ref d) (.ref n) (.ref lr) mxv afv) :: (d, od) :: (n, instObj 39 dn) :: (dn, ndO qn .none nkq (.int kn tn) vn cn) :: rest) → R (.ok (.ret vn)) { s with heap := h', toks := tk }) :
    codeAny (model PySem.Challenge.rw_jh0006_01.row.prog w) A (.call (.ref 72) ⟨[.ref x, .int kn kt], []⟩) R s := by
  obtain ⟨B, X, T, hA, hf, hk, hh⟩ := AM
  simp only [List.forall_mem_cons, List.not_mem_nil, false_implies, implies_true, and_true] at hR hI
  obtain ⟨_, _, _⟩ := hI
  k_enter
  k_steps
  exact h _ _ (by assumption) (by assumption)
end
end Mine
end
section
namespace Mine
section
variable {w : World} {A A₀ : Around} {base h₀ : Heap} {env : Env} {outer : List Env} {L : Addr} {p : Program} {loose : List Str} {mean : ExcName → Option Value} {mg mb m : Str → Option Value} {s : Shared} {news : List (Addr × Obj)} {R : Result → Shared → Prop}
variable {x dx d : Addr} {qc : K5} {mx af : Value} {kt : Tok}
theorem C_gi_A {p1 n : Nd} (AM : Amb w A A₀ base h₀ env outer L p loose mean mg mb) (F : Fr h₀ L s.heap m) (N : News h₀ L s.heap news) (hd : A.depth + 10 < recursionLimit)
    (I : Links news x dx d qc ([p1, n]) mx af) {od : Obj} {kvs : List (Int × Value)} (Md : (d, od) ∈ news) (hod : od.IsDictOf (intKind PySem.Challenge.rw_jh0006_01.row.prog w) kvs) (hva : valueAt kvs n.k = some (.ref n.a)) (hvn : handedIn n.v = true)
    (h : ∀ h' tk news', Fr h₀ L h' m → News h₀ L h' news' → Links news' x dx d qc ([n, p1]) mx af → Kept (dx :: ([p1, n]).map (·.da)) news news' → R (.ok (.ret n.v)) { s with heap := h', toks := tk }) :
    codeAny (model PySem.Challenge.rw_jh0006_01.row.prog w) A (.call (.ref 72) ⟨[.ref x, .int n.k kt], []⟩) R s := by
  exact abs_A N I Md h fun N1 d1 d2 d3 e0 k => gi_A (x := x) (dx := dx) (d := d) (n := n.a) (dn := n.da) (pr := p1.a) (dp := p1.da) (rest := offs [dx, p1.da, n.da] news) AM F N1 d1 d2 d3 e0 hd hod hva hvn k
theorem C_gi_B {p1 n q : Nd} {l2 : List Nd} (AM : Amb w A A₀ base h₀ env outer L p loose mean mg mb) (F : Fr h₀ L s.heap m) (N : News h₀ L s.heap news) (hd : A.depth + 10 < recursionLimit)
    (I : Links news x dx d qc (p1 :: n :: q :: l2) mx af) {od : Obj} {kvs : List (Int × Value)} (Md : (d, od) ∈ news) (hod : od.IsDictOf (intKind PySem.Challenge.rw_jh0006_01.row.prog w) kvs) (hva : valueAt kvs n.k = some (.ref n.a)) (hvn : handedIn n.v = true) (hv : valueAt kvs q.k = some (.ref q.a))
    (h : ∀ h' tk news', Fr h₀ L h' m → News h₀ L h' news' → Links news' x dx d qc (n :: p1 :: q :: l2) mx af → Kept (dx :: (p1 :: n :: q :: l2).map (·.da)) news news' → R (.ok (.ret n.v)) { s with heap := h', toks := tk }) :
    codeAny (model PySem.Challenge.rw_jh0006_01.row.prog w) A (.call (.ref 72) ⟨[.ref x, .int n.k kt], []⟩) R s := by
  exact abs_B N I Md h fun nl N1 d1 d2 d3 e0 e1 k => gi_B (x := x) (dx := dx) (d := d) (n := n.a) (dn := n.da) (pr := p1.a) (dp := p1.da) (q := q.a) (dq := q.da) (lr := nl.a) (dl := nl.da) (rest := offs [dx, p1.da, n.da, q.da] news) AM F N1 d1 d2 d3 e0 e1 hd hod hva hvn hv k
theorem C_gi_C {m1 p1 n : Nd} {mid : List Nd} (AM : Amb w A A₀ base h₀ env outer L p loose mean mg mb) (F : Fr h₀ L s.heap m) (N : News h₀ L s.heap news) (hd : A.depth + 10 < recursionLimit)
    (I : Links news x dx d qc (m1 :: (mid ++ [p1, n])) mx af) {od : Obj} {kvs : List (Int × Value)} (Md : (d, od) ∈ news) (hod : od.IsDictOf (intKind PySem.Challenge.rw_jh0006_01.row.prog w) kvs) (hva : valueAt kvs n.k = some (.ref n.a)) (hvn : handedIn n.v = true)
    (h : ∀ h' tk news', Fr h₀ L h' m → News h₀ L h' news' → Links news' x dx d qc (n :: m1 :: (mid ++ [p1])) mx af → Kept (dx :: (m1 :: (mid ++ [p1, n])).map (·.da)) news news' → R (.ok (.ret n.v)) { s with heap := h', toks := tk }) :
    codeAny (model PySem.Challenge.rw_jh0006_01.row.prog w) A (.call (.ref 72) ⟨[.ref x, .int n.k kt], []⟩) R s := by
  exact abs_C N I Md h fun N1 d1 d2 d3 e0 k => gi_C (x := x) (dx := dx) (d := d) (n := n.a) (dn := n.da) (pr := p1.a) (dp := p1.da) (mr := m1.a) (dm := m1.da) (rest := offs [dx, m1.da, p1.da, n.da] news) AM F N1 d1 d2 d3 e0 hd hod hva hvn k
theorem C_gi_D {m1 p1 n q : Nd} {mid l2 : List Nd} (AM : Amb w A A₀ base h₀ env outer L p loose mean mg mb) (F : Fr h₀ L s.heap m) (N : News h₀ L s.heap news) (hd : A.depth + 10 < recursionLimit)
    (I : Links news x dx d qc (m1 :: (mid ++ p1 :: n :: q :: l2)) mx af) {od : Obj} {kvs : List (Int × Value)} (Md : (d, od) ∈ news) (hod : od.IsDictOf (intKind PySem.Challenge.rw_jh0006_01.row.prog w) kvs) (hva : valueAt kvs n.k = some (.ref n.a)) (hvn : handedIn n.v = true) (hv : valueAt kvs q.k = some (.ref q.a))
    (h : ∀ h' tk news', Fr h₀ L h' m → News h₀ L h' news' → Links news' x dx d qc (n :: m1 :: (mid ++ p1 :: q :: l2)) mx af → Kept (dx :: (m1 :: (mid ++ p1 :: n :: q :: l2)).map (·.da)) news news' → R (.ok (.ret n.v)) { s with heap := h', toks := tk }) :
    codeAny (model PySem.Challenge.rw_jh0006_01.row.prog w) A (.call (.ref 72) ⟨[.ref x, .int n.k kt], []⟩) R s := by
  exact abs_D N I Md h fun nl N1 d1 d2 d3 e0 e1 k => gi_D (x := x) (dx := dx) (d := d) (n := n.a) (dn := n.da) (pr := p1.a) (dp := p1.da) (q := q.a) (dq := q.da) (mr := m1.a) (dm := m1.da) (lr := nl.a) (dl := nl.da) (rest := offs [dx, m1.da, p1.da, n.da, q.da] news) AM F N1 d1 d2 d3 e0 e1 hd hod hva hvn hv k
theorem C_gi_G {n : Nd} {l2 : List Nd} (AM : Amb w A A₀ base h₀ env outer L p loose mean mg mb) (F : Fr h₀ L s.heap m) (N : News h₀ L s.heap news) (hd : A.depth + 10 < recursionLimit)
    (I : Links news x dx d qc (n :: l2) mx af) {od : Obj} {kvs : List (Int × Value)} (Md : (d, od) ∈ news) (hod : od.IsDictOf (intKind PySem.Challenge.rw_jh0006_01.row.prog w) kvs) (hva : valueAt kvs n.k = some (.ref n.a)) (hvn : handedIn n.v = true)
    (h : ∀ h' tk news', Fr h₀ L h' m → News h₀ L h' news' → Links news' x dx d qc (n :: l2) mx af → Kept (dx :: (n :: l2).map (·.da)) news news' → R (.ok (.ret n.v)) { s with heap := h', toks := tk }) :
    codeAny (model PySem.Challenge.rw_jh0006_01.row.prog w) A (.call (.ref 72) ⟨[.ref x, .int n.k kt], []⟩) R s := by
  have I' := I
  obtain ⟨i1, i2, i3, i4, i5, i6⟩ := I
  obtain ⟨lr, e, _⟩ := lsR_ref l2 n.a
  have i2 : (dx, caO qc (.ref d) (.ref n.a) (.ref lr) mx af) ∈ news := e ▸ i2
  have hs : ∀ a ∈ [dx], a ∈ dx :: (n :: l2).map (·.da) := by simp
  refine gi_G (x := x) (dx := dx) (d := d) (rest := offs [dx] news) (n := n.a) (dn := n.da) (lr := lr) AM F (news_focus N [dx] [(x, instObj 175 dx), (dx, caO qc (.ref d) (.ref n.a) (.ref lr) mx af), (d, od), (n.a, instObj 39 n.da), (n.da, ndO n.q .none (nxk l2 .none) (.int n.k n.tk) n.v n.cb)] ?_) (by simp) (fun a ha => ⟨I'.sep (in3 hs) (by simp) a ha, I'.dsep hs a ha, I'.sep (in3 hs) (by simp) a ha⟩) (fun a ha => offs_off ha) hd hod hva hvn fun h' tk F' N' => h h' tk _ F' N' ?_ (Kept.mono (kept_app (ex := [_, _, _, _, _])) hs)
  · simp only [List.forall_mem_cons]
    exact ⟨i1, i2, Md, i3.1.1, i3.1.2, fun _ h => nomatch h⟩
  · have K := kept_app (D := [dx]) (news := news) (ex := [(x, instObj 175 dx), (dx, caO qc (.ref d) (.ref n.a) (.ref lr) mx af), (d, od), (n.a, instObj 39 n.da), (n.da, ndO n.q .none (nxk l2 .none) (.int n.k n.tk) n.v n.cb)])
    refine ⟨by k_mem, ?_, chain_keptL I' hs K i3 (fun _ h => h) (fun k hk q => ?_), i4, i5, i6⟩
    · show (dx, caO qc (.ref d) (.ref n.a) (lsR l2 (.ref n.a)) mx af) ∈ _
      rw [e]; k_mem
    · have hk' := List.mem_map_of_mem (f := (·.da)) hk
      simp only [List.mem_cons, List.not_mem_nil, or_false] at q
      rw [q] at hk'
      exact (List.nodup_cons.mp i4).1 (.tail _ hk')


theorem C_gi {l1 l2 : List Nd} {n : Nd} (AM : Amb w A A₀ base h₀ env outer L p loose mean mg mb) (F : Fr h₀ L s.heap m) (N : News h₀ L s.heap news) (hd : A.depth + 10 < recursionLimit)
    (I : Links news x dx d qc (l1 ++ n :: l2) mx af) (M : MapIn w news d (l1 ++ n :: l2)) (hvn : handedIn n.v = true)
    (h : ∀ h' tk news', Fr h₀ L h' m → News h₀ L h' news' → Links news' x dx d qc (n :: (l1 ++ l2)) mx af → Kept (dx :: (l1 ++ n :: l2).map (·.da)) news news' → R (.ok (.ret n.v)) { s with heap := h', toks := tk }) :
    codeAny (model PySem.Challenge.rw_jh0006_01.row.prog w) A (.call (.ref 72) ⟨[.ref x, .int n.k kt], []⟩) R s := by
  obtain ⟨od, kvs, a1, a2, c, _⟩ := M
  have at_ : ∀ q ∈ l1 ++ n :: l2, valueAt kvs q.k = some (.ref q.a) := fun q hq => valueAt_perm c (isDict_nodup a2) (List.mem_map.mpr ⟨q, hq, rfl⟩)
  have hn := at_ n (by simp)
  rcases List.eq_nil_or_concat l1 with rfl | ⟨l1', p1, rfl⟩
  · exact C_gi_G AM F N hd I a1 a2 hn hvn h
  · simp only [List.concat_eq_append, List.append_assoc, List.singleton_append, List.cons_append, List.nil_append] at I h at_
    cases l2 with
    | nil =>
      cases l1' with
      | nil => exact C_gi_A AM F N hd I a1 a2 hn hvn h
      | cons m1 mid => exact C_gi_C AM F N hd I a1 a2 hn hvn (by simpa using h)
    | cons q l2 =>
      have hq := at_ q (by simp)
      cases l1' with
      | nil => exact C_gi_B AM F N hd I a1 a2 hn hvn hq h
      | cons m1 mid => exact C_gi_D AM F N hd I a1 a2 hn hvn hq (by simpa using h)
end
end Mine
end
theorem Mine.top_off_p15 : True := by
  w_top off
  try walk1
  trivial
section
namespace Mine
section
local macro_rules | `(tactic| walk_at "call ref") => `(tactic| (k_here; (with_reducible show wpAny _ _ (call (Value.ref _) _ _) _ _ _); refine Mine.stop ?_))
local macro_rules | `(tactic| walk_at "compareOp In int ref") => `(tactic| (k_here; k_dflt (refine kda_in (knd := PySem.intKind _ _) (by k_asm) (by k_mem) (by assumption) (by assumption) (intKind_is _ _ _ _) _ (by assumption) ?_)))
local macro_rules | `(tactic| walk_at "getMethod ref") => `(tactic| (k_here; k_dflt (refine kdg_method (knd := PySem.intKind _ _) (by k_asm) (by k_mem) (by assumption) ?_)))
local macro_rules | `(tactic| walk_at "call builtin:dict.get") => `(tactic| (k_here; k_dflt (refine kdg_get2 (knd := PySem.intKind _ _) (by k_asm) (by k_mem) (by assumption) (by assumption) (intKind_is _ _ _ _) _ (by assumption) ?_); (try dsimp only [Option.getD])))
variable {w : World} {A A₀ : Around} {base h₀ : Heap} {env : Env} {outer : List Env} {L : Addr} {p : Program} {loose : List Str} {mean : ExcName → Option Value} {mg mb m : Str → Option Value} {s : Shared} {news rest : List (Addr × Obj)} {R : Result → Shared → Prop}
variable {x dx d tl : Addr} {qc : K5} {ts : List Value} {tn : Nat} {G : List (Int × Value)} {mx af : Value} {kt : Tok}

theorem C_getH {l1 l2 : List Nd} {n : Nd} {dflt : Value} (AM : Amb w A A₀ base h₀ env outer L p loose mean mg mb) (F : Fr h₀ L s.heap m) (N : News h₀ L s.heap news) (hd : A.depth + 20 < recursionLimit)
    (I : Links news x dx d qc (l1 ++ n :: l2) mx af) (M : MapIn w news d (l1 ++ n :: l2)) (hvn : handedIn n.v = true)
    (h : ∀ h' tk news', Fr h₀ L h' m → News h₀ L h' news' → Links news' x dx d qc (n :: (l1 ++ l2)) mx af → Kept (dx :: (l1 ++ n :: l2).map (·.da)) news news' → R (.ok (.ret n.v)) { s with heap := h', toks := tk }) :
    codeAny (model PySem.Challenge.rw_jh0006_01.row.prog w) A (.call (.ref 102) ⟨[.ref x, .int n.k kt, dflt], []⟩) R s := by
  have i1 := I.inst
  have i2 := I.dic
  obtain ⟨od, kvs, m1, m2, m3, m4⟩ := id M
  have hva : valueAt kvs n.k = some (.ref n.a) := valueAt_perm m3 (isDict_nodup m2) (List.mem_map.mpr ⟨n, by simp, rfl⟩)
  obtain ⟨B, X, T, hA, hf, hk, hh⟩ := AM
  k_enter
  k_steps
  unfold Stop
  rename News _ _ _ _ => N1
  rename Fr _ _ _ _ => F1
  rename Below _ _ _ _ => B1
  rename Top _ _ _ _ _ _ => T1
  rename Frag.In _ _ => X1
  refine wpAny_call (C_ra (Amb.deep hh B1 X1 T1 rfl rfl) F1 N1 (by k_room) I M fun h2 tk2 news2 F2 N2 I2 K2 => ?_)
  clear F1 N1 i1 i2
  dsimp only
  have j := I2.ch.1
  have j1 := j.1
  have j2 := j.2
  clear j
  k_steps
  rename News _ _ _ _ => N3
  rename Fr _ _ _ _ => F3
  exact h _ _ _ F3 N3 I2 K2

theorem C_getM {row : List Nd} {k : Int} {dflt : Value} (AM : Amb w A A₀ base h₀ env outer L p loose mean mg mb) (F : Fr h₀ L s.heap m) (N : News h₀ L s.heap news) (hd : A.depth + 20 < recursionLimit)
    (I : Links news x dx d qc row mx af) (M : MapIn w news d row) (hk0 : k ∉ row.map (·.k))
    (h : ∀ h' tk, Fr h₀ L h' m → News h₀ L h' news → R (.ok (.ret dflt)) { s with heap := h', toks := tk }) :
    codeAny (model PySem.Challenge.rw_jh0006_01.row.prog w) A (.call (.ref 102) ⟨[.ref x, .int k kt, dflt], []⟩) R s := by
  have i1 := I.inst
  have i2 := I.dic
  obtain ⟨od, kvs, m1, m2, m3, m4⟩ := id M
  have hva : valueAt kvs k = none := valueAt_none m3 (by rw [List.map_map]; exact hk0)
  obtain ⟨B, X, T, hA, hf, hk, hh⟩ := AM
  k_enter
  k_steps
  rename News _ _ _ _ => N3
  rename Fr _ _ _ _ => F3
  exact h _ _ F3 N3

theorem C_in {row : List Nd} {k : Int} (AM : Amb w A A₀ base h₀ env outer L p loose mean mg mb) (F : Fr h₀ L s.heap m) (N : News h₀ L s.heap news) (hd : A.depth + 20 < recursionLimit)
    (I : Links news x dx d qc row mx af) (M : MapIn w news d row)
    (h : ∀ h' tk, Fr h₀ L h' m → News h₀ L h' news → R (.ok (.ret (.bool (decide (k ∈ row.map (·.k)))))) { s with heap := h', toks := tk }) :
    codeAny (model PySem.Challenge.rw_jh0006_01.row.prog w) A (.call (.ref 65) ⟨[.ref x, .int k kt], []⟩) R s := by
  have i1 := I.inst
  have i2 := I.dic
  obtain ⟨od, kvs, m1, m2, m3, m4⟩ := id M
  have hva : (valueAt kvs k).isSome = decide (k ∈ row.map (·.k)) := by
    by_cases hk : k ∈ row.map (·.k)
    · obtain ⟨n, hn, rfl⟩ := List.mem_map.mp hk
      rw [valueAt_perm m3 (isDict_nodup m2) (List.mem_map.mpr ⟨n, hn, rfl⟩), decide_eq_true hk]; rfl
    · rw [valueAt_none m3 (by rw [List.map_map]; exact hk), decide_eq_false hk]; rfl
  obtain ⟨B, X, T, hA, hf, hk, hh⟩ := AM
  k_enter
  k_steps
  rename News _ _ _ _ => N3
  rename Fr _ _ _ _ => F3
  exact h _ _ F3 N3

theorem C_len {row : List Nd} (AM : Amb w A A₀ base h₀ env outer L p loose mean mg mb) (F : Fr h₀ L s.heap m) (N : News h₀ L s.heap news) (hd : A.depth + 20 < recursionLimit)
    (I : Links news x dx d qc row mx af) (M : MapIn w news d row) (hl : row.length ≤ 1000)
    (h : ∀ h' tk t, Fr h₀ L h' m → News h₀ L h' news → R (.ok (.ret (.int row.length t))) { s with heap := h', toks := tk }) :
    codeAny (model PySem.Challenge.rw_jh0006_01.row.prog w) A (.call (.ref 79) ⟨[.ref x], []⟩) R s := by
  have i1 := I.inst
  have i2 := I.dic
  obtain ⟨od, kvs, m1, m2, m3, m4⟩ := id M
  have hkl : kvs.length = row.length := by rw [m3.length_eq, List.length_map]
  have hz : kvs.length ≤ 16777216 := by omega
  obtain ⟨B, X, T, hA, hf, hk, hh⟩ := AM
  k_enter
  k_steps
  rename News _ _ _ _ => N3
  rename Fr _ _ _ _ => F3
  rw [hkl]
  exact h _ _ _ F3 N3

theorem C_size {row : List Nd} {M : Int} {tm : Tok} (AM : Amb w A A₀ base h₀ env outer L p loose mean mg mb) (F : Fr h₀ L s.heap m) (N : News h₀ L s.heap news) (hd : A.depth + 20 < recursionLimit)
    (I : Links news x dx d qc row (.int M tm) af)
    (h : ∀ h' tk, Fr h₀ L h' m → News h₀ L h' news → R (.ok (.ret (.int M tm))) { s with heap := h', toks := tk }) :
    codeAny (model PySem.Challenge.rw_jh0006_01.row.prog w) A (.call (.ref 94) ⟨[.ref x], []⟩) R s := by
  have i1 := I.inst
  have i2 := I.dic
  obtain ⟨B, X, T, hA, hf, hk, hh⟩ := AM
  k_enter
  k_steps
  rename News _ _ _ _ => N3
  rename Fr _ _ _ _ => F3
  exact h _ _ F3 N3
end
end Mine
end
theorem Mine.top_off_p16 : True := by
  w_top off
  try walk1
  trivial
section
namespace Mine
section
variable {w : World} {s : Shared} {x k v cb : Value}
theorem hb_of {w : World} {s : Shared} {f : Addr} {args : Args} {binds : List (Str × Value)} {oc' : Value} {od' : Option Addr} {fd' : FuncData} {osl' : Array (Option Value)} (e' : (Mine.hd.heap_1 w.params).lookup f = some ⟨oc', od', .func fd', osl'⟩) (hb : BindsTo s fd' args binds) :
    ∀ fd oc od osl, (Mine.hd.heap_1 w.params).lookup f = some ⟨oc, od, .func fd, osl⟩ → BindsTo s fd args binds := by
  intro fd oc od osl e
  have e2 := congrArg (fun o => o.map Obj.data) (e.symm.trans e')
  simp only [Option.map_some, Option.some.injEq, Data.func.injEq] at e2
  subst e2
  exact hb
theorem hb_kw (X : (Mine.hd.heap_1 w.params).In s.heap) : ∀ fd oc od osl, (Mine.hd.heap_1 w.params).lookup 87 = some ⟨oc, od, .func fd, osl⟩ → BindsTo s fd ⟨[x, k, v], [("cleanup", cb)]⟩ [("self", x), ("key", k), ("value", v), ("cleanup", cb)] := by
  refine' hb_of ?e ?_
  (case e => k_is)
  exact binds_K X rfl (by k_is) rfl rfl rfl
theorem hb_pos (X : (Mine.hd.heap_1 w.params).In s.heap) : ∀ fd oc od osl, (Mine.hd.heap_1 w.params).lookup 87 = some ⟨oc, od, .func fd, osl⟩ → BindsTo s fd ⟨[x, k, v, cb], []⟩ [("self", x), ("key", k), ("value", v), ("cleanup", cb)] := by
  refine' hb_of ?e ?_
  (case e => k_is)
  exact binds_K X rfl (by k_is) rfl rfl rfl
theorem hb_two (X : (Mine.hd.heap_1 w.params).In s.heap) : ∀ fd oc od osl, (Mine.hd.heap_1 w.params).lookup 87 = some ⟨oc, od, .func fd, osl⟩ → BindsTo s fd ⟨[x, k, v], []⟩ [("self", x), ("key", k), ("value", v), ("cleanup", .none)] := by
  refine' hb_of ?e ?_
  (case e => k_is)
  exact binds_K X rfl (by k_is) rfl rfl rfl
end
section
local macro_rules | `(tactic| walk_at "call ref") => `(tactic| (k_here; (with_reducible show wpAny _ _ (call (Value.ref _) _ _) _ _ _); refine Mine.stop ?_))
variable {w : World} {A A₀ : Around} {base h₀ : Heap} {env : Env} {outer : List Env} {L : Addr} {p : Program} {loose : List Str} {mean : ExcName → Option Value} {mg mb m : Str → Option Value} {s : Shared} {news rest : List (Addr × Obj)} {R : Result → Shared → Prop}
variable {x dx d tl : Addr} {qc : K5} {ts : List Value} {tn : Nat} {G : List (Int × Value)} {mx af : Value} {kt : Tok}

/-- what add makes of the row, and whom it tells -/
def addRow (row : List Nd) (n' : Nd) : List Nd := n' :: row.filter fun m => m.k ≠ n'.k
def addTell (row : List Nd) (k : Int) : List (Int × Value) := (row.filter fun m => m.k = k).flatMap tells
theorem C_add {row : List Nd} {k : Int} {M af : Int} {tm ta kt : Tok} {v cb : Value} {args : Args} (AM : Amb w A A₀ base h₀ env outer L p loose mean mg mb) (F : Fr h₀ L s.heap m) (N : News h₀ L s.heap news) (hd : A.depth + 90 < recursionLimit) (hu : A.units + 280 < cLine)
    (hb : ∀ fd oc od osl, (Mine.hd.heap_1 w.params).lookup 87 = some ⟨oc, od, .func fd, osl⟩ → BindsTo s fd args [("self", .ref x), ("key", .int k kt), ("value", v), ("cleanup", cb)])
    (I : Links news x dx d qc row (.int M tm) (.int af ta)) (Mp : MapIn w news d row) (hlen : row.length + G.length ≤ 700) (h0 : 0 ≤ af) (C : ∀ m ∈ row, CbIn w tl news m)
    (hv : handedIn v = true) (hcb : cb = .none ∨ ∃ f lam, cb = .ref f ∧ CbOk w f tl lam ∧ ∀ p ∈ lam, p ∈ news) (ht : (tl, listOf ts.toArray tn) ∈ news) (TI : TIt news ts G)
    (h : ∀ h' tk news' ts' tn' n, n.k = k → n.v = v → n.cb = cb → Fr h₀ L h' m → News h₀ L h' news' → Links news' x dx d qc (cutRow M af (addRow row n)) (.int M tm) (.int af ta) → MapIn w news' d (cutRow M af (addRow row n)) →
      (tl, listOf ts'.toArray tn') ∈ news' → TIt news' ts' (G ++ addTell row k ++ cutTell M af (addRow row n)) → KeptT tl news news' → R (.ok (.ret .none)) { s with heap := h', toks := tk }) :
    codeAny (model PySem.Challenge.rw_jh0006_01.row.prog w) A (.call (.ref 87) args) R s := by
  have hkn := Mp.keys
  by_cases hk : k ∈ row.map (·.k)
  · obtain ⟨n, hn, rfl⟩ := List.mem_map.mp hk
    obtain ⟨l1, l2, rfl⟩ := List.append_of_mem hn
    have hne : ∀ m ∈ l1 ++ l2, m.k ≠ n.k := by
      intro m hm e
      rw [List.map_append, List.map_cons] at hkn
      have := (List.nodup_cons.mp (List.perm_middle.nodup_iff.mp hkn)).1
      rw [← List.map_append] at this
      exact this (List.mem_map.mpr ⟨m, hm, e⟩)
    have f1 : (l1 ++ n :: l2).filter (fun m => m.k ≠ n.k) = l1 ++ l2 := by
      have h1 : l1.filter (fun m => m.k ≠ n.k) = l1 := List.filter_eq_self.mpr fun m hm => by simpa using hne m (List.mem_append_left _ hm)
      have h2 : l2.filter (fun m => m.k ≠ n.k) = l2 := List.filter_eq_self.mpr fun m hm => by simpa using hne m (List.mem_append_right _ hm)
      rw [List.filter_append, List.filter_cons_of_neg (by simp), h1, h2]
    have f2 : (l1 ++ n :: l2).filter (fun m => m.k = n.k) = [n] := by
      have h1 : l1.filter (fun m => m.k = n.k) = [] := List.filter_eq_nil_iff.mpr fun m hm => by simpa using hne m (List.mem_append_left _ hm)
      have h2 : l2.filter (fun m => m.k = n.k) = [] := List.filter_eq_nil_iff.mpr fun m hm => by simpa using hne m (List.mem_append_right _ hm)
      rw [List.filter_append, List.filter_cons_of_pos (by simp), h1, h2]; rfl
    have g1 : addRow (l1 ++ n :: l2) { n with v := v, cb := cb } = { n with v := v, cb := cb } :: (l1 ++ l2) := by unfold addRow; rw [f1]
    have g2 : addTell (l1 ++ n :: l2) n.k = tells n := by unfold addTell; rw [f2]; simp
    have h := fun h' tk news' ts' tn' => h h' tk news' ts' tn' { n with v := v, cb := cb } rfl rfl rfl
    rw [g1, g2] at h
    exact C_addE AM F N hd hu hb I Mp hlen h0 C hv hcb ht TI h
  · have f1 : ∀ m ∈ row, m.k ≠ k := fun m hm e => hk (List.mem_map.mpr ⟨m, hm, e⟩)
    have g2 : addTell row k = [] := by
      unfold addTell
      rw [List.filter_eq_nil_iff.mpr fun m hm => by simpa using f1 m hm]; rfl
    refine C_addN AM F N hd hu hb I Mp hk hlen h0 C hv hcb ht TI fun h' tk news' ts' tn' n e1 e2 e3 => ?_
    have h := h h' tk news' ts' tn' n e1 e2 e3
    have g1 : addRow row n = n :: row := by
      unfold addRow
      rw [List.filter_eq_self.mpr fun m hm => by simpa [e1] using f1 m hm]
    rw [g1, g2, List.append_nil] at h
    exact h

theorem C_set {row : List Nd} {k : Int} {M af : Int} {tm ta kt : Tok} {v : Value} (AM : Amb w A A₀ base h₀ env outer L p loose mean mg mb) (F : Fr h₀ L s.heap m) (N : News h₀ L s.heap news) (hd : A.depth + 100 < recursionLimit) (hu : A.units + 300 < cLine)
    (I : Links news x dx d qc row (.int M tm) (.int af ta)) (Mp : MapIn w news d row) (hlen : row.length + G.length ≤ 700) (h0 : 0 ≤ af) (C : ∀ m ∈ row, CbIn w tl news m)
    (hv : handedIn v = true) (ht : (tl, listOf ts.toArray tn) ∈ news) (TI : TIt news ts G)
    (h : ∀ h' tk news' ts' tn' n, n.k = k → n.v = v → n.cb = .none → Fr h₀ L h' m → News h₀ L h' news' → Links news' x dx d qc (cutRow M af (addRow row n)) (.int M tm) (.int af ta) → MapIn w news' d (cutRow M af (addRow row n)) →
      (tl, listOf ts'.toArray tn') ∈ news' → TIt news' ts' (G ++ addTell row k ++ cutTell M af (addRow row n)) → KeptT tl news news' → R (.ok (.ret .none)) { s with heap := h', toks := tk }) :
    codeAny (model PySem.Challenge.rw_jh0006_01.row.prog w) A (.call (.ref 128) ⟨[.ref x, .int k kt, v], []⟩) R s := by
  have i1 := I.inst
  have i2 := I.dic
  obtain ⟨B, X, T, hA, hf, hk, hh⟩ := AM
  k_enter
  k_steps
  unfold Stop
  rename News _ _ _ _ => N1
  rename Fr _ _ _ _ => F1
  rename Below _ _ _ _ => B1
  rename Top _ _ _ _ _ _ => T1
  rename Frag.In _ _ => X1
  refine wpAny_call (C_add (Amb.deep hh B1 X1 T1 rfl rfl) F1 N1 (by k_room) (by k_units) (hb_kw (X1.keeps F1.keep)) I Mp hlen h0 C hv (.inl rfl) ht TI fun h2 tk2 news2 ts2 tn2 n e1 e2 e3 F2 N2 I2 M2 ht2 TI2 K2 => ?_)
  clear F1 N1
  dsimp only
  k_steps
  rename News _ _ _ _ => N3
  rename Fr _ _ _ _ => F3
  exact h _ _ _ _ _ n e1 e2 e3 F3 N3 I2 M2 ht2 TI2 K2
end
end Mine
end
theorem Mine.top_off_p17 : True := by
  w_top off
  try walk1
  trivial
section
namespace Mine
section
local macro_rules | `(tactic| k_mem) => `(tactic| with_reducible first | assumption | exact List.mem_cons_self | exact List.mem_cons_of_mem _ (by assumption))
local macro_rules | `(tactic| walk_at "call builtin:len") => `(tactic| (k_here; k_dflt (refine kun_lenL (by exact News.isList (by k_asm) (by k_mem)) (by assumption) (by omega) ?_)))
local macro_rules | `(tactic| walk_at "binaryOp FloorDiv int int") => `(tactic| (k_here; k_dflt (refine floordiv_int (by omega) ?_ (Or.inl (PyProof.noPylong_small (by omega))))))
local macro_rules | `(tactic| walk_at "subscriptTail") => `(tactic| (k_here; k_dflt (refine item_anyK (by exact News.isList (by k_asm) (by k_mem)) (by assumption) (by omega) (by omega) (by omega) ?_; intro _)))
variable {w : World} {A A₀ : Around} {base h₀ : Heap} {env : Env} {outer : List Env} {L : Addr} {p : Program} {loose : List Str} {mean : ExcName → Option Value} {mg mb m : Str → Option Value} {s : Shared} {news rest : List (Addr × Obj)} {R : Result → Shared → Prop}
variable {st sl : Addr}

theorem C_next {vs : List Value} {n nn : Nat} {xs : List Int} {pl z size : Int} {tp tz tk : Tok} (AM : Amb w A A₀ base h₀ env outer L p loose mean mg mb) (F : Fr h₀ L s.heap m) (N : News h₀ L s.heap news) (hd : A.depth + 20 < recursionLimit)
    (h1 : (st, listOf #[.ref sl, .int pl tp, .int z tz] n) ∈ news) (h2 : (sl, listOf vs.toArray nn) ∈ news) (hi : IntsAre vs xs) (hz : 0 ≤ z ∧ z < 997) (hp : 0 ≤ pl ∧ pl < 2000) (hl : xs.length ≤ 60) (hs : 0 < size ∧ size < 20)
    (h : ∀ h' tk r tr tp', 0 ≤ r → r < size → Fr h₀ L h' m → News h₀ L h' ((st, listOf #[.ref sl, .int (pl + 1) tp', .int z tz] n) :: offs [st] news) → R (.ok (.ret (.int r tr))) { s with heap := h', toks := tk }) :
    codeAny (model PySem.Challenge.rw_jh0006_01.row.prog w) A (.call (.ref 186) ⟨[.ref st, .int size tk], []⟩) R s := by
  have D := Nat.le_refl st
  have hne : sl ≠ st := by
    intro e
    subst e
    have e := congrArg Obj.data (news_fun N h1 h2)
    simp only [W.listOf, Data.seq.injEq] at e
    have e2 := congrArg Array.toList e.1
    simp only at e2
    rw [← e2] at hi
    cases hi
  have N0 : News h₀ L s.heap ((st, listOf #[.ref sl, .int pl tp, .int z tz] n) :: offs [st] news) := news_focus N [st] [_] (by simpa using h1)
  have hr : ∀ p ∈ offs [st] news, p.1 ≠ st := offs_off (by simp)
  have h2' : (sl, listOf vs.toArray nn) ∈ offs [st] news := mem_offs.mpr ⟨h2, by simpa using hne⟩
  generalize offs [st] news = rest at *
  have hsz : (vs.toArray.size : Int) = xs.length := by have := hi.length; simp [this]
  have fm : ∀ a b : Int, 0 < b → 0 ≤ a.fmod b ∧ a.fmod b < b := fun a b hb => ⟨Int.fmod_nonneg_of_pos a hb, Int.fmod_lt_of_pos a hb⟩
  have fm3 := fm pl 3 (by decide)
  obtain ⟨B, X, T, hA, hf, hk, hh⟩ := AM
  k_enter
  k_steps
  all_goals rename News _ _ _ _ => N3
  all_goals rename Fr _ _ _ _ => F3
  all_goals exact h _ _ _ _ _ (fm _ _ hs.1).1 (fm _ _ hs.1).2 F3 N3
end
end Mine
end
theorem Mine.top_off_p18 : True := by
  w_top off
  try walk1
  trivial
section
namespace Mine
/-- an entry of the law's own row: a tuple of three -/
structure Ent where
  k : Int
  tk : Tok
  v : Value
  t : Bool
  a : Addr
def EntIn (news : List (Addr × Obj)) (e : Ent) : Prop := (e.a, tuO [.int e.k e.tk, e.v, .bool e.t]) ∈ news
def eTells (e : Ent) : List (Int × Value) := if e.t then [(e.k, e.v)] else []
def eVals (row : List Ent) : List Value := row.map fun e => .ref e.a
def RowIn (news : List (Addr × Obj)) (rl : Addr) (row : List Ent) : Prop := (∃ n, (rl, listOf (eVals row).toArray n) ∈ news) ∧ ∀ e ∈ row, EntIn news e
def ToldIn (news : List (Addr × Obj)) (gl : Addr) (G : List (Int × Value)) : Prop := ∃ gs gn, (gl, listOf gs.toArray gn) ∈ news ∧ TIt news gs G
theorem eTells_len (l : List Ent) : (l.flatMap eTells).length ≤ l.length := by
  induction l with
  | nil => simp
  | cons e r ih =>
    simp only [List.flatMap_cons, List.length_append, List.length_cons]
    have : (eTells e).length ≤ 1 := by unfold eTells; split <;> simp
    omega
theorem kept_tup {D : List Addr} {news news' : List (Addr × Obj)} {h₀ h : Heap} {L : Addr} (K : Kept D news news') (N : News h₀ L h news) (hD : ∀ a ∈ D, ∃ xs n, (a, listOf xs n) ∈ news) : ∀ a vs, (a, tuO vs) ∈ news → (a, tuO vs) ∈ news' := fun a vs hm => K _ hm fun q => by
  obtain ⟨xs, n, hx⟩ := hD a q
  have := congrArg Obj.cls (news_fun N hm hx)
  exact absurd this (by simp [W.listOf])
theorem frm3 (m' m0 : Str → Option Value) (a b c : Str) (h : ∀ y, y ≠ a → y ≠ b → y ≠ c → m' y = m0 y) : ∃ u1 u2 u3, m' = fun y => if y = a then u1 else if y = b then u2 else if y = c then u3 else m0 y := by
  refine ⟨m' a, m' b, m' c, funext fun y => ?_⟩
  by_cases h1 : y = a
  · simp [h1]
  · by_cases h2 : y = b
    · subst h2; simp [h1]
    · by_cases h3 : y = c
      · subst h3; simp [h1, h2]
      · simp [h1, h2, h3, h y h1 h2 h3]
theorem list_ne_tup {h₀ h : Heap} {L a b : Addr} {news : List (Addr × Obj)} {xs : Array Value} {n : Nat} {dt : Data} (N : News h₀ L h news) (h1 : (a, W.listOf xs n) ∈ news) (h2 : (b, ({ cls := .type "tuple", data := dt } : Obj)) ∈ news) : a ≠ b := by
  rintro rfl
  exact absurd (congrArg Obj.cls (news_fun N h1 h2)) (by simp [W.listOf])
section
local macro_rules | `(tactic| k_ne) => `(tactic| k_dflt ((try dsimp only); first | exact Mine.list_ne_tup (by k_asm) (by k_mem) (by k_mem) | exact Ne.symm (Mine.list_ne_tup (by k_asm) (by k_mem) (by k_mem))))
local macro_rules | `(tactic| k_mem) => `(tactic| with_reducible first | assumption | exact List.mem_cons_self | exact (List.mem_cons_of_mem _ List.mem_cons_self) | exact (List.mem_cons_of_mem _ (List.mem_cons_of_mem _ List.mem_cons_self)) | exact (List.mem_cons_of_mem _ (by assumption)) | exact (List.mem_cons_of_mem _ (List.mem_cons_of_mem _ (by assumption))) | exact (List.mem_cons_of_mem _ (List.mem_cons_of_mem _ (List.mem_cons_of_mem _ (by assumption)))))
local macro_rules | `(tactic| walk_at "exec While Compare cons nil") => `(tactic| (k_here; refine Mine.stop ?_))
local macro_rules | `(tactic| walk_at "call builtin:len") => `(tactic| (k_here; k_dflt (refine kun_lenL (by exact News.isList (by k_asm) (by k_mem)) (by assumption) (by omega) ?_)))
local macro_rules | `(tactic| walk_at "call builtin:list.pop") => `(tactic| (k_here; k_dflt (refine kl_pop (by k_asm) (by k_asm) (by assumption) (by k_upd) (by assumption) ?_); intro h' F' N'))
local macro_rules | `(tactic| walk_at "assign Tuple") => `(tactic| (k_here; k_dflt (refine unpackN_ (by k_asm) (by k_asm) (by (refine News.isTup (by k_asm) (by k_mem))) (by first | assumption | exact rfl) (by exact rfl) (by exact rfl) ?_); intro h' F' N'; (try k_sweep)))
variable {w : World} {A A₀ : Around} {base h₀ : Heap} {env : Env} {outer : List Env} {L : Addr} {p : Program} {loose : List Str} {mean : ExcName → Option Value} {mg mb m : Str → Option Value} {s : Shared} {news rest : List (Addr × Obj)} {R : Result → Shared → Prop}
variable {rl gl : Addr} {G : List (Int × Value)}

theorem C_shrunk {row : List Ent} {least : Int} {lt : Tok} (AM : Amb w A A₀ base h₀ env outer L p loose mean mg mb) (F : Fr h₀ L s.heap m) (N : News h₀ L s.heap news) (hd : A.depth + 20 < recursionLimit)
    (Rw : RowIn news rl row) (Tg : ToldIn news gl G) (hne : rl ≠ gl) (h0 : 0 ≤ least) (hlen : row.length + G.length ≤ 700)
    (h : ∀ h' tk news', Fr h₀ L h' m → News h₀ L h' news' → RowIn news' rl (row.take least.toNat) → ToldIn news' gl (G ++ (row.drop least.toNat).reverse.flatMap eTells) → Kept [rl, gl] news news' → R (.ok (.ret .none)) { s with heap := h', toks := tk }) :
    codeAny (model PySem.Challenge.rw_jh0006_01.row.prog w) A (.call (.ref 198) ⟨[.ref rl, .int least lt, .ref gl], []⟩) R s := by
  obtain ⟨B, X, T, hA, hf, hk, hh⟩ := AM
  have hDl : ∀ a ∈ [rl, gl], ∃ xs n, (a, W.listOf xs n) ∈ news := by
    intro a ha
    obtain ⟨⟨n, h1⟩, _⟩ := Rw
    obtain ⟨gs, gn, h2, _⟩ := Tg
    simp only [List.mem_cons, List.not_mem_nil, or_false] at ha
    rcases ha with rfl | rfl
    · exact ⟨_, _, h1⟩
    · exact ⟨_, _, h2⟩
  k_enter
  k_steps
  unfold Stop
  rename News _ _ _ _ => N1
  rename Fr _ _ _ _ => F1
  rename Below _ _ _ _ => B1
  rename Top _ _ _ _ _ _ => T1
  rename Frag.In _ _ => X1
  obtain ⟨m0, hm0, F1'⟩ : ∃ m0, m0 = _ ∧ Fr _ _ _ m0 := ⟨_, rfl, F1⟩
  clear F1
  refine While_inv2 (n₀ := row.length) (fun n m1 n1 => (∃ u1 u2 u3, m1 = fun y => if y = Str.ofString "key" then u1 else if y = Str.ofString "value" then u2 else if y = Str.ofString "tells" then u3 else m0 y) ∧ n ≤ row.length ∧ (n = row.length ∨ least ≤ n) ∧ RowIn n1 rl (row.take n) ∧ ToldIn n1 gl (G ++ (row.drop n).reverse.flatMap eTells) ∧ Kept [rl, gl] news n1) F1' N1 ⟨frm3 _ _ _ _ _ fun _ _ _ _ => rfl, Nat.le_refl _, .inl rfl, by simpa using Rw, by simpa using Tg, Kept.refl⟩ ?_ ?_
  · rintro n _ n1 h1 tk1 F2 N2 ⟨⟨u1, u2, u3, rfl⟩, hn, hn2, Rw2, Tg2, K2⟩
    subst hm0
    clear F1' N1
    obtain ⟨⟨rn, r1⟩, r2⟩ := id Rw2
    obtain ⟨gs, gn, g1, g2⟩ := id Tg2
    have hsz : ((eVals (row.take n)).toArray.size : Int) = (n : Int) := by simp [eVals]; omega
    have N3 : News _ _ h1 ((rl, W.listOf (eVals (row.take n)).toArray rn) :: (gl, W.listOf gs.toArray gn) :: offs [rl, gl] n1) := news_focus N2 [rl, gl] [_, _] (by
      intro p hp
      simp only [List.mem_cons, List.not_mem_nil, or_false] at hp
      rcases hp with rfl | rfl
      · exact r1
      · exact g1)
    have hr1 : ∀ p ∈ offs [rl, gl] n1, p.1 ≠ rl := offs_off (by simp)
    have hr2 : ∀ p ∈ offs [rl, gl] n1, p.1 ≠ gl := offs_off (by simp)
    have hr3 : ∀ p ∈ n1, p.1 ≠ rl → p.1 ≠ gl → p ∈ offs [rl, gl] n1 := fun p hp h1 h2 => mem_offs.mpr ⟨hp, by simpa using ⟨h1, h2⟩⟩
    have hr4 : Kept [rl, gl] news (offs [rl, gl] n1) := fun p hp hD => by
      have h1 := K2 p hp hD
      simp only [List.mem_cons, List.not_mem_nil, or_false, not_or] at hD
      exact hr3 p h1 hD.1 hD.2
    have hEn : ∀ e ∈ row.take n, (e.a, tuO [.int e.k e.tk, e.v, .bool e.t]) ∈ offs [rl, gl] n1 := by
      intro e he
      have hm : (e.a, tuO [.int e.k e.tk, e.v, .bool e.t]) ∈ n1 := r2 e he
      generalize e.a = a at hm ⊢
      refine hr3 _ hm ?_ ?_ <;> (rintro rfl)
      · exact absurd (congrArg Obj.cls (news_fun N2 hm r1)) (by simp [W.listOf])
      · exact absurd (congrArg Obj.cls (news_fun N2 hm g1)) (by simp [W.listOf])
    have hg2 : TIt (offs [rl, gl] n1) gs (G ++ (row.drop n).reverse.flatMap eTells) := g2.mono fun a vs hm => by
      refine hr3 _ hm ?_ ?_ <;> (rintro rfl)
      · exact absurd (congrArg Obj.cls (news_fun N2 hm r1)) (by simp [W.listOf])
      · exact absurd (congrArg Obj.cls (news_fun N2 hm g1)) (by simp [W.listOf])
    by_cases hc : least < (n : Int)
    · obtain ⟨n', rfl⟩ : ∃ n', n = n' + 1 := ⟨n - 1, by omega⟩
      have hlt : n' < row.length := by omega
      have e1 : row.take (n' + 1) = row.take n' ++ [row[n']] := List.take_succ_eq_append_getElem hlt
      have e2 : row.drop n' = row[n'] :: row.drop (n' + 1) := List.drop_eq_getElem_cons hlt
      have hE := hEn row[n'] (by rw [e1]; exact List.mem_append_right _ (List.mem_singleton.mpr rfl))
      have hEr : ∀ e ∈ row.take n', (e.a, tuO [.int e.k e.tk, e.v, .bool e.t]) ∈ offs [rl, gl] n1 := fun e he => hEn e (by rw [e1]; exact List.mem_append_left _ he)
      have hpop : kl_last (eVals (row.take (n' + 1))).toArray.toList = some (eVals (row.take n'), .ref row[n'].a) := by
        rw [e1]; unfold eVals; rw [List.map_append]; exact kpa_last _ _
      have hz : (eVals (row.take (n' + 1))).toArray.toList.length ≤ sizeLine := by
        rw [sizeLine_eq]; simp [eVals]; omega
      have hgl : gs.length ≤ 1000 := by
        have h1 := eTells_len (row.drop (n' + 1)).reverse
        rw [g2.length, List.length_append]
        rw [List.length_reverse, List.length_drop] at h1
        omega
      generalize row[n'] = e at *
      obtain ⟨k, tk, v, t, a⟩ := e
      dsimp only at hE
      clear N2 r1 r2 g1 Rw2 Tg2 hEn hr3 g2
      generalize eVals (row.take (n' + 1)) = vs at *
      generalize offs [rl, gl] n1 = rest at *
      dsimp only at hpop
      cases t
      · k_steps
        rename News _ _ _ _ => N5
        rename Fr _ _ _ _ => F5
        refine ⟨_, _, _, _, n', rfl, F5, N5, Nat.lt_succ_self _, frm3 _ _ _ _ _ fun y h1 h2 h3 => by simp [h1, h2, h3], by omega, by omega, ⟨⟨_, List.mem_cons_self⟩, fun e he => .tail _ (.tail _ (hEr e he))⟩, ⟨_, _, .tail _ (.head _), ?_⟩, fun p hp hD => .tail _ (.tail _ (hr4 p hp hD))⟩
        rw [e2, List.reverse_cons, List.flatMap_append, ← List.append_assoc]
        simpa [eTells] using hg2.mono fun a vs hm => .tail _ (.tail _ hm)
      · k_steps
        rename News _ _ _ _ => N5
        rename Fr _ _ _ _ => F5
        have N6 := N5
        rw [List.push_toArray] at N6
        refine ⟨_, _, _, _, n', rfl, F5, N6, Nat.lt_succ_self _, frm3 _ _ _ _ _ fun y h1 h2 h3 => by simp [h1, h2, h3], by omega, by omega, ⟨⟨_, .tail _ (.head _)⟩, fun e he => .tail _ (.tail _ (.tail _ (hEr e he)))⟩, ⟨_, _, .tail _ (.tail _ (.head _)), ?_⟩, fun p hp hD => .tail _ (.tail _ (.tail _ (hr4 p hp hD)))⟩
        rw [e2, List.reverse_cons, List.flatMap_append, ← List.append_assoc]
        show TIt _ _ (_ ++ [(k, v)])
        exact TIt.snoc (List.mem_cons_self) (hg2.mono fun a vs hm => List.mem_cons_of_mem _ (List.mem_cons_of_mem _ (List.mem_cons_of_mem _ hm)))
    · k_steps
      have e1 : row.take n = row.take least.toNat ∧ row.drop n = row.drop least.toNat := by
        rcases hn2 with rfl | hn2
        · rw [List.take_of_length_le (Nat.le_refl _), List.take_of_length_le (by omega), List.drop_of_length_le (Nat.le_refl _), List.drop_of_length_le (by omega)]
          exact ⟨rfl, rfl⟩
        · have : n = least.toNat := by omega
          rw [this]; exact ⟨rfl, rfl⟩
      rename News _ _ _ _ => N5
      rename Fr _ _ _ _ => F5
      rw [e1.1] at N5 hEn
      rw [e1.2] at hg2
      exact h _ _ _ F5 N5 ⟨⟨_, .head _⟩, fun e he => .tail _ (.tail _ (hEn e he))⟩ ⟨_, _, .tail _ (.head _), hg2.mono fun a vs hm => .tail _ (.tail _ hm)⟩ (fun p hp hD => .tail _ (.tail _ (hr4 p hp hD)))
  · with_unfolding_all passes_own
end
end Mine
end
theorem Mine.top_off_p19 : True := by
  w_top off
  try walk1
  trivial
section
namespace Mine
section
variable {w : World} {A A₀ : Around} {base h₀ : Heap} {env : Env} {outer : List Env} {L : Addr} {p : Program} {loose : List Str} {mean : ExcName → Option Value} {mg mb m : Str → Option Value} {s : Shared} {news rest : List (Addr × Obj)} {R : Result → Shared → Prop}
variable {rl gl : Addr} {G : List (Int × Value)}

theorem C_sizes {M : Int} {tm tc : Tok} {o : Option Int} (AM : Amb w A A₀ base h₀ env outer L p loose mean mg mb) (F : Fr h₀ L s.heap m) (N : News h₀ L s.heap news) (hd : A.depth + 20 < recursionLimit)
    (h : ∀ h' tk a t1 t2, (∀ p ∈ news, p.1 < a) → Fr h₀ L h' m → News h₀ L h' ((a, tuO [.int M t1, .int (afOf M o) t2]) :: news) → R (.ok (.ret (.ref a))) { s with heap := h', toks := tk }) :
    codeAny (model PySem.Challenge.rw_jh0006_01.row.prog w) A (.call (.ref 205) ⟨[.int M tm, lsV o tc], []⟩) R s := by
  obtain ⟨B, X, T, hA, hf, hk, hh⟩ := AM
  cases o with
  | none =>
    show codeAny _ _ (.call (.ref 205) ⟨[.int M tm, .none], []⟩) R s
    k_enter
    k_steps
    rename News _ _ _ _ => N5
    rename Fr _ _ _ _ => F5
    exact h _ _ _ _ _ (by assumption) F5 N5
  | some l =>
    show codeAny _ _ (.call (.ref 205) ⟨[.int M tm, .int l tc], []⟩) R s
    k_enter
    k_steps
    rename News _ _ _ _ => N5
    rename Fr _ _ _ _ => F5
    exact h _ _ _ _ _ (by assumption) F5 N5

end
end Mine
end
theorem Mine.top_off_p20 : True := by
  w_top off
  try walk1
  trivial
section
namespace Mine
theorem allLt_mem {d : Addr} {l : List (Addr × Obj)} (h : AllLt d l) : ∀ p ∈ l, p.1 < d := by
  induction l with
  | nil => intro p hp; exact absurd hp List.not_mem_nil
  | cons x r ih =>
    intro p hp
    rcases List.mem_cons.mp hp with e | hp
    · rw [e]; exact h.1
    · exact ih h.2 p hp
theorem unstop {P : Prop} (h : P) : Stop P := h
theorem paired_ints' {P : Int → Prop} : ∀ {vs ys : List Value}, Paired (fun _ y => ∃ r t, P r ∧ y = Value.int r t) vs ys → ∃ ns, IntsAre ys ns ∧ ∀ n ∈ ns, P n
  | _, _, .nil => ⟨[], .nil, fun _ h => nomatch h⟩
  | _, _, .cons ⟨r, t, hr, e⟩ h => by
    obtain ⟨ns, h1, h2⟩ := paired_ints' h
    subst e
    exact ⟨r :: ns, .cons _ _ h1, fun n hn => by rcases List.mem_cons.mp hn with rfl | hn; exact hr; exact h2 n hn⟩
section
variable {prog : Program} {w : World} {A : Around} {E : Value → Shared → Prop} {s : Shared} {h₀ : Heap} {L : Addr} {m : Str → Option Value} {env : Env}
theorem comp_L {elt iter : PySem.Expr} {x : Str} {px : Pos} {ifs : List PySem.Expr} {scope : Scope} {cl : List (Str × Addr)} {pos : Pos} {Q : Value → Shared → Prop} (pz : Value → Bool) (Fv : Value → Value → Prop)
    (_F₀ : Fr h₀ L s.heap m) (hh : A.handled = none) (hclos : closureFor scope env = pure cl) (hcell : ∀ y ∈ scope.names, y.2 ≠ .cell) (hkind : scope.kind = .function)
    (hnames : ∀ y ∈ scope.names, y.2 = .local → scope.names.lookup y.1 = some .local) (hx : scope.names.lookup x = some .local)
    (h : wpAny (model prog w) A (eval iter env) (fun xv s₁ => Stop (∃ (news : List (Addr × Obj)) (ax : Addr) (vs : List Value), xv = .ref ax ∧ s₁.heap.IsList ax vs.toArray ∧ vs.length ≤ sizeLine ∧ Fr h₀ L s₁.heap m ∧ News h₀ L s₁.heap news ∧
      (∀ C v s₂ m₂ E', v ∈ vs → s₂.heap.Ns (compEnvC scope cl C env).locals m₂ → m₂ x = some v → Fr h₀ L s₂.heap m → News h₀ L s₂.heap news →
        wpAny (model prog w) A (forIn ifs true fun c r => if r = true then do let ok ← isTrue c (compEnvC scope cl C env) (eval c (compEnvC scope cl C env)); pure (ForInStep.yield ok) else pure (ForInStep.yield r))
          (fun ok s₃ => Stop (ok = pz v ∧ Keeps s₂ s₃)) E' s₂) ∧
      (∀ C v s₂ m₂ E', v ∈ vs → pz v = true → s₂.heap.Ns (compEnvC scope cl C env).locals m₂ → m₂ x = some v → Fr h₀ L s₂.heap m → News h₀ L s₂.heap news →
        wpAny (model prog w) A (eval elt (compEnvC scope cl C env)) (fun y s₃ => Stop (Fv v y ∧ Keeps s₂ s₃)) E' s₂) ∧
      (∀ D (ys : List Value) n h' tk, Fr h₀ L h' m → News h₀ L h' ((D, W.listOf ys.toArray n) :: news) → (∀ q ∈ news, q.1 ≠ D) → Paired Fv (vs.filter pz) ys → Q (.ref D) { s₁ with heap := h', toks := tk }))) E s)
    (hs : ∀ x, foldedSetIterable iter env x = pure x := by intro _; rfl) :
    wpAny (model prog w) A (eval (.ListComp elt [⟨.Name x px, iter, ifs, 0⟩] scope pos) env) Q E s := by
  refine wpAny_ListComp_free pz Fv hclos hcell hkind hnames hx (wpAny_mono h (fun xv s₁ h₁ => ?_) fun _ _ e => e) hs
  obtain ⟨news, ax, vs, rfl, hl, hsz, F, N, htests, helt, hQ⟩ := h₁
  have hlt : ax < s₁.heap.objs.size := by obtain ⟨_, e, _⟩ := hl; exact Heap.lt_size e
  have up : ∀ (s₃ : Shared), (∀ b o, b ∉ [s₁.heap.objs.size] → (s₁.heap.push { cls := .type "list_iterator", data := .fields #[.ref ax, .int 0 0] }).get? b = some o → s₃.heap.get? b = some o) → ∀ b o, s₁.heap.get? b = some o → s₃.heap.get? b = some o :=
    fun s₃ hk b o e => hk b o (fun hm => by rcases List.mem_cons.mp hm with rfl | hm; exact Nat.lt_irrefl _ (Heap.lt_size e); cases hm) (Heap.get?_push_of_some _ e)
  refine wpAny_pyIter_list hl ⟨s₁.heap.objs.size, [s₁.heap.objs.size, ax], [s₁.heap.objs.size], vs.toArray.size, _, _, rfl, Walks.list hh _ _ (Nat.ne_of_lt hlt) vs.toArray, (by rw [List.size_toArray]; exact hsz), ⟨⟨_, Heap.get?_push_size _ rfl, rfl, rfl⟩, hl.push _⟩, ?_, ⟨?_, ?_⟩, ?_⟩
  · intro b hb
    show b < (s₁.heap.push _).objs.size
    rw [Heap.size_push]
    rcases List.mem_cons.mp hb with rfl | hb
    · exact Nat.lt_succ_self _
    · rcases List.mem_cons.mp hb with rfl | hb
      · exact Nat.lt_succ_of_lt hlt
      · cases hb
  · intro C i v s₃ m₃ E' _ hP hn hm hk _
    exact htests C v s₃ m₃ E' (by simpa using Array.mem_of_getElem? hP) hn hm (F.keeps (up s₃ hk)) (N.grown (up s₃ hk))
  · intro C i v s₃ m₃ E' _ hP hp hn hm hk _
    exact helt C v s₃ m₃ E' (by simpa using Array.mem_of_getElem? hP) hp hn hm (F.keeps (up s₃ hk)) (N.grown (up s₃ hk))
  · intro D h' tk ys vs' hnew hlD hplD hlen hP hF hk
    have e : vs' = vs := by simpa using list_of_places hlen hP
    subst e
    have keep : ∀ b o, s₁.heap.get? b = some o → h'.get? b = some o := up { s₁ with heap := h' } hk
    obtain ⟨n, hpl⟩ := hplD
    have hD : s₁.heap.get? D = none := by
      cases e : s₁.heap.get? D with
      | none => rfl
      | some o' => rw [Heap.get?_push_of_some _ e] at hnew; cases hnew
    refine hQ D ys.toList n h' tk (F.keeps keep) ?_ (fun q hq e => ?_) hF
    · intro q hq
      rcases List.mem_cons.mp hq with rfl | hq
      · refine ⟨by rw [Array.toArray_toList]; exact hpl, ?_, ?_⟩
        · rintro rfl
          obtain ⟨o, _, _, e, _⟩ := F.ns
          rw [hD] at e; cases e
        · cases e : h₀.get? D with
          | none => rfl
          | some o' => rw [F.keep _ _ e] at hD; cases hD
      · exact (N.grown keep) q hq
    · rw [← e, (N q hq).1] at hD; cases hD
end
section
local macro_rules | `(tactic| walk_at "eval ListComp") => `(tactic| (k_here; refine Mine.stop ?_))
local macro_rules | `(tactic| walk_at "call builtin:sum") => `(tactic| (k_here; k_dflt (refine PyProof.Rows.LSm.sum_ints (by k_asm) (by k_asm) (by first | assumption | exact rfl) (by exact News.isList (by k_asm) (by k_mem)) (by assumption) ?_); intro h' tk' t' F' N'; (try dsimp only)))
local macro_rules | `(tactic| k_mem) => `(tactic| with_reducible first | assumption | exact List.mem_cons_self)
variable {w : World} {A A₀ : Around} {base h₀ : Heap} {env : Env} {outer : List Env} {L : Addr} {p : Program} {loose : List Str} {mean : ExcName → Option Value} {mg mb m : Str → Option Value} {s : Shared} {news rest : List (Addr × Obj)} {R : Result → Shared → Prop}

theorem C_state {scr : Addr} {vs : List Value} {xs : List Int} (AM : Amb w A A₀ base h₀ env outer L p loose mean mg mb) (F : Fr h₀ L s.heap m) (N : News h₀ L s.heap news) (hd : A.depth + 20 < recursionLimit)
    (hl : h₀.IsList scr vs.toArray) (hi : IntsAre vs xs) (hlen : xs.length ≤ 63)
    (h : ∀ h' tk st sl us ys z tz t0 n1 n2, IntsAre us ys → ys.length ≤ 60 → 0 ≤ z → z < 997 → (∀ q ∈ news, q.1 ≠ st) → Fr h₀ L h' m → News h₀ L h' ((st, W.listOf #[.ref sl, .int 0 t0, .int z tz] n1) :: (sl, W.listOf us.toArray n2) :: news) → R (.ok (.ret (.ref st))) { s with heap := h', toks := tk }) :
    codeAny (model PySem.Challenge.rw_jh0006_01.row.prog w) A (.call (.ref 191) ⟨[.ref scr], []⟩) R s := by
  have fm : ∀ a b : Int, 0 < b → 0 ≤ a.fmod b ∧ a.fmod b < b := fun a b hb => ⟨Int.fmod_nonneg_of_pos a hb, Int.fmod_lt_of_pos a hb⟩
  obtain ⟨B, X, T, hA, hf, hk, hh⟩ := AM
  k_enter
  rename Fr h₀ _ _ _ => FG
  have hlg := hl.at fun o e => FG.keep scr o e
  k_steps
  refine unstop ?_
  rename Fr _ _ _ _ => F1
  rename News _ _ _ _ => N1
  refine comp_L (cl := []) (fun _ => true) (fun v y => ∃ r t, (0 ≤ r ∧ r < 997) ∧ y = Value.int r t) F1 hh rfl (by decide) rfl (by decide) rfl ?_
  k_steps
  refine unstop ?_
  refine ⟨_, scr, vs, rfl, hl.at fun o e => F1.keep scr o (FG.keep scr o e), by rw [sizeLine_eq]; rw [hi.length]; omega, F1, N1, ?_, ?_, ?_⟩
  · intro C v s₂ m₂ E' hv hn hm F2 N2
    exact wpAny_tests_nil ⟨rfl, _, _, rfl, fun _ _ e => e⟩
  · intro C v s₂ m₂ E' hv _ hn hm F2 N2
    obtain ⟨a, t, rfl⟩ : ∃ a t, v = .int a t := hi.allInts v (by simpa using hv)
    clear F1 N1
    k_steps
    exact unstop ⟨⟨_, _, fm _ _ (by decide), rfl⟩, _, _, rfl, fun _ _ e => e⟩
  · intro D ys n h' tk F2 N2 hD hP
    obtain ⟨ns, hI, hns⟩ := paired_ints' hP
    dsimp only
    clear F1 N1
    k_steps
    rename Fr _ _ _ _ => F5
    rename News _ _ _ _ => N5
    rename IntsAre _ (List.take _ _) => hI1
    refine h _ _ _ _ _ _ _ _ _ _ _ hI1 ?a ?b ?c ?d F5 (news_sub N5 (List.forall_mem_cons.mpr ⟨List.mem_cons_self, List.forall_mem_cons.mpr ⟨List.mem_cons_of_mem _ (List.mem_cons_of_mem _ List.mem_cons_self), fun p hp => List.mem_cons_of_mem _ (List.mem_cons_of_mem _ (List.mem_cons_of_mem _ hp))⟩⟩))
    case a => rw [List.length_take]; omega
    case b => exact (fm _ _ (by decide)).1
    case c => exact (fm _ _ (by decide)).2
    case d =>
      rename _ ∧ _ ∧ AllLt _ _ => hl1
      exact fun q hq => Nat.ne_of_lt (allLt_mem hl1.2.2 q hq)
end
end Mine
end
section
namespace Mine
open PySem.SeqAt PySem.MeetsSeq
open AutoSeq1 (wpAny_loadPart')
theorem removeAt_loop (l : Addr) (items : Array Value) (n : Nat) (x : Value) (e : Value → Bool) (j : Nat) (hj : j < items.size) (hit : e items[j] = true) (k : Nat) (hs1 : items.size ≤ sizeLine) :
    ∀ i : Nat, j - i = k → i ≤ j → (∀ m (hm : m < items.size), i ≤ m → m < j → e items[m] = false) → Meets (Builtin.«list.remove.loop» ⟨[.ref l, x, rawInt i], []⟩)
      (fun A R s => s.heap.get? l = some { cls := .type "list", dict := none, data := .seq items n, slots := #[] } ∧ (∀ y, y ∈ items → EqAt A.in1 s y x (e y)) ∧ R (.ok (.ret .none)) { s with heap := s.heap.update l (Obj.mapSeq fun xs => xs.eraseIdxIfInBounds j) }) := by
  induction k with
  | zero =>
    intro i hk hij hno prog w A R s h
    obtain ⟨hp, g, d, tk, os⟩ := s; obtain ⟨hl, he, h⟩ := h
    have hij' : i = j := by omega
    subst hij'
    wp_walk using wpAny_loadPart' hl
    have hi : items[((i : Nat) : Int).toNat]? = some items[i] := by simp [hj]
    rw [hi]
    refine wpAny_bind (he _ (Array.getElem_mem hj) prog w _ _ ?_)
    rw [hit]
    have hz' : (items.eraseIdxIfInBounds i).size ≤ sizeLine + 1 := Nat.le_trans (size_erased items _) (Nat.le_succ_of_le hs1)
    wp_walk using (wpAny_updateSeq hl rfl (hz := hs1) (_hz' := hz')), wpAny_loadPart' hl
    simpa using h
  | succ k ih =>
    intro i hk hij hno prog w A R s h
    obtain ⟨hp, g, d, tk, os⟩ := s; obtain ⟨hl, he, h⟩ := h
    have hlt : i < items.size := by omega
    wp_walk using wpAny_loadPart' hl
    have hi : items[((i : Nat) : Int).toNat]? = some items[i] := by simp [hlt]
    have hc : ((i : Int) + 1) = ((i + 1 : Nat) : Int) := by push_cast; rfl
    rw [hi]
    refine wpAny_bind (he _ (Array.getElem_mem hlt) prog w _ _ ?_)
    rw [hno i hlt (Nat.le_refl _) (by omega)]
    wp_walk
    rw [hc]
    exact ⟨plainId_quiet plain_remove_loop _, codeAny_builtin entry_remove_loop (by
      rw [Around.under_plainId plain_remove_loop _]
      exact ih (i + 1) (by omega) (by omega) (fun m hm h1 h2 => hno m hm (by omega) h2) prog w A R _ ⟨hl, he, h⟩)⟩

theorem list_removeAt (l : Addr) (items : Array Value) (n : Nat) (x : Value) (e : Value → Bool) (j : Nat) (hj : j < items.size)
    (hit : e items[j] = true) (hno : ∀ m (hm : m < items.size), m < j → e items[m] = false) (hs1 : items.size ≤ sizeLine) :
    Meets (Builtin.«list.remove» ⟨[.ref l, x], []⟩)
      (fun A R s => s.heap.get? l = some { cls := .type "list", dict := none, data := .seq items n, slots := #[] } ∧ (∀ y, y ∈ items → EqAt A.in1 s y x (e y)) ∧ R (.ok (.ret .none)) { s with heap := s.heap.update l (Obj.mapSeq fun xs => xs.eraseIdxIfInBounds j) }) := by
  intro prog w A R s h
  obtain ⟨hp, g, d, tk, os⟩ := s; obtain ⟨hl, he, h⟩ := h
  wp_walk using wpAny_loadPart' hl
  exact ⟨plainId_quiet plain_remove_loop _, codeAny_builtin entry_remove_loop (by
    rw [Around.under_plainId plain_remove_loop _]
    exact removeAt_loop l items n x e j hj hit _ hs1 0 rfl (Nat.zero_le _) (fun m hm _ h2 => hno m hm h2) prog w A R _ ⟨hl, he, h⟩)⟩
section
variable {prog : Program} {w : World} {A : Around} {E : Value → Shared → Prop} {s : Shared} {h₀ : Heap} {L D : Addr} {m : Str → Option Value} {news news' : List (Addr × Obj)} {n : Nat}
theorem kr_remove {p q : List Value} {x v : Value} {Q : Value → Shared → Prop} (e : Value → Bool) (F : Fr h₀ L s.heap m) (N : News h₀ L s.heap news)
    (he : ∀ y ∈ p ++ v :: q, EqAt A.in1 s y x (e y)) (hit : e v = true) (hno : ∀ y ∈ p, e y = false) (hz : (p ++ v :: q).length ≤ sizeLine) (U : Upd D (W.listOf (p ++ v :: q).toArray n) (W.listOf (p ++ q).toArray (n + 1)) news news')
    (h : ∀ h', Fr h₀ L h' m → News h₀ L h' news' → Q .none { s with heap := h' }) : wpAny (model prog w) A (call (.builtin "list.remove") [.ref D, x]) Q E s := by
  obtain ⟨pre, post, rfl, rfl, a', b'⟩ := U.split
  have z := N (D, W.listOf (p ++ v :: q).toArray n) (List.mem_append.mpr (.inr (.head _)))
  refine call_meets PySem.F.slot_list_remove ⟨_, z.1, rfl⟩ PySem.F.entry_list_remove (PySem.F.args_list_remove_2 _ _)
    (list_removeAt D (p ++ v :: q).toArray n x e p.length (by simp) (by simpa using hit) (fun i hi hlt => ?_) (by simpa using hz))
    ⟨z.1, fun y hy => ?_, h _ (F.change (Heap.SameBut.update ..) z.2.1 z.2.2) (ki_turn _ N a' b' ?_ ?_)⟩
  · simp only [List.getElem_toArray]
    rw [List.getElem_append_left hlt]
    exact hno _ (List.getElem_mem hlt)
  · exact he y (by simpa using hy)
  · exact PySem.W.kl_erase p q v
  · rw [List.size_toArray, List.size_toArray, List.length_append, List.length_append, List.length_cons]
    rw [if_neg (by simp)]
end
open MeetsSeq2 MeetsSeq3 SeqRoads2
theorem tuple_neAt (l b : Addr) (y0 x0 : Value) (ys xs : List Value) (n n2 : Nat) (dd dd2 : Option Addr) (sl sl2 : Array (Option Value)) :
    Meets (Builtin.«tuple.__eq__» ⟨[.ref l, .ref b], []⟩)
      (fun A R s => s.heap.get? l = some { cls := .type "tuple", dict := dd, data := .seq (y0 :: ys).toArray n, slots := sl } ∧ s.heap.get? b = some { cls := .type "tuple", dict := dd2, data := .seq (x0 :: xs).toArray n2, slots := sl2 } ∧
        EqAt A.in1 s y0 x0 false ∧ R (.ok (.ret (.bool false))) s) :=
  .of_wp fun prog w A R s h => by
    obtain ⟨hp, g, d, tk, os⟩ := s; obtain ⟨hl, hb, he, h⟩ := h
    have f2 := AutoSeq1.sub_tuple_tuple
    wp_walk using wpAny_loadPart' hl, wpAny_loadPart' hb, wpAny_forIn_list _ (fun rest b s' => b.1 = none ∧ s' = ⟨hp, g, d, tk, os⟩ ∧ rest = (y0 :: ys).zip (x0 :: xs) ∧
      R (.ok (.ret (.bool false))) ⟨hp, g, d, tk, os⟩) _
    case turn =>
      rintro ⟨y, x⟩ rest b s' ⟨hb', rfl, hz, hR⟩
      rw [List.zip_cons_cons] at hz
      injection hz with hyx hrest
      injection hyx with hy hx
      subst hy hx
      refine wpAny_bind (he prog w _ _ ?_)
      wp_walk
      exact ⟨_, rfl, by simpa using hR⟩
    case fin =>
      rintro ⟨b1, b2⟩ s' ⟨hb', rfl, hz, hR⟩
      rw [List.zip_cons_cons] at hz
      cases hz
    case h =>
      exact ⟨rfl, rfl, rfl, h⟩
section
variable {A : Around} {s : Shared}
theorem RcAt.tuples_ne {l b : Addr} {y0 x0 : Value} {ys xs : List Value} (hl : s.heap.IsTuple l (y0 :: ys).toArray) (hb : s.heap.IsTuple b (x0 :: xs).toArray) (hu : A.units < cLine)
    (he : EqAt A.in1 s y0 x0 false) : RcAt A s (.ref l) (.ref b) false := fun prog w E Q h => by
  obtain ⟨⟨cls, dd, data, sl⟩, ho, hc, n, hd⟩ := id hl
  obtain ⟨⟨cls2, dd2, data2, sl2⟩, ho2, hc2, n2, hd2⟩ := id hb
  simp only at hc hd hc2 hd2
  subst hc hd hc2 hd2
  exact richCompare_meets_room (op := .Eq) ⟨_, ho, rfl⟩ ⟨_, ho2, rfl⟩ F.slot_tuple_eq F.entry_tuple_eq (F.args_tuple_eq_2 _ _) (tuple_neAt l b y0 x0 ys xs n n2 dd dd2 sl sl2)
    ⟨ho, ho2, he, show Value.bool false ≠ Value.notImplemented ∧ Q (.bool false) s from ⟨(fun x => nomatch x), h⟩⟩ hu
/-- an entry against another: the same one, or one of another key -/
theorem ent_eq {news : List (Addr × Obj)} {h₀ : Heap} {L : Addr} {a b : Addr} {k k' : Int} {t t' : Tok} {ys xs : List Value} (N : News h₀ L s.heap news) (h1 : (a, tuO (.int k t :: ys)) ∈ news) (h2 : (b, tuO (.int k' t' :: xs)) ∈ news) (hk : k ≠ k') (hu : A.units < cLine) :
    EqAt A s (.ref a) (.ref b) false := by
  have hab : a ≠ b := by
    rintro rfl
    have e := congrArg Obj.data (news_fun N h1 h2)
    have e2 : (Value.int k t :: ys) = (Value.int k' t' :: xs) := congrArg (fun d => match d with | .seq xs _ => xs.toList | _ => []) e
    injection e2 with e3 _
    injection e3 with e4
    exact hk e4
  refine EqAt.of_refs hab (RcAt.tuples_ne ⟨_, (N _ h1).1, rfl, _, rfl⟩ ⟨_, (N _ h2).1, rfl, _, rfl⟩ hu ?_)
  have := EqAt.int_int (A := A.in1) (s := s) k t k' t'
  rwa [show (k == k') = false by simpa using hk] at this
end
end Mine
end
theorem Mine.top_off_p22 : True := by
  w_top off
  try walk1
  trivial
section
namespace Mine
section
local macro_rules | `(tactic| walk_at "eval ListComp") => `(tactic| (k_here; refine Mine.stop ?_))
local macro_rules | `(tactic| k_mem) => `(tactic| with_reducible first | assumption | exact List.mem_cons_self | exact List.mem_cons_of_mem _ (by assumption) | exact List.mem_cons_of_mem _ List.mem_cons_self | exact List.mem_cons_of_mem _ (List.mem_cons_of_mem _ (by assumption)) | exact List.mem_cons_of_mem _ (List.mem_cons_of_mem _ (List.mem_cons_of_mem _ (by assumption))))
local macro_rules | `(tactic| walk_at "subscriptTail") => `(tactic| (k_here; k_dflt (refine item_litK (by exact News.isList (by k_asm) (by k_mem)) (by decide) (by decide) (by exact rfl) ?_)))
local macro_rules | `(tactic| walk_at "subscriptTail") => `(tactic| (k_here; k_dflt (refine item_tupleT (by exact News.isTup (by k_asm) (by k_mem)) (by decide) (by decide) (by exact rfl) (by exact rfl) ?_)))
local macro_rules | `(tactic| walk_at "call builtin:list.remove") => `(tactic| (k_here; refine Mine.stop ?_))
local macro_rules | `(tactic| walk_at "call builtin:list.insert") => `(tactic| (k_here; refine Mine.stop ?_))
local macro_rules | `(tactic| k_ne) => `(tactic| k_dflt ((try dsimp only); first | exact Mine.list_ne_tup (by k_asm) (by k_mem) (by k_mem) | exact Ne.symm (Mine.list_ne_tup (by k_asm) (by k_mem) (by k_mem))))
local macro_rules | `(tactic| k_ne) => `(tactic| with_reducible (first | assumption | exact Ne.symm (by assumption)))
variable {w : World} {A A₀ : Around} {base h₀ : Heap} {env : Env} {outer : List Env} {L : Addr} {p : Program} {loose : List Str} {mean : ExcName → Option Value} {mg mb m : Str → Option Value} {s : Shared} {news rest : List (Addr × Obj)} {R : Result → Shared → Prop}
variable {rl gl : Addr} {G : List (Int × Value)}
theorem C_front {l1 l2 : List Ent} {e : Ent} {kt : Tok} (AM : Amb w A A₀ base h₀ env outer L p loose mean mg mb) (F : Fr h₀ L s.heap m) (N : News h₀ L s.heap news) (hd : A.depth + 20 < recursionLimit) (hu : A.units + 50 < cLine)
    (Rw : RowIn news rl (l1 ++ e :: l2)) (hlen : (l1 ++ e :: l2).length ≤ 700) (hne : ∀ x ∈ l1 ++ l2, x.k ≠ e.k)
    (h : ∀ h' tk news', Fr h₀ L h' m → News h₀ L h' news' → RowIn news' rl (e :: (l1 ++ l2)) → Kept [rl] news news' → R (.ok (.ret e.v)) { s with heap := h', toks := tk }) :
    codeAny (model PySem.Challenge.rw_jh0006_01.row.prog w) A (.call (.ref 210) ⟨[.ref rl, .int e.k kt], []⟩) R s := by
  obtain ⟨B, X, T, hA, hf, hk, hh⟩ := AM
  obtain ⟨⟨rn, r1⟩, r2⟩ := id Rw
  have e0 : eVals (l1 ++ e :: l2) = eVals l1 ++ .ref e.a :: eVals l2 := by simp [eVals]
  rw [e0] at r1
  have N0 : News h₀ L s.heap ((rl, W.listOf (eVals l1 ++ .ref e.a :: eVals l2).toArray rn) :: offs [rl] news) := news_focus N [rl] [_] (by simpa using r1)
  have hr1 : ∀ p ∈ offs [rl] news, p.1 ≠ rl := offs_off (by simp)
  have hEn : ∀ x ∈ l1 ++ e :: l2, (x.a, tuO [.int x.k x.tk, x.v, .bool x.t]) ∈ offs [rl] news := by
    intro x hx
    have hm : (x.a, tuO [.int x.k x.tk, x.v, .bool x.t]) ∈ news := r2 x hx
    refine mem_offs.mpr ⟨hm, ?_⟩
    simp only [List.mem_singleton]
    intro q
    rw [q] at hm
    exact absurd (congrArg Obj.cls (news_fun N hm r1)) (by simp [W.listOf])
  have hK : Kept [rl] news (offs [rl] news) := fun p hp hD => mem_offs.mpr ⟨hp, hD⟩
  have hEe := hEn e (by simp)
  have hu1 : A.units + 50 < cLine := hu
  have hz0 : (eVals l1 ++ Value.ref e.a :: eVals l2).length ≤ sizeLine := by rw [← e0, sizeLine_eq]; simp only [eVals, List.length_map]; omega
  have hz1 : (eVals l1 ++ eVals l2).toArray.toList.length ≤ sizeLine := by
    refine Nat.le_trans ?_ hz0
    simp
  have hfl : ∀ {ys : List Value}, Paired (fun v y => y = v) ((eVals l1 ++ .ref e.a :: eVals l2).filter (fun v => decide (∃ x ∈ l1 ++ e :: l2, v = .ref x.a ∧ x.k = e.k))) ys → ∃ yr, ys = .ref e.a :: yr := by
    intro ys hP
    have f1 : (eVals l1).filter (fun v => decide (∃ x ∈ l1 ++ e :: l2, v = .ref x.a ∧ x.k = e.k)) = [] := by
      refine List.filter_eq_nil_iff.mpr fun v hv => ?_
      obtain ⟨y, hy, rfl⟩ := List.mem_map.mp hv
      simp only [decide_eq_true_eq]
      rintro ⟨x, hx, q, hk⟩
      injection q with q
      have hy' := hEn y (List.mem_append_left _ hy)
      have hx' := hEn x hx
      rw [q] at hy'
      have e1 : (Value.int y.k y.tk :: [y.v, Value.bool y.t]) = (Value.int x.k x.tk :: [x.v, Value.bool x.t]) := congrArg (fun o => match o.data with | .seq xs _ => xs.toList | _ => []) (news_fun (news_sub N fun p hp => (mem_offs.mp hp).1) hy' hx')
      injection e1 with e2 _
      injection e2 with e3
      exact hne y (List.mem_append_left _ hy) (e3.trans hk)
    rw [List.filter_append, f1, List.nil_append, List.filter_cons_of_pos (by simp only [decide_eq_true_eq]; exact ⟨e, by simp, rfl, rfl⟩)] at hP
    cases hP with
    | cons h1 h2 => exact ⟨_, by rw [h1]⟩
  clear N r1 r2 Rw
  generalize offs [rl] news = rest at *
  (refine' code_defC ?k1 ?k2 ?k3 ?k4 ?k5 ?kA ?kF ?kK ?k6 ?k7 ?k8 ?k9 ?kB ?kD ?_ ?c2 ?c3 ?c4; (case kA => first | assumption | exact Around.frames_deeper (by assumption) | exact rfl); (case kF => first | assumption | exact rfl); (case kK => first | assumption | exact rfl); (case k1 => k_asm); (case k2 => k_asm); (case k3 => k_asm); (case k4 => k_asm); (case k5 => k_asm); (case k6 => k_is); (case k7 => k_is); (case k8 => k_room); (case k9 => first | exact BindsTo.of_eq rfl | exact binds_K (by k_in) rfl (by k_is) rfl rfl rfl | fail "k_enter: no rule for these arguments"); (case kB => exact rfl); (case kD => decide +kernel); (case c2 => exact rfl); (case c3 => exact rfl); (case c4 => exact rfl); k_whole; intro zg zL zh ztk zcells zFG zF zN zY zB zX zT zl1; (try k_lt zl1); k_cells zY; (try simp only [List.cons_append, List.nil_append] at zN); (try dsimp only); (try k_fold))
  k_steps
  refine unstop ?_
  rename Fr _ _ _ _ => F1
  rename News _ _ _ _ => N1
  refine comp_L (cl := [(Str.ofString "key", _)]) (fun v => decide (∃ x ∈ l1 ++ e :: l2, v = .ref x.a ∧ x.k = e.k)) (fun v y => y = v) F1 hh rfl (by decide) rfl (by decide) rfl ?_
  k_steps
  refine unstop ⟨_, rl, eVals l1 ++ .ref e.a :: eVals l2, rfl, ?_, hz0, F1, N1, ?_, ?_, ?_⟩
  · exact News.isList N1 (.tail _ (.head _))
  · intro C v s₂ m₂ E' hv hn hm F2 N2
    refine wpAny_tests_one ?_
    clear F1 N1
    obtain ⟨x, hx, rfl⟩ : ∃ x ∈ l1 ++ e :: l2, v = .ref x.a := by
      rw [← e0] at hv
      obtain ⟨x, hx, rfl⟩ := List.mem_map.mp hv
      exact ⟨x, hx, rfl⟩
    have hE := hEn x hx
    k_steps
    refine unstop ⟨?_, _, _, rfl, fun _ _ e => e⟩
    rw [Bool.eq_iff_iff]
    simp only [beq_iff_eq, decide_eq_true_eq]
    constructor
    · exact fun q => ⟨x, hx, rfl, q⟩
    · rintro ⟨y, hy, q, hk⟩
      injection q with q
      have hy' := hEn y hy
      rw [← q] at hy'
      have e1 : (Value.int x.k x.tk :: [x.v, Value.bool x.t]) = (Value.int y.k y.tk :: [y.v, Value.bool y.t]) := congrArg (fun o => match o.data with | .seq xs _ => xs.toList | _ => []) (news_fun N2 (.tail _ (.tail _ hE)) (.tail _ (.tail _ hy')))
      injection e1 with e2 _
      injection e2 with e3
      exact e3.trans hk
  · intro C v s₂ m₂ E' hv _ hn hm F2 N2
    clear F1 N1
    k_steps
    exact unstop ⟨rfl, _, _, rfl, fun _ _ e => e⟩
  · intro D ys n h' tk F2 N2 hD hP
    obtain ⟨yr, rfl⟩ := hfl hP
    have hDr : rl ≠ D := hD _ (.tail _ (.head _))
    rename _ < _ ∧ AllLt _ _ => hl1
    have hlc := Nat.ne_of_lt (Nat.lt_succ_of_lt hl1.1)
    clear F1 N1 hP
    dsimp only
    k_steps
    refine unstop ?_
    rename Fr _ _ _ _ => F3
    rename News _ _ _ _ => N3
    refine kr_remove (p := eVals l1) (q := eVals l2) (v := .ref e.a) (fun y => decide (y = .ref e.a)) F3 N3 ?he (by simp) ?hno hz0 (by k_upd) fun h5 F5 N5 => ?_
    case he =>
      intro y hy
      obtain ⟨x, hx, rfl⟩ : ∃ x ∈ l1 ++ e :: l2, y = .ref x.a := by
        rw [← e0] at hy
        obtain ⟨x, hx, rfl⟩ := List.mem_map.mp hy
        exact ⟨x, hx, rfl⟩
      by_cases hxe : x.a = e.a
      · rw [hxe]
        simpa using PySem.SeqAt.EqAt.same (.ref e.a)
      · have hxk : x.k ≠ e.k := by
          rcases List.mem_append.mp hx with q | q
          · exact hne x (List.mem_append_left _ q)
          · rcases List.mem_cons.mp q with q | q
            · exact absurd (by rw [q]) hxe
            · exact hne x (List.mem_append_right _ q)
        rw [show decide (Value.ref x.a = Value.ref e.a) = false by simpa using hxe]
        exact ent_eq N3 (List.mem_cons_of_mem _ (List.mem_cons_of_mem _ (List.mem_cons_of_mem _ (hEn x hx)))) (List.mem_cons_of_mem _ (List.mem_cons_of_mem _ (List.mem_cons_of_mem _ hEe))) hxk (by k_units)
    case hno =>
      intro y hy
      obtain ⟨x, hx, rfl⟩ := List.mem_map.mp hy
      have hxe : x.a ≠ e.a := by
        intro q
        have hx' := hEn x (List.mem_append_left _ hx)
        rw [q] at hx'
        have e1 : (Value.int x.k x.tk :: [x.v, Value.bool x.t]) = (Value.int e.k e.tk :: [e.v, Value.bool e.t]) := congrArg (fun o => match o.data with | .seq xs _ => xs.toList | _ => []) (news_fun N3 (.tail _ (.tail _ (.tail _ hx'))) (.tail _ (.tail _ (.tail _ hEe))))
        injection e1 with e2 _
        injection e2 with e3
        exact hne x (List.mem_append_left _ hx) e3
      simpa using hxe
    clear F3 N3
    dsimp only
    k_steps
    refine unstop ?_
    rename Fr _ _ _ _ => F3
    rename News _ _ _ _ => N3
    refine kl_insert (l := .ref e.a :: (eVals l1 ++ eVals l2)) (its := (eVals l1 ++ eVals l2).toArray) F3 N3 (by decide) (by simp [kl_ins]) (by k_upd) hz1 fun h6 F6 N6 => ?_
    clear F3 N3
    dsimp only
    k_steps
    rename Fr _ _ _ _ => F7
    rename News _ _ _ _ => N7
    refine h _ _ ((rl, W.listOf (eVals (e :: (l1 ++ l2))).toArray (rn + 1 + 1)) :: rest) F7 (news_sub N7 ?_) ⟨⟨_, .head _⟩, fun x hx => .tail _ (hEn x ?_)⟩ fun p hp hD => .tail _ (hK p hp hD)
    · rw [show eVals (e :: (l1 ++ l2)) = Value.ref e.a :: (eVals l1 ++ eVals l2) by simp [eVals]]
      exact fun p hp => .tail _ (.tail _ hp)
    · rcases List.mem_cons.mp hx with q | q
      · rw [q]; simp
      · rcases List.mem_append.mp q with q | q
        · exact List.mem_append_left _ q
        · exact List.mem_append_right _ (.tail _ q)
end
end Mine
end
section
namespace Mine
def IsIt (c : Value) : Prop := c = .type "range_iterator" ∨ c = .type "list_iterator"
def NoFld (p : Addr × Obj) : Prop := ¬ IsIt p.2.cls
def Grow (I : Addr) (a b : List (Addr × Obj)) : Prop := ∀ p ∈ a, (p.1 ≠ I ∨ NoFld p) → p ∈ b
def TurnEnd (h₀ : Heap) (L : Addr) (own : List (Addr × Obj)) (Jn : (Str → Option Value) → List (Addr × Obj) → Prop) (s₁ : Shared) (Q : Flow → Shared → Prop) (f : Flow) (s₂ : Shared) : Prop :=
  match f with
  | .ret v => Q (.ret v) s₂
  | .brk => Q .next s₂
  | _ => ∃ h' tk m' nw', s₂ = { s₁ with heap := h', toks := tk } ∧ Fr h₀ L h' m' ∧ News h₀ L h' nw' ∧ (∀ p ∈ own, p ∈ nw') ∧ Jn m' nw'
section
variable {prog : Program} {w : World} {A : Around} {E : Value → Shared → Prop} {s : Shared} {env : Env} {h₀ : Heap} {x : Str} {body : List Stmt} {Q : Flow → Shared → Prop}
theorem loop_mine {I : Addr} {fp : List Addr} {n : Nat} {P : Nat → Value → Prop} {St : Nat → Heap → Prop} {m₀ : Str → Option Value} {news : List (Addr × Obj)} (J : Nat → (Str → Option Value) → List (Addr × Obj) → Prop)
    (W : Walks prog w A I fp [I] n P St) (hLf : env.locals ∉ fp) (hI0 : h₀.get? I = none) (hnI : ∀ p ∈ news, p.1 ≠ I) (hIfp : I ∈ fp)
    (hI : ∀ i h, St i h → ∃ o xs, h.get? I = some o ∧ o.data = .fields xs ∧ IsIt o.cls)
    (hst : St 0 s.heap) (F : Fr h₀ env.locals s.heap m₀) (N : News h₀ env.locals s.heap news) (h0 : J 0 m₀ news)
    (hmono : ∀ i m a b, Grow I a b → J i m a → J i m b)
    (turn : ∀ i v m₁ nw own h tk, i < n → P i v → J i m₁ nw → (∀ p ∈ own, p ∈ nw ∧ p.1 ∈ fp) → (∃ o xs, (I, o) ∈ own ∧ o.data = .fields xs ∧ IsIt o.cls) → Fr h₀ env.locals h (fun y => if y = x then some v else m₁ y) → News h₀ env.locals h nw →
      wpAny (model prog w) A (execs body env) (TurnEnd h₀ env.locals own (J (i + 1)) { s with heap := h, toks := tk } Q) E { s with heap := h, toks := tk })
    (done : ∀ m₁ nx h tk, J n m₁ nx → Fr h₀ env.locals h m₁ → News h₀ env.locals h nx → Q .next { s with heap := h, toks := tk }) :
    LoopAtV prog w A h₀ env x body Q E (.ref I) s := by
  refine ⟨I, fp, [I], n, P, St, m₀, news, J, rfl, W, hLf, fun b hb => by rw [List.mem_singleton.mp hb]; exact hI0, fun p hp hq => hnI p hp (List.mem_singleton.mp hq), hst, F, N, h0, ?_, ?_⟩
  · rintro i v m₁ news₁ s₁ own ⟨hh', tk', rfl⟩ hin hP hJ hoff hown howng hall hst' F₁ N₁
    obtain ⟨oI, xs, hoI, hxs, hci⟩ := hI _ _ hst'
    have hIown : (I, oI) ∈ own := hall I hIfp hI0 _ hoI
    refine wpAny_mono (turn i v m₁ (own ++ news₁) own hh' tk' hin hP (hmono _ _ _ _ (fun p hp _ => List.mem_append_right _ hp) hJ) (fun p hp => ⟨List.mem_append_left _ hp, hown p hp⟩) ⟨oI, xs, hIown, hxs, hci⟩ F₁ N₁) (fun f s₂ p => ?_) fun _ _ e => e
    have fin : (∃ h' tk m' nw', s₂ = { s with heap := h', toks := tk } ∧ Fr h₀ env.locals h' m' ∧ News h₀ env.locals h' nw' ∧ (∀ p ∈ own, p ∈ nw') ∧ J (i + 1) m' nw') → LoopStepU h₀ env.locals [I] own (J (i + 1)) { s with heap := hh', toks := tk' } .next s₂ := by
      rintro ⟨h', tk, m', nw', e, F', N', ho, hm⟩
      refine ⟨rfl, h', tk, m', offs [I] nw', e, F', fun p hp => N' p ((List.mem_append.mp hp).elim (ho p) fun q => (mem_offs.mp q).1), fun p hp => (mem_offs.mp hp).2, hmono _ _ _ _ (fun p hp hf => mem_offs.mpr ⟨hp, fun q => ?_⟩) hm⟩
      have hp' : (I, p.2) ∈ nw' := by rw [← List.mem_singleton.mp q]; exact hp
      rcases hf with hf | hf
      · exact hf (List.mem_singleton.mp q)
      · exact hf (by rw [news_fun N' hp' (ho _ hIown)]; exact hci)
    cases f with
    | ret v => exact .ret p
    | brk => exact .brk p
    | next => exact .next (fin p)
    | cont => exact .cont (fin p)
  · rintro h' tk m' news' F' N' _ hJ
    exact done m' news' h' tk hJ F' N'

theorem iter_range_mine {r : Addr} {a₀ b₀ : Int} {t₀ u₀ v₀ : Tok} {n : Nat} {m₀ : Str → Option Value} {news : List (Addr × Obj)} (J : Nat → (Str → Option Value) → List (Addr × Obj) → Prop)
    (hh : A.handled = none) (hr : IsRange s.heap r a₀ b₀ 1 t₀ u₀ v₀) (hsmall : Builtin.Range.small a₀ b₀ 1 = true) (hn : Builtin.Range.rangeSize a₀ b₀ 1 = (n : Int)) (F : Fr h₀ env.locals s.heap m₀) (N : News h₀ env.locals s.heap news) (h0 : J 0 m₀ news)
    (hmono : ∀ i m a b, Grow s.heap.objs.size a b → J i m a → J i m b)
    (turn : ∀ (i : Nat) t m₁ nw own h tk, i < n → J i m₁ nw → (∀ p ∈ own, p ∈ nw ∧ p.1 = s.heap.objs.size) → (∃ o xs, (s.heap.objs.size, o) ∈ own ∧ o.data = .fields xs ∧ IsIt o.cls) → Fr h₀ env.locals h (fun y => if y = x then some (.int (a₀ + i) t) else m₁ y) → News h₀ env.locals h nw →
      wpAny (model prog w) A (execs body env) (TurnEnd h₀ env.locals own (J (i + 1)) { s with heap := h, toks := tk } Q) E { s with heap := h, toks := tk })
    (done : ∀ m₁ nx h tk, J n m₁ nx → Fr h₀ env.locals h m₁ → News h₀ env.locals h nx → Q .next { s with heap := h, toks := tk }) :
    wpAny (model prog w) A (pyIter (.ref r)) (fun it s₂ => LoopAtV prog w A h₀ env x body Q E it s₂) E s := by
  refine wpAny_pyIter_range hr hsmall ?_
  have W : Walks prog w A s.heap.objs.size [s.heap.objs.size] [s.heap.objs.size] n (fun i v => i < n ∧ ∃ t, v = .int (a₀ + i * 1) t)
      (fun i h => IsRangeIter h s.heap.objs.size (a₀ + (i : Nat) * 1) ((n : Int) - (i : Nat)) 1) := (Walks.range hh _ a₀ 1 n).bound
  refine loop_mine J W ?_ (next_is_new F) ?_ (List.mem_singleton.mpr rfl) ?_ (by show IsRangeIter _ _ _ _ _; rw [hn]; simpa using Heap.get?_push_size _ rfl) (F.push _) (fun p hp => ⟨Heap.get?_push_of_some _ (N p hp).1, (N p hp).2⟩) h0 hmono ?_ done
  · intro hm
    exact absurd F.ns.lt ((List.mem_singleton.mp hm) ▸ Nat.lt_irrefl _)
  · intro p hp hI
    exact absurd (Heap.lt_size (N p hp).1) (hI ▸ Nat.lt_irrefl _)
  · rintro i h st
    exact ⟨_, _, st, rfl, .inl rfl⟩
  · rintro i v m₁ nw own h tk hin ⟨_, t, rfl⟩ hJ ho hIo F' N'
    have e1 : a₀ + (i : Int) * 1 = a₀ + (i : Int) := by omega
    rw [e1] at F'
    exact turn i t m₁ nw own h tk hin hJ (fun p hp => ⟨(ho p hp).1, List.mem_singleton.mp (ho p hp).2⟩) hIo F' N'

theorem iter_list_mine {l : Addr} {vs : List Value} {m₀ : Str → Option Value} {news : List (Addr × Obj)} {k : Nat} (J : Nat → (Str → Option Value) → List (Addr × Obj) → Prop)
    (hh : A.handled = none) (F : Fr h₀ env.locals s.heap m₀) (N : News h₀ env.locals s.heap news) (hm : (l, W.listOf vs.toArray k) ∈ news) (h0 : J 0 m₀ news)
    (hmono : ∀ i m a b, Grow s.heap.objs.size a b → J i m a → J i m b)
    (turn : ∀ (i : Nat) v m₁ nw own h tk, vs[i]? = some v → J i m₁ nw → (∀ p ∈ own, p ∈ nw ∧ (p.1 = s.heap.objs.size ∨ p.1 = l)) → (∃ o xs, (s.heap.objs.size, o) ∈ own ∧ o.data = .fields xs ∧ IsIt o.cls) → Fr h₀ env.locals h (fun y => if y = x then some v else m₁ y) → News h₀ env.locals h nw →
      wpAny (model prog w) A (execs body env) (TurnEnd h₀ env.locals own (J (i + 1)) { s with heap := h, toks := tk } Q) E { s with heap := h, toks := tk })
    (done : ∀ m₁ nx h tk, J vs.length m₁ nx → Fr h₀ env.locals h m₁ → News h₀ env.locals h nx → Q .next { s with heap := h, toks := tk }) :
    wpAny (model prog w) A (pyIter (.ref l)) (fun it s₂ => LoopAtV prog w A h₀ env x body Q E it s₂) E s := by
  have hl : s.heap.IsList l vs.toArray := News.isList N hm
  have hlt : l < s.heap.objs.size := Heap.lt_size (N _ hm).1
  refine wpAny_pyIter_list hl ?_
  refine loop_mine (fp := [s.heap.objs.size, l]) (n := vs.toArray.size) J (Walks.list hh _ _ (Nat.ne_of_lt hlt) vs.toArray) ?_ (next_is_new F) ?_ (.head _) ?_ ⟨⟨_, Heap.get?_push_size _ rfl, rfl, rfl⟩, hl.push _⟩ (F.push _) (fun p hp => ⟨Heap.get?_push_of_some _ (N p hp).1, (N p hp).2⟩) h0 hmono ?_ (by simpa using done)
  · intro hm'
    rcases List.mem_cons.mp hm' with q | q
    · exact absurd F.ns.lt (q ▸ Nat.lt_irrefl _)
    · exact (N _ hm).2.1 (List.mem_singleton.mp q).symm
  · intro p hp hI
    exact absurd (Heap.lt_size (N p hp).1) (hI ▸ Nat.lt_irrefl _)
  · rintro i h ⟨⟨o, e1, e2, e3⟩, _⟩
    exact ⟨o, _, e1, e3, .inr e2⟩
  · rintro i v m₁ nw own h tk hin hP hJ ho hIo F' N'
    exact turn i v m₁ nw own h tk (by simpa using hP) hJ (fun p hp => ⟨(ho p hp).1, by simpa using (ho p hp).2⟩) hIo F' N'
end
end Mine
end
theorem Mine.top_off_p24 : True := by
  w_top off
  try walk1
  trivial
section
namespace Mine
def cutEnt (M af : Int) (row : List Ent) : List Ent := if M < (row.length : Int) then row.take af.toNat else row
def cutETell (M af : Int) (row : List Ent) : List (Int × Value) := if M < (row.length : Int) then (row.drop af.toNat).reverse.flatMap eTells else []
theorem Grow.seq {I a : Addr} {nw nx : List (Addr × Obj)} {cls : Value} {xs : Array Value} {n : Nat} (g : Grow I nw nx) (hc : ¬ IsIt cls) (hm : (a, ({ cls := cls, data := .seq xs n } : Obj)) ∈ nw) : (a, ({ cls := cls, data := .seq xs n } : Obj)) ∈ nx :=
  g _ hm (.inr hc)
theorem no_list : ¬ IsIt (.type "list") := by unfold IsIt; simp
theorem no_tup : ¬ IsIt (.type "tuple") := by unfold IsIt; simp
theorem RowIn.grow {I rl : Addr} {nw nx : List (Addr × Obj)} {row : List Ent} (g : Grow I nw nx) (R : RowIn nw rl row) : RowIn nx rl row :=
  ⟨R.1.elim fun n h => ⟨n, g.seq no_list h⟩, fun e he => g.seq no_tup (R.2 e he)⟩
theorem ToldIn.grow {I gl : Addr} {nw nx : List (Addr × Obj)} {G : List (Int × Value)} (g : Grow I nw nx) (R : ToldIn nw gl G) : ToldIn nx gl G := by
  obtain ⟨gs, gn, h1, h2⟩ := R
  exact ⟨gs, gn, g.seq no_list h1, h2.mono fun a vs hm => g.seq no_tup hm⟩
theorem frm1 (m' m0 : Str → Option Value) (a : Str) (h : ∀ y, y ≠ a → m' y = m0 y) : ∃ u1, m' = fun y => if y = a then u1 else m0 y := by
  refine ⟨m' a, funext fun y => ?_⟩
  by_cases h1 : y = a
  · simp [h1]
  · simp [h1, h y h1]
theorem kl_ins_zero (l : List Value) (y : Value) : kl_ins l 0 y = y :: l := by simp [kl_ins]
theorem hsl_ (a : Addr) (row : List Ent) : ((Value.ref a :: eVals row).toArray.size : Int) = ((row.length + 1 : Nat) : Int) := by simp [eVals]
section
local macro_rules | `(tactic| walk_at "exec For Name Call cons nil") => `(tactic| (k_here; refine Mine.stop ?_))
local macro_rules | `(tactic| walk_at "pyIter ref") => `(tactic| (k_here; refine Mine.stop ?_))
local macro_rules | `(tactic| walk_at "pyIter") => `(tactic| (k_here; refine Mine.stop ?_))
local macro_rules | `(tactic| k_mem) => `(tactic| with_reducible first | assumption | exact List.mem_cons_self | exact List.mem_cons_of_mem _ (by assumption) | exact List.mem_cons_of_mem _ List.mem_cons_self | exact List.mem_cons_of_mem _ (List.mem_cons_of_mem _ (by assumption)) | exact List.mem_cons_of_mem _ (List.mem_cons_of_mem _ (List.mem_cons_of_mem _ (by assumption))))
local macro_rules | `(tactic| walk_at "call type:list") => `(tactic| (k_here; refine Mine.stop ?_))
local macro_rules | `(tactic| walk_at "subscriptTail") => `(tactic| (k_here; k_dflt (refine item_tupleT (by exact News.isTup (by k_asm) (by k_mem)) (by decide) (by decide) (by exact rfl) (by exact rfl) ?_)))
local macro_rules | `(tactic| walk_at "call builtin:list.remove") => `(tactic| (k_here; refine Mine.stop ?_))
local macro_rules | `(tactic| walk_at "call builtin:list.insert") => `(tactic| (k_here; refine Mine.stop ?_))
local macro_rules | `(tactic| k_ne) => `(tactic| k_dflt ((try dsimp only); first | exact Mine.list_ne_tup (by k_asm) (by k_mem) (by k_mem) | exact Ne.symm (Mine.list_ne_tup (by k_asm) (by k_mem) (by k_mem))))
local macro_rules | `(tactic| k_ne) => `(tactic| with_reducible (first | assumption | exact Ne.symm (by assumption)))
local macro_rules | `(tactic| walk_at "call builtin:len") => `(tactic| (k_here; k_dflt (refine kun_lenL (by exact News.isList (by k_asm) (by k_mem)) (by first | assumption | exact Mine.hsl_ _ _) (by omega) ?_)))
local macro_rules | `(tactic| walk_at "call ref") => `(tactic| (k_here; (with_reducible show wpAny _ _ (call (Value.ref _) _ _) _ _ _); refine Mine.stop ?_))
variable {w : World} {A A₀ : Around} {base h₀ : Heap} {env : Env} {outer : List Env} {L : Addr} {p : Program} {loose : List Str} {mean : ExcName → Option Value} {mg mb m : Str → Option Value} {s : Shared} {news rest : List (Addr × Obj)} {R : Result → Shared → Prop}
variable {rl gl sz : Addr} {G : List (Int × Value)}
theorem C_put {row : List Ent} {key M af : Int} {kt tm ta : Tok} {v : Value} {tb : Bool} (AM : Amb w A A₀ base h₀ env outer L p loose mean mg mb) (F : Fr h₀ L s.heap m) (N : News h₀ L s.heap news) (hd : A.depth + 40 < recursionLimit) (hu : A.units + 50 < cLine)
    (Rw : RowIn news rl row) (Tg : ToldIn news gl G) (hne : rl ≠ gl) (hz : (sz, tuO [.int M tm, .int af ta]) ∈ news) (hnd : (row.map (·.k)).Nodup) (h0 : 0 ≤ af) (hlen : row.length + row.length + G.length ≤ 600)
    (h : ∀ h' tk news' e, e.k = key → e.v = v → e.t = tb → Fr h₀ L h' m → News h₀ L h' news' → RowIn news' rl (cutEnt M af (e :: row.filter fun x => x.k ≠ key)) →
      ToldIn news' gl (G ++ (row.filter fun x => x.k = key).flatMap eTells ++ cutETell M af (e :: row.filter fun x => x.k ≠ key)) → Kept [rl, gl] news news' → R (.ok (.ret .none)) { s with heap := h', toks := tk }) :
    codeAny (model PySem.Challenge.rw_jh0006_01.row.prog w) A (.call (.ref 217) ⟨[.ref rl, .int key kt, v, .bool tb, .ref sz, .ref gl], []⟩) R s := by
  obtain ⟨B, X, T, hA, hf, hk, hh⟩ := AM
  obtain ⟨⟨rn, r1⟩, r2⟩ := id Rw
  have hgl0 := Tg.choose_spec.choose_spec.1
  k_enter
  k_steps
  refine unstop ?_
  rename News _ _ _ _ => N1
  rename Fr _ _ _ _ => F1
  refine For_invVF F1 rfl rfl ?_ (hE := ?hE)
  case hE => with_unfolding_all passes_own
  k_steps
  refine unstop ?_
  obtain ⟨m0, hm0, F1'⟩ : ∃ m0, m0 = _ ∧ Fr _ _ _ m0 := ⟨_, rfl, F1⟩
  clear F1
  refine kup_listOf (zs := eVals row) F1' N1 r1 rfl (fun D c h2 F2 N2 hD => ?_) ?hz
  case hz => rw [sizeLine_eq]; simp [eVals]; omega
  refine iter_list_mine (fun i m1 nw => (∃ u, m1 = fun y => if y = Str.ofString "entry" then u else m0 y) ∧ RowIn nw rl ((row.take i).filter (fun x => x.k ≠ key) ++ row.drop i) ∧ ToldIn nw gl (G ++ ((row.take i).filter fun x => x.k = key).flatMap eTells) ∧ (∀ p ∈ (D, W.listOf (eVals row).toArray c) :: news, p.1 ∉ [rl, gl] → p ∈ nw)) hh F2 N2 List.mem_cons_self
    ⟨frm1 _ _ _ fun _ _ => rfl, ?_, ?_, fun p hp _ => hp⟩ ?_ ?_ ?_
  · exact ⟨⟨rn, by simp only [List.take_zero, List.drop_zero, List.filter_nil, List.nil_append]; exact .tail _ r1⟩, fun e he => .tail _ (r2 e (by simpa using he))⟩
  · obtain ⟨gs, gn, g1, g2⟩ := Tg
    exact ⟨gs, gn, .tail _ g1, by simpa using g2.mono fun a vs hm => .tail _ hm⟩
  · rintro i m1 a b hg ⟨J0, J1, J2, J3⟩
    refine ⟨J0, J1.grow hg, J2.grow hg, fun p hp hD' => hg _ (J3 p hp hD') (.inl ?_)⟩
    exact Nat.ne_of_lt (Heap.lt_size (N2 p hp).1)
  · rintro i v' _ nw own h3 tk3 hv' ⟨⟨u, rfl⟩, J1, J2, J3⟩ hown hI F3 N3
    subst hm0
    obtain ⟨e, he, rfl⟩ : ∃ e, row[i]? = some e ∧ v' = .ref e.a := by
      unfold eVals at hv'
      rw [List.getElem?_map] at hv'
      obtain ⟨e, h1, h2⟩ := Option.map_eq_some_iff.mp hv'
      exact ⟨e, h1, h2.symm⟩
    have hlt : i < row.length := (List.getElem?_eq_some_iff.mp he).1
    have he' : row[i] = e := (List.getElem?_eq_some_iff.mp he).2
    have e1 : row.take (i + 1) = row.take i ++ [e] := by rw [List.take_succ_eq_append_getElem hlt, he']
    have e2 : row.drop i = e :: row.drop (i + 1) := by rw [List.drop_eq_getElem_cons hlt, he']
    obtain ⟨⟨rn3, q1⟩, q2⟩ := J1
    obtain ⟨gs, gn, g1, g2⟩ := J2
    have hownr : ∀ p ∈ own, p ∈ offs [rl, gl] nw := by
      intro p hp
      refine mem_offs.mpr ⟨(hown p hp).1, ?_⟩
      simp only [List.mem_cons, List.not_mem_nil, or_false, not_or]
      rcases (hown p hp).2 with q | q
      · rw [q]
        exact ⟨(Nat.ne_of_lt (Heap.lt_size (N2 _ (.tail _ r1)).1)).symm, (Nat.ne_of_lt (Heap.lt_size (N2 _ (.tail _ hgl0)).1)).symm⟩
      · rw [q]
        exact ⟨(Nat.ne_of_lt (hD _ r1)).symm, (Nat.ne_of_lt (hD _ hgl0)).symm⟩
    have N4 : News _ _ h3 ((rl, W.listOf (eVals ((row.take i).filter (fun x => x.k ≠ key)) ++ .ref e.a :: eVals (row.drop (i + 1))).toArray rn3) :: (gl, W.listOf gs.toArray gn) :: offs [rl, gl] nw) := news_focus N3 [rl, gl] [_, _] (by
      intro p hp
      simp only [List.mem_cons, List.not_mem_nil, or_false] at hp
      rcases hp with rfl | rfl
      · rw [show eVals ((row.take i).filter (fun x => x.k ≠ key)) ++ .ref e.a :: eVals (row.drop (i + 1)) = eVals ((row.take i).filter (fun x => x.k ≠ key) ++ row.drop i) by rw [e2]; simp [eVals]]
        exact q1
      · exact g1)
    have hr1 : ∀ p ∈ offs [rl, gl] nw, p.1 ≠ rl := offs_off (by simp)
    have hr2 : ∀ p ∈ offs [rl, gl] nw, p.1 ≠ gl := offs_off (by simp)
    have tup : ∀ a vs, (a, tuO vs) ∈ nw → (a, tuO vs) ∈ offs [rl, gl] nw := by
      intro a vs hm
      refine mem_offs.mpr ⟨hm, ?_⟩
      simp only [List.mem_cons, List.not_mem_nil, or_false, not_or]
      constructor <;> (rintro rfl)
      · exact absurd (congrArg Obj.cls (news_fun N3 hm q1)) (by simp [W.listOf])
      · exact absurd (congrArg Obj.cls (news_fun N3 hm g1)) (by simp [W.listOf])
    have hEn : ∀ x ∈ (row.take i).filter (fun x => x.k ≠ key) ++ e :: row.drop (i + 1), (x.a, tuO [.int x.k x.tk, x.v, .bool x.t]) ∈ offs [rl, gl] nw := fun x hx => tup _ _ (q2 x (by rw [e2]; exact hx))
    have hg2 := g2.mono tup
    have hEe := hEn e (by simp)
    have hK3 : ∀ p ∈ (D, W.listOf (eVals row).toArray c) :: news, p.1 ∉ [rl, gl] → p ∈ offs [rl, gl] nw := fun p hp hD' => mem_offs.mpr ⟨J3 p hp hD', hD'⟩
    have hz0 : (eVals ((row.take i).filter (fun x => x.k ≠ key)) ++ Value.ref e.a :: eVals (row.drop (i + 1))).length ≤ sizeLine := by
      have := List.length_filter_le (fun x : Ent => decide (x.k ≠ key)) (row.take i)
      rw [List.length_take] at this
      rw [sizeLine_eq]
      simp only [eVals, List.length_append, List.length_cons, List.length_map, List.length_drop]
      omega
    have hgl : gs.length ≤ 1000 := by
      have h1 := eTells_len ((row.take i).filter fun x => x.k = key)
      have h2 := List.length_filter_le (fun x : Ent => decide (x.k = key)) (row.take i)
      rw [List.length_take] at h2
      rw [hg2.length, List.length_append]
      omega
    clear N3 q1 q2 g1 g2 N2 F2 J3
    generalize offs [rl, gl] nw = rest at *
    obtain ⟨ek, et, ev, eb, ea⟩ := e
    dsimp only at hEe
    k_steps
    · rename ek = key => hc
      subst hc
      refine unstop ?_
      rename Fr _ _ _ _ => F5
      rename News _ _ _ _ => N5
      have hne' : ∀ x ∈ (row.take i).filter (fun x => x.k ≠ ek) ++ row.drop (i + 1), x.k ≠ ek := by
        intro x hx
        rcases List.mem_append.mp hx with q | q
        · simpa using (List.mem_filter.mp q).2
        · intro hk
          have e3 := hnd
          rw [← List.take_append_drop i row, e2, List.map_append, List.map_cons] at e3
          have e4 := (List.nodup_cons.mp (List.nodup_append.mp e3).2.1).1
          exact e4 (List.mem_map.mpr ⟨x, q, hk⟩)
      refine kr_remove (p := eVals ((row.take i).filter (fun x => x.k ≠ ek))) (q := eVals (row.drop (i + 1))) (v := .ref ea) (fun y => decide (y = .ref ea)) F5 N5 ?he (by simp) ?hno hz0 (by k_upd) fun h5 F6 N6 => ?_
      case he =>
        intro y hy
        obtain ⟨x, hx, rfl⟩ : ∃ x ∈ (row.take i).filter (fun x => x.k ≠ ek) ++ ⟨ek, et, ev, eb, ea⟩ :: row.drop (i + 1), y = .ref x.a := by
          rcases List.mem_append.mp hy with q | q
          · obtain ⟨x, hx, rfl⟩ := List.mem_map.mp q
            exact ⟨x, List.mem_append_left _ hx, rfl⟩
          · rcases List.mem_cons.mp q with q | q
            · exact ⟨_, List.mem_append_right _ List.mem_cons_self, q⟩
            · obtain ⟨x, hx, rfl⟩ := List.mem_map.mp q
              exact ⟨x, List.mem_append_right _ (List.mem_cons_of_mem _ hx), rfl⟩
        by_cases hxe : x.a = ea
        · rw [hxe]
          simpa using PySem.SeqAt.EqAt.same (.ref ea)
        · have hxk : x.k ≠ ek := by
            rcases List.mem_append.mp hx with q | q
            · exact hne' x (List.mem_append_left _ q)
            · rcases List.mem_cons.mp q with q | q
              · exact absurd (by rw [q]) hxe
              · exact hne' x (List.mem_append_right _ q)
          rw [show decide (Value.ref x.a = Value.ref ea) = false by simpa using hxe]
          exact ent_eq N5 (List.mem_cons_of_mem _ (List.mem_cons_of_mem _ (hEn x hx))) (List.mem_cons_of_mem _ (List.mem_cons_of_mem _ hEe)) hxk (by k_units)
      case hno =>
        intro y hy
        obtain ⟨x, hx, rfl⟩ := List.mem_map.mp hy
        have hxe : x.a ≠ ea := by
          intro q
          have hx' := hEn x (List.mem_append_left _ hx)
          rw [q] at hx'
          have e1 : (Value.int x.k x.tk :: [x.v, Value.bool x.t]) = (Value.int ek et :: [ev, Value.bool eb]) := congrArg (fun o => match o.data with | .seq xs _ => xs.toList | _ => []) (news_fun N5 (.tail _ (.tail _ hx')) (.tail _ (.tail _ hEe)))
          injection e1 with e2 _
          injection e2 with e3
          exact hne' x (List.mem_append_left _ hx) e3
        simpa using hxe
      have hf1 : (row.take i ++ [(⟨ek, et, ev, eb, ea⟩ : Ent)]).filter (fun x => x.k ≠ ek) = (row.take i).filter (fun x => x.k ≠ ek) := by
        rw [List.filter_append, List.filter_cons_of_neg (by simp)]; simp
      have hf2 : (row.take i ++ [(⟨ek, et, ev, eb, ea⟩ : Ent)]).filter (fun x => x.k = ek) = (row.take i).filter (fun x => x.k = ek) ++ [⟨ek, et, ev, eb, ea⟩] := by
        rw [List.filter_append, List.filter_cons_of_pos (by simp)]; simp
      clear F5 N5
      dsimp only
      cases eb
      · k_steps
        rename Fr _ _ _ _ => F7
        rename News _ _ _ _ => N7
        refine ⟨_, _, _, _, rfl, F7, N7, fun p hp => .tail _ (.tail _ (hownr p hp)), frm1 _ _ _ fun y hy => by simp [hy], ⟨⟨rn3 + 1, ?_⟩, ?_⟩, ⟨gs, gn, .tail _ (.head _), ?_⟩, fun p hp hD' => .tail _ (.tail _ (hK3 p hp hD'))⟩
        · rw [e1, hf1]; rw [show eVals ((row.take i).filter (fun x => x.k ≠ ek) ++ row.drop (i + 1)) = eVals ((row.take i).filter (fun x => x.k ≠ ek)) ++ eVals (row.drop (i + 1)) by simp [eVals]]
          exact List.mem_cons_self
        · rw [e1, hf1]
          intro x hx
          exact .tail _ (.tail _ (hEn x ((List.mem_append.mp hx).elim (List.mem_append_left _) fun q => List.mem_append_right _ (.tail _ q))))
        · rw [e1, hf2, List.flatMap_append]
          simpa [eTells] using hg2.mono fun a vs hm => .tail _ (.tail _ hm)
      · k_steps
        rename Fr _ _ _ _ => F7
        rename News _ _ _ _ => N7
        have N8 := N7
        rw [List.push_toArray] at N8
        refine ⟨_, _, _, _, rfl, F7, N8, fun p hp => .tail _ (.tail _ (.tail _ (hownr p hp))), frm1 _ _ _ fun y hy => by simp [hy], ⟨⟨rn3 + 1, ?_⟩, ?_⟩, ⟨gs ++ [_], gn + 1, .tail _ (.tail _ (.head _)), ?_⟩, fun p hp hD' => .tail _ (.tail _ (.tail _ (hK3 p hp hD')))⟩
        · rw [e1, hf1]; rw [show eVals ((row.take i).filter (fun x => x.k ≠ ek) ++ row.drop (i + 1)) = eVals ((row.take i).filter (fun x => x.k ≠ ek)) ++ eVals (row.drop (i + 1)) by simp [eVals]]
          exact .tail _ (.head _)
        · rw [e1, hf1]
          intro x hx
          exact .tail _ (.tail _ (.tail _ (hEn x ((List.mem_append.mp hx).elim (List.mem_append_left _) fun q => List.mem_append_right _ (.tail _ q)))))
        · rw [e1, hf2, List.flatMap_append, ← List.append_assoc]
          show TIt _ _ (_ ++ [(ek, ev)])
          exact TIt.snoc (List.mem_cons_self) (hg2.mono fun a vs hm => List.mem_cons_of_mem _ (List.mem_cons_of_mem _ (List.mem_cons_of_mem _ hm)))
    · rename ¬ ek = key => hc
      rename Fr _ _ _ _ => F7
      rename News _ _ _ _ => N7
      have hf1 : (row.take i ++ [(⟨ek, et, ev, eb, ea⟩ : Ent)]).filter (fun x => x.k ≠ key) = (row.take i).filter (fun x => x.k ≠ key) ++ [⟨ek, et, ev, eb, ea⟩] := by
        rw [List.filter_append, List.filter_cons_of_pos (by simpa using hc)]; simp
      have hf2 : (row.take i ++ [(⟨ek, et, ev, eb, ea⟩ : Ent)]).filter (fun x => x.k = key) = (row.take i).filter (fun x => x.k = key) := by
        rw [List.filter_append, List.filter_cons_of_neg (by simpa using hc)]; simp
      refine ⟨_, _, _, _, rfl, F7, N7, fun p hp => .tail _ (.tail _ (hownr p hp)), frm1 _ _ _ fun y hy => by simp [hy], ⟨⟨rn3, ?_⟩, ?_⟩, ⟨gs, gn, .tail _ (.head _), ?_⟩, fun p hp hD' => .tail _ (.tail _ (hK3 p hp hD'))⟩
      · rw [e1, hf1]; rw [show eVals ((row.take i).filter (fun x => x.k ≠ key) ++ [⟨ek, et, ev, eb, ea⟩] ++ row.drop (i + 1)) = eVals ((row.take i).filter (fun x => x.k ≠ key)) ++ .ref ea :: eVals (row.drop (i + 1)) by simp [eVals]]
        exact List.mem_cons_self
      · rw [e1, hf1]
        intro x hx
        exact .tail _ (.tail _ (hEn x (by simpa using hx)))
      · rw [e1, hf2]
        exact hg2.mono fun a vs hm => .tail _ (.tail _ hm)
  · rintro _ nx h3 tk3 ⟨⟨u, rfl⟩, J1, J2, J3⟩ F3 N3
    subst hm0
    clear F1' N1 F2 N2
    rw [show (eVals row).length = row.length by simp [eVals], List.take_length, List.drop_length, List.append_nil] at J1
    rw [show (eVals row).length = row.length by simp [eVals], List.take_length] at J2
    obtain ⟨⟨rn3, q1⟩, q2⟩ := J1
    obtain ⟨gs, gn, g1, g2⟩ := J2
    have hKn : Kept [rl, gl] news nx := fun p hp hD' => J3 p (.tail _ hp) hD'
    clear J3
    have hszr : (sz, tuO [.int M tm, .int af ta]) ∈ nx := hKn _ hz (by
      simp only [List.mem_cons, List.not_mem_nil, or_false, not_or]
      constructor <;> (intro q)
      · exact absurd (congrArg Obj.cls (news_fun N (q ▸ hz) r1)) (by simp [W.listOf])
      · exact absurd (congrArg Obj.cls (news_fun N (q ▸ hz) hgl0)) (by simp [W.listOf]))
    have N4 : News _ _ h3 ((rl, W.listOf (eVals (row.filter (fun x => x.k ≠ key))).toArray rn3) :: offs [rl] nx) := news_focus N3 [rl] [_] (by simpa using q1)
    have hr1 : ∀ p ∈ offs [rl] nx, p.1 ≠ rl := offs_off (by simp)
    have offm : ∀ p ∈ nx, p.1 ≠ rl → p ∈ offs [rl] nx := fun p hp h1 => mem_offs.mpr ⟨hp, by simpa using h1⟩
    have tup : ∀ a vs, (a, tuO vs) ∈ nx → (a, tuO vs) ∈ offs [rl] nx := by
      intro a vs hm
      refine offm _ hm ?_
      rintro rfl
      exact absurd (congrArg Obj.cls (news_fun N3 hm q1)) (by simp [W.listOf])
    have hEn : ∀ x ∈ row.filter (fun x => x.k ≠ key), (x.a, tuO [.int x.k x.tk, x.v, .bool x.t]) ∈ offs [rl] nx := fun x hx => tup _ _ (q2 x hx)
    have hg1 := offm _ g1 (Ne.symm hne)
    have hg2 := g2.mono tup
    have hsz := tup _ _ hszr
    have hK3 : Kept [rl, gl] news (offs [rl] nx) := fun p hp hD' => offm _ (hKn p hp hD') (by simp only [List.mem_cons, List.not_mem_nil, or_false, not_or] at hD'; exact hD'.1)
    have hfl := List.length_filter_le (fun x : Ent => decide (x.k ≠ key)) row
    have hfl2 := List.length_filter_le (fun x : Ent => decide (x.k = key)) row
    have hz0 : (eVals (row.filter (fun x => x.k ≠ key))).toArray.toList.length ≤ sizeLine := by
      rw [sizeLine_eq]; simp only [eVals, List.length_map]; omega
    clear N3 q1 q2 g1 g2 hKn hszr tup offm r2 r1 hgl0
    generalize offs [rl] nx = rest at *
    dsimp only
    k_steps
    refine unstop ?_
    rename_i D1 hh1 F5 N5 hl1
    have hDr := Nat.ne_of_lt hl1.1
    refine kl_insert (its := (eVals (row.filter (fun x => x.k ≠ key))).toArray) F5 N5 (by decide) (kl_ins_zero _ _) (by k_upd) hz0 fun h6 F6 N6 => ?_
    clear F5 N5
    dsimp only
    k_steps
    · refine unstop ?_
      rename M < _ => hc
      rename Fr _ _ _ _ => F7
      rename News _ _ _ _ => N7
      rename Below _ _ _ _ => B1
      rename Top _ _ _ _ _ _ => T1
      rename Frag.In _ _ => X1
      have hRw1 : RowIn ((D1, tuO [.int key kt, v, .bool tb]) :: (rl, W.listOf (Value.ref D1 :: eVals (row.filter (fun x => x.k ≠ key))).toArray (rn3 + 1)) :: rest) rl (⟨key, kt, v, tb, D1⟩ :: row.filter (fun x => x.k ≠ key)) := ⟨⟨_, .tail _ (.head _)⟩, fun x hx => by
        rcases List.mem_cons.mp hx with q | q
        · rw [q]; exact .head _
        · exact .tail _ (.tail _ (hEn x q))⟩
      refine wpAny_call (C_shrunk (row := ⟨key, kt, v, tb, D1⟩ :: row.filter (fun x => x.k ≠ key)) (Amb.deep hh B1 X1 T1 rfl rfl) F7 N7 (by k_room) hRw1 ⟨gs, gn, .tail _ (.tail _ hg1), hg2.mono fun a vs hm => .tail _ (.tail _ hm)⟩ hne h0 ?hl fun h8 tk8 news8 F8 N8 Rw8 Tg8 K8 => ?_)
      case hl =>
        have := eTells_len (row.filter fun x => x.k = key)
        rw [List.length_append, List.length_cons]
        omega
      clear F7 N7
      dsimp only
      k_steps
      rename Fr _ _ _ _ => F9
      rename News _ _ _ _ => N9
      refine h _ _ _ ⟨key, kt, v, tb, D1⟩ rfl rfl rfl F9 N9 ?_ ?_ fun p hp hD' => K8 _ (.tail _ (.tail _ (hK3 p hp hD'))) hD'
      · unfold cutEnt
        rw [if_pos (by simpa using hc)]
        exact Rw8
      · unfold cutETell
        rw [if_pos (by simpa using hc)]
        exact Tg8
    · rename ¬ M < _ => hc
      rename Fr _ _ _ _ => F7
      rename News _ _ _ _ => N7
      refine h _ _ _ ⟨key, kt, v, tb, D1⟩ rfl rfl rfl F7 N7 ?_ ?_ fun p hp hD' => .tail _ (.tail _ (hK3 p hp hD'))
      · unfold cutEnt
        rw [if_neg (by simpa using hc)]
        exact ⟨⟨_, .tail _ (.head _)⟩, fun x hx => by
          rcases List.mem_cons.mp hx with q | q
          · rw [q]; exact .head _
          · exact .tail _ (.tail _ (hEn x q))⟩
      · unfold cutETell
        rw [if_neg (by simpa using hc), List.append_nil]
        exact ⟨gs, gn, .tail _ (.tail _ hg1), hg2.mono fun a vs hm => .tail _ (.tail _ hm)⟩
end
end Mine
end
theorem Mine.top_off_p25 : True := by
  w_top off
  try walk1
  trivial
section
namespace Mine
theorem ne_of_ltAll {news : List (Addr × Obj)} {d : Addr} (h : ∀ p ∈ news, p.1 < d) : ∀ p ∈ news, p.1 ≠ d := fun p hp => Nat.ne_of_lt (h p hp)
theorem links0 {h₀ h : Heap} {L x dx d : Addr} {od : Obj} {rest : List (Addr × Obj)} {P : Prop} {qc : K5} {mx af : Value} (_N : News h₀ L h ((d, od) :: (x, instObj 175 dx) :: (dx, caO qc (.ref d) .none .none mx af) :: rest)) (l3 : x < d ∧ dx < d ∧ P) (l2 : dx < x) :
    Links ((d, od) :: (x, instObj 175 dx) :: (dx, caO qc (.ref d) .none .none mx af) :: rest) x dx d qc [] mx af := by
  refine ⟨.tail _ (.head _), .tail _ (.tail _ (.head _)), trivial, ?_, List.nodup_nil, ?_⟩
  · simpa using Nat.ne_of_lt l3.2.1
  · intro i hi
    have e : i = x := by simpa using hi
    rw [e]
    simp only [List.map_nil, List.mem_cons, List.not_mem_nil, or_false, not_or]
    exact ⟨Nat.ne_of_gt l2, Nat.ne_of_lt l3.1⟩
section
local macro_rules | `(tactic| k_ne) => `(tactic| k_dflt (refine neN ?_; (try dsimp only); omega))
local macro_rules | `(tactic| k_all) => `(tactic| with_reducible first | assumption | exact Mine.ne_of_ltAll (by assumption))
local macro_rules | `(tactic| walk_at "exec While Compare cons nil") => `(tactic| (k_here; refine Mine.stop ?_))
local macro_rules | `(tactic| walk_at "exec While Attribute") => `(tactic| (k_here; refine Mine.stop ?_))
local macro_rules | `(tactic| walk_at "call ref") => `(tactic| (k_here; (with_reducible show wpAny _ _ (call (Value.ref 121) _ _) _ _ _); refine Mine.stop ?_))
variable {w : World} {A A₀ : Around} {base h₀ : Heap} {env : Env} {outer : List Env} {L : Addr} {p : Program} {loose : List Str} {mean : ExcName → Option Value} {mg mb m : Str → Option Value} {s : Shared} {news rest : List (Addr × Obj)} {R : Result → Shared → Prop} {E : Value → Shared → Prop} {Q : Value → Shared → Prop}
variable {x dx d tl : Addr} {qc : K5} {mx : Value}
theorem C_cleanup0 {afi : Int} {ta : Tok} (AM : Amb w A A₀ base h₀ env outer L p loose mean mg mb) (F : Fr h₀ L s.heap m) (N : News h₀ L s.heap news) (hd : A.depth + 20 < recursionLimit)
    (I : Links news x dx d qc [] mx (.int afi ta)) (M : MapIn w news d []) (h0 : 0 ≤ afi)
    (h : ∀ h' tk, Fr h₀ L h' m → News h₀ L h' news → R (.ok (.ret .none)) { s with heap := h', toks := tk }) :
    codeAny (model PySem.Challenge.rw_jh0006_01.row.prog w) A (.call (.ref 121) ⟨[.ref x], []⟩) R s := by
  obtain ⟨B, X, T, hA, hf, hk, hh⟩ := AM
  k_enter
  k_steps
  unfold Stop
  rename News _ _ _ _ => N1
  rename Fr _ _ _ _ => F1
  refine While_inv2 (n₀ := 0) (fun n m1 n1 => m1 = _ ∧ n1 = news) F1 N1 ⟨rfl, rfl⟩ ?_ ?_
  · rintro n _ _ h1 tk1 F2 N2 ⟨rfl, rfl⟩
    clear F1 N1
    have a1 := I.inst
    have a2 := I.dic
    obtain ⟨od, kvs, m1, m2, m3, m4⟩ := id M
    have hkl : kvs.length = 0 := by rw [m3.length_eq]; rfl
    have hz : kvs.length ≤ 16777216 := by omega
    k_steps
    rename News _ _ _ _ => N3
    rename Fr _ _ _ _ => F3
    exact h _ _ F3 N3
  · with_unfolding_all passes_own

theorem C_new {M : Int} {tm tc : Tok} {o : Option Int} (AM : Amb w A A₀ base h₀ env outer L p loose mean mg mb) (F : Fr h₀ L s.heap m) (N : News h₀ L s.heap news) (hd : A.depth + 90 < recursionLimit) (hM : 0 ≤ M) (hM2 : M ≤ 100) (ho : ∀ c, o = some c → 0 ≤ c)
    (h : ∀ h' tk x dx d qc ta news', Fr h₀ L h' m → News h₀ L h' news' → (∀ p ∈ news, p ∈ news') → Links news' x dx d qc [] (.int M tm) (.int (afOf M o) ta) → MapIn w news' d [] → Q (.ref x) { s with heap := h', toks := tk }) :
    wpAny (model PySem.Challenge.rw_jh0006_01.row.prog w) A (call (.ref 175) [.int M tm, lsV o tc] []) Q E s := by
  obtain ⟨B, X, T, hA, hf, hk, hh⟩ := AM
  cases o with
  | none =>
    show wpAny _ _ (call (.ref 175) [.int M tm, .none] []) _ _ _
    k_steps
    refine unstop ?_
    dsimp only [List.append_nil]
    rename News _ _ _ _ => N1
    rename Fr _ _ _ _ => F1
    rename Below _ _ _ _ => B1
    rename Top _ _ _ _ _ _ => T1
    rename Frag.In _ _ => X1
    rename (_ == sysModules) = false => lo
    rename Obj.IsDictOf (intKind _ _) _ _ => hi
    rename _ ∧ _ ∧ AllLt _ _ => l3
    have I0 := links0 (qc := ⟨_, _, _, _, _, _, _, _, _, _⟩) N1 l3 (by assumption)
    refine wpAny_call (C_cleanup0 (Amb.deep hh B1 X1 T1 rfl rfl) F1 N1 (by k_room) I0 ⟨_, [], .head _, hi, .nil, lo⟩ (afOf_nonneg (o := none) hM ho) fun h2 tk2 F2 N2 => ?_)
    clear F1 N1
    dsimp only
    k_steps
    rename News _ _ _ _ => N3
    rename Fr _ _ _ _ => F3
    exact h _ _ _ _ _ _ _ _ F3 N3 (fun p hp => .tail _ (.tail _ (.tail _ hp))) I0 ⟨_, [], .head _, hi, .nil, lo⟩
  | some c =>
    show wpAny _ _ (call (.ref 175) [.int M tm, .int c tc] []) _ _ _
    k_steps
    refine unstop ?_
    dsimp only [List.append_nil]
    rename News _ _ _ _ => N1
    rename Fr _ _ _ _ => F1
    rename Below _ _ _ _ => B1
    rename Top _ _ _ _ _ _ => T1
    rename Frag.In _ _ => X1
    rename (_ == sysModules) = false => lo
    rename Obj.IsDictOf (intKind _ _) _ _ => hi
    rename _ ∧ _ ∧ AllLt _ _ => l3
    have I0 := links0 (qc := ⟨_, _, _, _, _, _, _, _, _, _⟩) N1 l3 (by assumption)
    refine wpAny_call (C_cleanup0 (Amb.deep hh B1 X1 T1 rfl rfl) F1 N1 (by k_room) I0 ⟨_, [], .head _, hi, .nil, lo⟩ (afOf_nonneg (o := some c) hM ho) fun h2 tk2 F2 N2 => ?_)
    clear F1 N1
    dsimp only
    k_steps
    rename News _ _ _ _ => N3
    rename Fr _ _ _ _ => F3
    exact h _ _ _ _ _ _ _ _ F3 N3 (fun p hp => .tail _ (.tail _ (.tail _ hp))) I0 ⟨_, [], .head _, hi, .nil, lo⟩
end
end Mine
end
theorem Mine.top_off_p26 : True := by
  w_top off
  try walk1
  trivial
section
namespace Mine
theorem ints_of_places {kvs : List (Int × Value)} : ∀ {vs : List Value}, vs.length = kvs.length → (∀ (j : Nat) (v : Value), vs[j]? = some v → ∃ k x, kvs[j]? = some (k, x) ∧ Value.isInt k v = true) → IntsAre vs (kvs.map (·.1)) := by
  induction kvs with
  | nil =>
    intro vs hl _
    cases vs with
    | nil => exact .nil
    | cons a r => cases hl
  | cons kv r ih =>
    intro vs hl hv
    cases vs with
    | nil => cases hl
    | cons a t =>
      obtain ⟨k, x, e, hi⟩ := hv 0 a rfl
      obtain ⟨u, rfl⟩ := Value.isInt_shape hi
      have e' : kv = (k, x) := by simpa using e
      subst e'
      exact .cons k u (ih (by simpa using hl) fun j v hj => hv (j + 1) v (by simpa using hj))
section
variable {prog : Program} {w : World} {A : Around} {E : Value → Shared → Prop} {s : Shared} {h₀ : Heap} {L D : Addr} {m : Str → Option Value} {news : List (Addr × Obj)} {n : Nat}
theorem my_sort {vs : List Value} {ns : List Int} {Q : Value → Shared → Prop} (F : Fr h₀ L s.heap m) (N : News h₀ L s.heap ((D, W.listOf vs.toArray n) :: news)) (hD : ∀ p ∈ news, p.1 ≠ D) (hI : IntsAre vs ns) (h64 : vs.length < 64)
    (h : ∀ out ns' n' h', Fr h₀ L h' m → News h₀ L h' ((D, W.listOf (List.toArray out) n') :: news) → IntsAre out ns' → ns'.Perm ns → ns'.Pairwise (· ≤ ·) → Q .none { s with heap := h' }) : wpAny (model prog w) A (call (.builtin "list.sort") [.ref D]) Q E s := by
  have z := N (D, W.listOf vs.toArray n) (.head _)
  have ho : s.heap.get? D = some (seqObj "list" vs.toArray n) := z.1
  refine wpAny_call_entry PyProof.Rows.slot_list_sort ⟨_, z.1, rfl⟩ PyProof.Rows.entry_list_sort (list_sort_tree (n := n) (vs := vs) ho hI h64 fun out ns' hI' hp hP => ⟨.none, rfl, ?_⟩) (PyProof.Rows.args_list_sort _)
  have F1 : Fr h₀ L (s.heap.update D (Obj.mapSeq fun _ => (#[] : Array Value))) m := F.change (Heap.SameBut.update ..) z.2.1 z.2.2
  have N1 := ki_turn (pre := []) (fun _ => (#[] : Array Value)) (its' := #[]) N (fun _ h => nomatch h) hD rfl rfl
  have N2 := News.grown N1 fun _ _ e => Heap.get?_push_of_some (seqObj "tuple" vs.toArray 0) e
  have N3 := News.grown N2 fun _ _ e => Heap.get?_push_of_some (seqObj "list" #[] 0) e
  have N4 := ki_turn (pre := []) (fun _ => out) (its' := out) N3 (fun _ h => nomatch h) hD rfl rfl
  have F4 : Fr h₀ L ((((s.heap.update D (Obj.mapSeq fun _ => (#[] : Array Value))).push (seqObj "tuple" vs.toArray 0)).push (seqObj "list" #[] 0)).update D (Obj.mapSeq fun _ => out)) m :=
    ((F1.push (seqObj "tuple" vs.toArray 0)).push (seqObj "list" #[] 0)).change (Heap.SameBut.update ..) z.2.1 z.2.2
  have e : out = out.toList.toArray := (Array.toArray_toList ).symm
  rw [e] at N4
  exact h _ ns' _ _ F4 N4 hI' hp hP
theorem sorted_keys {d v : Addr} {od : Obj} {kvs : List (Int × Value)} {Q : Value → Shared → Prop} (hh : A.handled = none) (F : Fr h₀ L s.heap m) (N : News h₀ L s.heap news) (hv : (v, ({ cls := .type "dict_keys", data := .fields #[.ref d] } : Obj)) ∈ news) (hd : (d, od) ∈ news) (hk : od.IsDictOf (intKind prog w) kvs) (h64 : kvs.length < 64)
    (h : ∀ D vs ns n h' tk, Fr h₀ L h' m → News h₀ L h' ((D, W.listOf (List.toArray vs) n) :: news) → (∀ q ∈ news, q.1 ≠ D) → IntsAre vs ns → ns.Perm (kvs.map (·.1)) → ns.Pairwise (· ≤ ·) → Q (.ref D) { s with heap := h', toks := tk }) :
    wpAny (model prog w) A (call (.builtin "sorted") [.ref v]) Q E s := by
  obtain ⟨ep, hat⟩ := (Heap.dictOf_iff.mpr ⟨od, (N _ hd).1, hk⟩ : s.heap.DictOf (intKind prog w) d kvs).dictAt
  refine kdu_sorted (kdl_keys (knd := intKind prog w) (kvs := kvs) (ep := ep)) hh F N ⟨⟨_, (N _ hv).1, rfl, rfl⟩, hat⟩ (by rw [sizeLine_eq]; omega) fun B h' tk vs F' N' l1 hl hv => ?_
  have hI : IntsAre vs (kvs.map (·.1)) := by
    exact ints_of_places hl hv
  refine my_sort F' N' (fun q hq => Nat.ne_of_lt (l1 q hq)) hI (by omega) fun out ns' n' h2 F2 N2 i2 p2 o2 => ?_
  exact h _ _ _ _ _ _ F2 N2 (fun q hq => Nat.ne_of_lt (l1 q hq)) i2 p2 o2
end
section
local macro_rules | `(tactic| walk_at "getMethod ref") => `(tactic| (k_here; k_dflt (refine kdl_method (knd := PySem.intKind _ _) PySem.F.slot_dict_keys PySem.F.type_dict_keys (by k_asm) (by k_mem) (by assumption) ?_)))
local macro_rules | `(tactic| walk_at "call builtin:dict.keys") => `(tactic| (k_here; k_dflt (refine kdl_view_keys (knd := PySem.intKind _ _) (by k_asm) (by k_asm) (by k_mem) (by assumption) (by assumption) ?_); intro D' h' F' N' l1))
variable {w : World} {A A₀ : Around} {base h₀ : Heap} {env : Env} {outer : List Env} {L : Addr} {p : Program} {loose : List Str} {mean : ExcName → Option Value} {mg mb m : Str → Option Value} {s : Shared} {news rest : List (Addr × Obj)} {R : Result → Shared → Prop}
variable {x dx d tl : Addr} {qc : K5} {mx af : Value}
theorem C_keys {row : List Nd} (AM : Amb w A A₀ base h₀ env outer L p loose mean mg mb) (F : Fr h₀ L s.heap m) (N : News h₀ L s.heap news) (hd : A.depth + 20 < recursionLimit)
    (I : Links news x dx d qc row mx af) (M : MapIn w news d row)
    (h : ∀ h' tk v, Fr h₀ L h' m → News h₀ L h' ((v, { cls := .type "dict_keys", data := .fields #[.ref d] }) :: news) → R (.ok (.ret (.ref v))) { s with heap := h', toks := tk }) :
    codeAny (model PySem.Challenge.rw_jh0006_01.row.prog w) A (.call (.ref 109) ⟨[.ref x], []⟩) R s := by
  have i1 := I.inst
  have i2 := I.dic
  obtain ⟨od, kvs, m1, m2, m3, m4⟩ := id M
  obtain ⟨B, X, T, hA, hf, hk, hh⟩ := AM
  k_enter
  k_steps
  rename News _ _ _ _ => N3
  rename Fr _ _ _ _ => F3
  exact h _ _ _ F3 N3
end
end Mine
end
section
namespace Mine
section
variable {prog : Program} {w : World} {A : Around} {E : Value → Shared → Prop} {R : Result → Shared → Prop} {s : Shared}
theorem dcp_loop {kx vx target iter : PySem.Expr} {scope : Scope} {pos : Pos} {it : Value} {D : Addr} {env : Env} (I : Nat → Shared → Prop)
    (turn : ∀ n s, I n s → wpAny (model prog w) A (pyNext it) (fun r s₁ => match r with
      | none => R (.ok .next) s₁
      | some v => wpAny (model prog w) A (letOwnedTupleGo target it v) (fun _ s₀ => wpAny (model prog w) A (assign target env v) (fun _ s₂ =>
          wpAny (model prog w) A (eval kx env) (fun kv s₄ => wpAny (model prog w) A (eval vx env) (fun vv s₅ =>
              wpAny (model prog w) A (dictSet D kv vv) (fun _ s₆ => ∃ m, m < n ∧ I m s₆) (notedBy (model prog w) A env fun e s' => R (.error e) s') s₅) (notedBy (model prog w) A env fun e s' => R (.error e) s') s₄) (notedBy (model prog w) A env fun e s' => R (.error e) s') s₂)
            (notedBy (model prog w) A env fun e s' => R (.error e) s') s₀) (notedBy (model prog w) A env fun e s' => R (.error e) s') s₁) (notedBy (model prog w) A env fun e s' => R (.error e) s') s)
    (n : Nat) (h : I n s) :
    codeAny (model prog w) A (.compLoop (.DictComp kx vx [⟨target, iter, [], 0⟩] scope pos) 0 it (.ref D) env) R s := by
  refine codeAny_loop rfl I (fun n s hI => ?_) n h
  show wpAny _ A ((compTurn (.DictComp kx vx [⟨target, iter, [], 0⟩] scope pos) 0 it (.ref D) env).onRaise (fun x => do noteFrame x env; theTreesLotGoes x)) _ _ s
  refine wpAny_noted ?_
  rw [compTurn_dict]
  refine wpAny_bind (wpAny_standAt (wpAny_bind (wpAny_mono (turn n s hI) (fun r s₁ h₁ => ?_) fun _ _ h' => h')))
  cases r with
  | none => exact wpAny_pure h₁
  | some v =>
    refine wpAny_bind (wpAny_mono h₁ (fun _ s₀ h₀' => ?_) fun _ _ h' => h')
    refine wpAny_bind (wpAny_mono h₀' (fun _ s₂ h₂ => ?_) fun _ _ h' => h')
    refine wpAny_bind (wpAny_tests_nil ?_)
    exact wpAny_bind (wpAny_bind (wpAny_mono h₂ (fun kv s₄ h₄ => wpAny_bind (wpAny_holding (wpAny_mono h₄ (fun vv s₅ h₅ => wpAny_bind (wpAny_standAt (wpAny_holding (wpAny_mono h₅ (fun _ s₆ h₆ => wpAny_pure ⟨rfl, h₆⟩) fun _ _ h' => h')))) fun _ _ h' => h'))) fun _ _ h' => h'))
end
theorem stored_new {kvs : List (Int × Value)} {k : Int} {v : Value} (h : k ∉ kvs.map (·.1)) : stored kvs k v = kvs ++ [(k, v)] := by
  unfold stored
  rw [if_neg]
  intro ha
  obtain ⟨p, hp, e⟩ := List.any_eq_true.mp ha
  exact h (List.mem_map.mpr ⟨p, hp, by simpa using e⟩)
section
variable {prog : Program} {w : World} {A : Around} {E : Value → Shared → Prop} {s : Shared} {h₀ : Heap} {L : Addr} {m : Str → Option Value} {env : Env}
theorem dcp_block {kx vx iter : PySem.Expr} {a b : Str} {pa pb tp : Pos} {kk : Nat} {scope : Scope} {cl : List (Str × Addr)} {pos : Pos} {s₂ : Shared} {I d : Addr} {ok ov : Value} {kvs : List (Int × Value)} {ep : Nat} {news : List (Addr × Obj)} (val : Int × Value → Value)
    {RR : Value → Addr → Result → Shared → Prop}
    (hh : A.handled = none) (hne : d ≠ I) (hsz : kvs.length ≤ sizeLine) (hat : s₂.heap.DictAt (intKind prog w) d kvs ep) (hnd : (kvs.map (·.1)).Nodup)
    (hit : IsItemIter s₂.heap I d 0 kvs.length ep ok ov)
    (hcell : ∀ y ∈ scope.names, y.2 ≠ .cell) (hkind : scope.kind = .function) (hxa : scope.names.lookup a = some .local) (hxb : scope.names.lookup b = some .local) (hab : ¬ a = b)
    (F : Fr h₀ L s₂.heap m) (N : News h₀ L s₂.heap news) (hIL : L ≠ I) (hI₀ : h₀.get? I = none) (off : ∀ p ∈ news, p.1 ≠ I)
    (hkey : ∀ C k t x s₃ m₃ E', (k, x) ∈ kvs → s₃.heap.Ns (compEnvC scope cl C env).locals m₃ → m₃ a = some (.int k t) → m₃ b = some x → Fr h₀ L s₃.heap m → News h₀ L s₃.heap news →
      wpAny (model prog w) A (eval kx (compEnvC scope cl C env)) (fun y s₄ => Stop ((∃ t', y = .int k t') ∧ Keeps s₃ s₄)) E' s₃)
    (hval : ∀ C k t x s₃ m₃ E', (k, x) ∈ kvs → s₃.heap.Ns (compEnvC scope cl C env).locals m₃ → m₃ a = some (.int k t) → m₃ b = some x → Fr h₀ L s₃.heap m → News h₀ L s₃.heap news →
      wpAny (model prog w) A (eval vx (compEnvC scope cl C env)) (fun y s₄ => Stop (y = val (k, x) ∧ Keeps s₃ s₄)) E' s₃)
    (hbig : sysModules < h₀.objs.size)
    (hRR : ∀ D C h tk m', (D == sysModules) = false → Fr h₀ L h m → News h₀ L h news → h.DictOf (intKind prog w) D (kvs.map fun p => (p.1, val p)) → h.Ns C m' → h₀.get? C = none → h₀.get? D = none → C ≠ L → D ≠ L → C ≠ D → (∀ p ∈ news, p.1 ≠ C) → (∀ p ∈ news, p.1 ≠ D) → RR (.ref D) C (.ok .next) { s₂ with heap := h, toks := tk }) :
    wpAny (model prog w) A newDict (fun acc s₃ => wpAny (model prog w) A (newFunctionEnv scope env.globals cl [] env.qual none .none (some env)) (fun cenv s₄ =>
      codeAny (model prog w) A (.compStart (.DictComp kx vx [⟨.Tuple [.Name a pa, .Name b pb] kk tp, iter, [], 0⟩] scope pos) 0 (.ref I) acc { cenv with scope := relabel scope env }) (RR acc cenv.locals) s₄) E s₃) E s₂ := by
  refine wpAny_newObj_type (wpAny_newFunctionEnv hcell (by intro y hy; simp at hy) (fun h₁ hns₁ hsb₁ => ?_) hkind)
  dsimp only at hns₁ hsb₁ ⊢
  have hnew : (s₂.heap.push { cls := .type "dict", dict := none, data := .dict #[] }).DictOf (intKind prog w) s₂.heap.objs.size [] := Heap.DictOf.new s₂.heap
  generalize hH2 : s₂.heap.push { cls := .type "dict", dict := none, data := .dict #[] } = H2 at hns₁ hsb₁ hnew ⊢
  have hC : H2.objs.size = s₂.heap.objs.size + 1 := by rw [← hH2, Heap.size_push]
  have hDC : s₂.heap.objs.size ≠ H2.objs.size := by rw [hC]; exact Nat.ne_of_lt (Nat.lt_succ_self _)
  have below : ∀ b, b < s₂.heap.objs.size → b ≠ H2.objs.size ∧ b ≠ s₂.heap.objs.size := fun b hb => ⟨by rw [hC]; exact Nat.ne_of_lt (Nat.lt_succ_of_lt hb), Nat.ne_of_lt hb⟩
  have hIlt : I < s₂.heap.objs.size := Heap.lt_size hit
  have old : ∀ b o, s₂.heap.get? b = some o → h₁.get? b = some o := fun b o e => hsb₁.extBut b o (below b (Heap.lt_size e)).1 (Heap.get?_push_of_some _ (hH2 ▸ Heap.get?_push_of_some _ e))
  have hacc : h₁.DictOf (intKind prog w) s₂.heap.objs.size [] := hnew.at fun o e => hsb₁.extBut _ _ hDC (Heap.get?_push_of_some _ e)
  have hit₁ : IsItemIter h₁ I d 0 kvs.length ep ok ov := old _ _ hit
  have fresh : ∀ a, s₂.heap.objs.size ≤ a → s₂.heap.get? a = none := fun a ha => by
    cases e : s₂.heap.get? a with
    | none => rfl
    | some o' => exact absurd (Heap.lt_size e) (Nat.not_lt.mpr ha)
  have fresh₀ : ∀ a, s₂.heap.objs.size ≤ a → h₀.get? a = none := fun a ha => by
    cases e : h₀.get? a with
    | none => rfl
    | some o' => have := F.keep a o' e; rw [fresh a ha] at this; cases this
  have hD₀ : h₀.get? s₂.heap.objs.size = none := fresh₀ _ (Nat.le_refl _)
  have hC₀ : h₀.get? H2.objs.size = none := fresh₀ _ (by rw [hC]; exact Nat.le_succ _)
  have hLlt : L < s₂.heap.objs.size := F.ns.lt
  have hDL : s₂.heap.objs.size ≠ L := Ne.symm (below L hLlt).2
  have hCL : H2.objs.size ≠ L := Ne.symm (below L hLlt).1
  have hCI : I ≠ H2.objs.size := (below I hIlt).1
  have hDI : I ≠ s₂.heap.objs.size := (below I hIlt).2
  have W := kti_itemsTurns (knd := intKind prog w) (elts := [.Name a pa, .Name b pb]) (kk := kk) (pos := tp) hh I d hne kvs ep
  have dlt : d < s₂.heap.objs.size := by obtain ⟨o, _, ho, _⟩ := id hat; exact Heap.lt_size ho
  have frK : ∀ h : Heap, (∀ b o, b ≠ I → b ≠ H2.objs.size → b ≠ s₂.heap.objs.size → s₂.heap.get? b = some o → h.get? b = some o) → Fr h₀ L h m ∧ News h₀ L h news := fun h hk =>
    ⟨⟨F.ns.at' fun o e => hk _ o hIL (Ne.symm hCL) (Ne.symm hDL) e, fun c o e => hk c o (fun q => by rw [q, hI₀] at e; cases e) (fun q => by rw [q, hC₀] at e; cases e) (fun q => by rw [q, hD₀] at e; cases e) (F.keep c o e), F.above⟩,
     fun p hp => ⟨hk _ _ (off p hp) (below _ (Heap.lt_size (N p hp).1)).1 (below _ (Heap.lt_size (N p hp).1)).2 (N p hp).1, (N p hp).2⟩⟩
  have loop : ∀ s₃ : Shared, s₃ = { s₂ with heap := h₁, toks := s₂.toks + ([] : List (Str × Value)).length } →
      codeAny (model prog w) A (.compLoop (.DictComp kx vx [⟨.Tuple [.Name a pa, .Name b pb] kk tp, iter, [], 0⟩] scope pos) 0 (.ref I) (.ref s₂.heap.objs.size) (compEnvC scope cl H2.objs.size env))
        (RR (.ref s₂.heap.objs.size) H2.objs.size) s₃ := by
    rintro s₃ rfl
    refine dcp_loop
      (fun k s' => ∃ h' tk i m', s' = { s₂ with heap := h', toks := tk } ∧ i ≤ kvs.length ∧ k = kvs.length + 1 - i ∧ (∃ ok ov, IsItemIter h' I d i kvs.length ep ok ov) ∧ h'.Ns H2.objs.size m' ∧
        h'.DictOf (intKind prog w) s₂.heap.objs.size ((kvs.take i).map fun p => (p.1, val p)) ∧ (∀ b o, b ≠ I → b ≠ H2.objs.size → b ≠ s₂.heap.objs.size → s₂.heap.get? b = some o → h'.get? b = some o)) ?_ (kvs.length + 1)
      ⟨h₁, _, 0, _, rfl, Nat.zero_le _, rfl, ⟨_, _, hit₁⟩, hns₁, hacc, fun b o _ _ _ e => old b o e⟩
    rintro k s' ⟨h', tk, i, m', rfl, hi, rfl, hit', hn', hA', hk'⟩
    have hD' : h'.DictAt (intKind prog w) d kvs ep := hat.at' fun o e => hk' d o hne (below d dlt).1 (below d dlt).2 e
    by_cases hlt : i < kvs.length
    · refine W.item i _ _ _ hlt ⟨hit', hD'⟩ fun v h₂ tk₂ hMd hk₂ => ?_
      refine W.go i v _ _ _ hMd fun h₃ hP hst₃ hk₃ => ?_
      obtain ⟨T, key, k, x, rfl, hx, hkey', hT⟩ := hP
      obtain ⟨t, rfl⟩ := Value.isInt_shape hkey'
      have hmem : (k, x) ∈ kvs := List.mem_of_getElem? hx
      have up₃ : ∀ c o, c ≠ I → h'.get? c = some o → h₃.get? c = some o := fun c o hc e => hk₃ c o (by simpa using hc) (hk₂ c o (by simpa using hc) e)
      refine kcp_assign (env := compEnvC scope cl H2.objs.size env) hh hT (lookup_relabel_local hxa) (lookup_relabel_local hxb) (by simp [compEnvC, relabel, hkind]) (hn'.at' fun o e => up₃ _ o (Ne.symm hCI) e) fun h₄ tk₄ hn₄ hs₄ => ?_
      have up : ∀ c o, c ≠ I → c ≠ H2.objs.size → h'.get? c = some o → h₄.get? c = some o := fun c o h1 h2 e => hs₄ c o h2 (up₃ c o h1 e)
      obtain ⟨⟨ok', ov', hI₃⟩, _⟩ := hst₃
      have hI₄ : IsItemIter h₄ I d (i + 1) kvs.length ep ok' ov' := hs₄ I _ hCI hI₃
      have hk4 : ∀ b o, b ≠ I → b ≠ H2.objs.size → b ≠ s₂.heap.objs.size → s₂.heap.get? b = some o → h₄.get? b = some o := fun b o e1 e2 e3 e => up b o e1 e2 (hk' b o e1 e2 e3 e)
      obtain ⟨F₄, N₄⟩ := frK h₄ hk4
      refine wpAny_mono (hkey _ k t x _ _ _ hmem hn₄ (by simp [hab]) (by simp) F₄ N₄) (fun kv s₅ h₅ => ?_) fun _ _ e => e
      obtain ⟨⟨t', rfl⟩, h₅, tk₅, rfl, hk₅⟩ := h₅
      have hk5 : ∀ b o, b ≠ I → b ≠ H2.objs.size → b ≠ s₂.heap.objs.size → s₂.heap.get? b = some o → h₅.get? b = some o := fun b o e1 e2 e3 e => hk₅ b o (hk4 b o e1 e2 e3 e)
      obtain ⟨F₅, N₅⟩ := frK h₅ hk5
      refine wpAny_mono (hval _ k t x _ _ _ hmem (hn₄.keeps hk₅) (by simp [hab]) (by simp) F₅ N₅) (fun vv s₆ h₆ => ?_) fun _ _ e => e
      obtain ⟨rfl, h₆, tk₆, rfl, hk₆⟩ := h₆
      have hA6 : h₆.DictOf (intKind prog w) s₂.heap.objs.size ((kvs.take i).map fun p => (p.1, val p)) := hA'.at fun o e => hk₆ _ o (hk₅ _ o (up _ o (Ne.symm hDI) hDC e))
      refine wpAny_dictSet_pairs (hsz := by simp only [List.length_map, List.length_take]; omega) (intKind_is _ _ _ _) hA6 fun h₇ hl₇ hs₇ => ?_
      have hkv : kvs[i] = (k, x) := Option.some.inj ((List.getElem?_eq_getElem hlt).symm.trans hx)
      have htk : kvs.take (i + 1) = kvs.take i ++ [(k, x)] := by rw [List.take_succ_eq_append_getElem hlt, hkv]
      refine ⟨kvs.length + 1 - (i + 1), by omega, h₇, _, i + 1, _, rfl, hlt, rfl, ⟨ok', ov', ?_⟩, ((hn₄.keeps hk₅).keeps hk₆).sameBut hs₇ (Ne.symm hDC), ?_, fun b o e1 e2 e3 e => hs₇.extBut b o e3 (hk₆ b o (hk5 b o e1 e2 e3 e))⟩
      · exact hs₇.extBut I _ hDI (hk₆ _ _ (hk₅ _ _ hI₄))
      · rw [htk, List.map_append]
        rw [stored_new] at hl₇
        · exact hl₇
        · rw [List.map_map]
          intro hm
          obtain ⟨q, hq, e⟩ := List.mem_map.mp hm
          have e2 := hnd
          rw [← List.take_append_drop (i + 1) kvs, htk, List.map_append, List.map_append] at e2
          have e3 := (List.nodup_append.mp (List.nodup_append.mp e2).1).2.2
          exact e3 _ (List.mem_map.mpr ⟨q, hq, rfl⟩) _ (by simp) e
    · have hin : i = kvs.length := Nat.le_antisymm hi (Nat.not_lt.mp hlt)
      subst hin
      refine W.done _ _ _ ⟨hit', hD'⟩ fun h₂ tk₂ hk₂ => ?_
      obtain ⟨F₂, N₂⟩ := frK h₂ fun b o e1 e2 e3 e => hk₂ b o (by simpa using e1) (hk' b o e1 e2 e3 e)
      rw [List.take_length] at hA'
      exact hRR _ _ h₂ tk₂ _ (F.notModules hbig) F₂ N₂ (hA'.at fun o e => hk₂ _ o (by simpa using Ne.symm hDI) e) (hn'.at' fun o e => hk₂ _ o (by simpa using Ne.symm hCI) e) hC₀ hD₀ hCL hDL (Ne.symm hDC) (fun p hp => (below _ (Heap.lt_size (N p hp).1)).1) (fun p hp => (below _ (Heap.lt_size (N p hp).1)).2)
  exact codeAny_compStart_dict (loop _ rfl) (kcp_self hit₁ (loop _ rfl))
end
end Mine
end
section
namespace Mine
section
variable {prog : Program} {w : World} {A : Around} {E : Value → Shared → Prop} {s : Shared} {h₀ : Heap} {L : Addr} {m : Str → Option Value} {env : Env}
theorem dictcomp_items {kx vx iter : PySem.Expr} {a b : Str} {pa pb tp : Pos} {kk : Nat} {scope : Scope} {cl : List (Str × Addr)} {pos : Pos} {Q : Value → Shared → Prop} {kvs : List (Int × Value)} (val : Int × Value → Value) (_F₀ : Fr h₀ L s.heap m) (hbig : h₀.NoLimit)
    (hh : A.handled = none) (hclos : closureFor scope env = pure cl) (hcell : ∀ y ∈ scope.names, y.2 ≠ .cell) (hkind : scope.kind = .function)
    (hnames : ∀ y ∈ scope.names, y.2 = .local → scope.names.lookup y.1 = some .local) (hxa : scope.names.lookup a = some .local) (hxb : scope.names.lookup b = some .local) (hab : ¬ a = b)
    (h : wpAny (model prog w) A (eval iter env) (fun xv s₁ => Stop (∃ (vw d : Addr) (od : Obj) (news : List (Addr × Obj)), xv = .ref vw ∧ Fr h₀ L s₁.heap m ∧ News h₀ L s₁.heap news ∧
      (vw, ({ cls := .type "dict_items", data := .fields #[.ref d] } : Obj)) ∈ news ∧ (d, od) ∈ news ∧ od.IsDictOf (intKind prog w) kvs ∧ kvs.length ≤ sizeLine ∧
      (∀ C k t x s₃ m₃ E', (k, x) ∈ kvs → s₃.heap.Ns (compEnvC scope cl C env).locals m₃ → m₃ a = some (.int k t) → m₃ b = some x → Fr h₀ L s₃.heap m → News h₀ L s₃.heap news →
        wpAny (model prog w) A (eval kx (compEnvC scope cl C env)) (fun y s₄ => Stop ((∃ t', y = .int k t') ∧ Keeps s₃ s₄)) E' s₃) ∧
      (∀ C k t x s₃ m₃ E', (k, x) ∈ kvs → s₃.heap.Ns (compEnvC scope cl C env).locals m₃ → m₃ a = some (.int k t) → m₃ b = some x → Fr h₀ L s₃.heap m → News h₀ L s₃.heap news →
        wpAny (model prog w) A (eval vx (compEnvC scope cl C env)) (fun y s₄ => Stop (y = val (k, x) ∧ Keeps s₃ s₄)) E' s₃) ∧
      (∀ D od' h' tk, Fr h₀ L h' m → News h₀ L h' ((D, od') :: news) → (∀ q ∈ news, q.1 ≠ D) → (D == sysModules) = false → od'.IsDictOf (intKind prog w) (kvs.map fun p => (p.1, val p)) → Q (.ref D) { s₁ with heap := h', toks := tk }))) E s)
    (hs : ∀ x, foldedSetIterable iter env x = pure x := by intro _; rfl) :
    wpAny (model prog w) A (eval (.DictComp kx vx [⟨.Tuple [.Name a pa, .Name b pb] kk tp, iter, [], 0⟩] scope pos) env) Q E s := by
  rw [arm_eval_DictComp]
  refine wpAny_comprehension_free (use := none) rfl hs hclos hkind hnames (wpAny_mono h (fun xv s₁ h₁ => ?_) fun _ _ e => e)
  obtain ⟨vw, d, od, news, rfl, F, N, hv, hmd, hd, hsz, hkey, hval, hQ⟩ := h₁
  obtain ⟨ep, hat⟩ := KdkAt.of hd
  have hat' := hat.dictAt (N _ hmd).1
  refine wpAny_pyIter_items ⟨_, (N _ hv).1, rfl, rfl⟩ hat' ?_
  refine dcp_block val (RR := fun acc C => compPost (model prog w) A E none Q acc C) hh (Nat.ne_of_lt (Heap.lt_size (N _ hmd).1)) hsz (hat'.at' fun o e => Heap.get?_push_of_some _ e) (isDict_nodup hd) (Heap.get?_push_size _ rfl) hcell hkind hxa hxb hab (F.push _)
    (fun p hp => ⟨Heap.get?_push_of_some _ (N p hp).1, (N p hp).2⟩) (Nat.ne_of_lt F.ns.lt) (next_is_new F) (fun p hp => Nat.ne_of_lt (Heap.lt_size (N p hp).1)) hkey hval (modules_low hbig) ?_
  intro D C h tk m' lo F' N' hA hn hC₀ hD₀ hCL hDL hCD offC offD
  refine ⟨m', hn, fun h'' hs'' => ?_⟩
  have hA2 := hA.at fun o e => hs''.extBut D o (Ne.symm hCD) e
  obtain ⟨od', ho', hd'⟩ := Heap.dictOf_iff.mp hA2
  have F2 := F'.change hs'' hCL hC₀
  refine hQ D od' h'' tk F2 (fun p hp => ?_) offD lo hd'
  rcases List.mem_cons.mp hp with rfl | hp
  · exact ⟨ho', hDL, hD₀⟩
  · exact ⟨hs''.extBut _ _ (offC p hp) (N' p hp).1, (N' p hp).2⟩
end
end Mine
end
theorem Mine.top_off_p29 : True := by
  w_top off
  try walk1
  trivial
section
namespace Mine
theorem chain_node {news : List (Addr × Obj)} {n : Nd} : ∀ {l : List Nd} {pv e : Value}, Chain news pv l e → n ∈ l → ∃ pv' nk', NodeIn news pv' nk' n := by
  intro l
  induction l with
  | nil => intro pv e _ h; exact absurd h List.not_mem_nil
  | cons x r ih =>
    intro pv e hc hm
    rcases List.mem_cons.mp hm with q | q
    · rw [q]; exact ⟨_, _, hc.1⟩
    · exact ih hc.2 q
open Classical in
noncomputable def valOf (row : List Nd) (p : Int × Value) : Value := if h : ∃ n ∈ row, p.2 = .ref n.a then (Classical.choose h).v else .none
theorem valOf_eq {row : List Nd} (hnd : (row.map (·.a)).Nodup) {n : Nd} (hn : n ∈ row) (k : Int) : valOf row (k, .ref n.a) = n.v := by
  have h : ∃ n' ∈ row, (k, Value.ref n.a).2 = .ref n'.a := ⟨n, hn, rfl⟩
  unfold valOf
  rw [dif_pos h]
  have h2 := Classical.choose_spec h
  have e : n.a = (Classical.choose h).a := by have := h2.2; injection this
  have key : ∀ {l : List Nd}, (l.map (·.a)).Nodup → ∀ {x y : Nd}, x ∈ l → y ∈ l → x.a = y.a → x = y := by
    intro l
    induction l with
    | nil => intro _ x _ h; exact absurd h List.not_mem_nil
    | cons z r ih =>
      intro hnd x y hx hy hxy
      rw [List.map_cons, List.nodup_cons] at hnd
      rcases List.mem_cons.mp hx with q1 | q1 <;> rcases List.mem_cons.mp hy with q2 | q2
      · rw [q1, q2]
      · exact absurd (List.mem_map.mpr ⟨y, q2, by rw [← hxy, q1]⟩) hnd.1
      · exact absurd (List.mem_map.mpr ⟨x, q1, by rw [hxy, q2]⟩) hnd.1
      · exact ih hnd.2 q1 q2 hxy
  rw [← key hnd hn h2.1 e]
section
local macro_rules | `(tactic| walk_at "eval DictComp") => `(tactic| (k_here; refine Mine.stop ?_))
local macro_rules | `(tactic| walk_at "getMethod ref") => `(tactic| (k_here; k_dflt (refine kdl_method (knd := PySem.intKind _ _) PySem.F.slot_dict_items PySem.F.type_dict_items (by k_asm) (by k_mem) (by assumption) ?_)))
variable {w : World} {A A₀ : Around} {base h₀ : Heap} {env : Env} {outer : List Env} {L : Addr} {p : Program} {loose : List Str} {mean : ExcName → Option Value} {mg mb m : Str → Option Value} {s : Shared} {news rest : List (Addr × Obj)} {R : Result → Shared → Prop}
variable {x dx d tl : Addr} {qc : K5} {mx af : Value}
theorem C_items {row : List Nd} (AM : Amb w A A₀ base h₀ env outer L p loose mean mg mb) (F : Fr h₀ L s.heap m) (N : News h₀ L s.heap news) (hd : A.depth + 20 < recursionLimit)
    (I : Links news x dx d qc row mx af) (M : MapIn w news d row) (hlen : row.length ≤ 1000) (hvs : ∀ n ∈ row, handedIn n.v = true)
    (h : ∀ h' tk D od kvs, Fr h₀ L h' m → News h₀ L h' ((D, od) :: news) → (∀ q ∈ news, q.1 ≠ D) → (D == sysModules) = false → od.IsDictOf (intKind PySem.Challenge.rw_jh0006_01.row.prog w) kvs → kvs.Perm (row.map fun n => (n.k, n.v)) → R (.ok (.ret (.ref D))) { s with heap := h', toks := tk }) :
    codeAny (model PySem.Challenge.rw_jh0006_01.row.prog w) A (.call (.ref 114) ⟨[.ref x], []⟩) R s := by
  have i1 := I.inst
  have i2 := I.dic
  obtain ⟨od, kvs, m1, m2, m3, m4⟩ := id M
  obtain ⟨B, X, T, hA, hf, hk, hh⟩ := AM
  have hpm : ∀ k' v', (k', v') ∈ kvs → ∃ n ∈ row, n.k = k' ∧ v' = .ref n.a := by
    intro k' v' hm
    obtain ⟨n, hn, e⟩ := List.mem_map.mp (m3.mem_iff.mp hm)
    exact ⟨n, hn, congrArg Prod.fst e, (congrArg Prod.snd e).symm⟩
  k_enter
  k_steps
  refine unstop ?_
  rename Fr _ _ _ _ => F1
  rename News _ _ _ _ => N1
  rename Top _ _ _ _ _ _ => T1
  refine dictcomp_items (cl := []) (kvs := kvs) (valOf row) F1 T1.nolimit hh rfl (by decide) rfl (by decide) rfl rfl (by decide) ?_
  k_steps
  refine unstop ⟨_, d, od, _, rfl, (by assumption), (by assumption), List.mem_cons_self, List.mem_cons_of_mem _ m1, m2, ?_, ?_, ?_, ?_⟩
  · rw [m3.length_eq, List.length_map, sizeLine_eq]; omega
  · intro C k t x' s₃ m₃ E' hm hn ha hb F3 N3
    clear F1 N1
    k_steps
    exact unstop ⟨⟨_, rfl⟩, _, _, rfl, fun _ _ e => e⟩
  · intro C k t x' s₃ m₃ E' hm hn ha hb F3 N3
    obtain ⟨n, hnr, rfl, rfl⟩ := hpm _ _ hm
    obtain ⟨pv, nk, j1, j2⟩ := chain_node I.ch hnr
    have hvn := hvs n hnr
    have N4 := news_sub N3 (news' := news) fun p hp => List.mem_cons_of_mem _ hp
    clear F1 N1 N3
    k_steps
    exact unstop ⟨(valOf_eq I.ia hnr _).symm, _, _, rfl, fun _ _ e => e⟩
  · intro D od' h' tk F3 N3 hD lo hd'
    clear F1 N1
    dsimp only
    k_steps
    rename News _ _ _ _ => N5
    rename Fr _ _ _ _ => F5
    refine h _ _ D od' _ F5 (news_sub N5 (news' := (D, od') :: news) ?_) (fun q hq => hD q (.tail _ hq)) lo hd' ?_
    · intro p hp
      rcases List.mem_cons.mp hp with rfl | hp
      · exact .head _
      · exact .tail _ (.tail _ hp)
    · refine (m3.map _).trans (List.Perm.of_eq ?_)
      rw [List.map_map]
      exact List.map_congr_left fun n hn => by
        show (n.k, valOf row (n.k, .ref n.a)) = (n.k, n.v)
        rw [valOf_eq I.ia hn]
end
end Mine
end
theorem Mine.top_off_p30 : True := by
  w_top off
  try walk1
  trivial
section
namespace Mine
section
variable {prog : Program} {w : World} {A₀ A : Around} {s : Shared} {base h₀ g₀ : Heap} {outer : List Env} {L a : Addr} {m : Str → Option Value} {env : Env} {news : List (Addr × Obj)} {K : Frag} {p : Program} {loose : List Str} {mean : ExcName → Option Value} {mg mb : Str → Option Value}
    {R : Result → Shared → Prop} {name qual : Str} {params : Arguments} {body : List Stmt} {scope : Scope} {dV kV doc pm cdv ct oc : Value} {an od : Option Addr} {osl : Array (Option Value)} {f : Addr} {args : Args} {binds : List (Str × Value)}
theorem Amb.in1 {w : World} {A A₀ : Around} {base h₀ : Heap} {env : Env} {outer : List Env} {L : Addr} {p : Program} {loose : List Str} {mean : ExcName → Option Value} {mg mb : Str → Option Value} (a : Amb w A A₀ base h₀ env outer L p loose mean mg mb) : Amb w A.in1 A₀ base h₀ env outer L p loose mean mg mb :=
  ⟨a.B, a.X, a.T, a.hA, a.hf, a.hk, a.hh⟩
theorem one_frame {env : Env} {L b : Addr} (hf : env.frame = some L) (hm : b ∈ [env].filterMap (·.frame)) : b = L := by
  simp only [List.filterMap_cons, hf, List.filterMap_nil, List.mem_singleton] at hm
  exact hm
theorem code_defS0X (B : Below A₀ base [] h₀) (F : Fr h₀ L s.heap m) (X₀ : K.In h₀) (N : News h₀ L s.heap news) (T : Top p loose mean mg mb h₀) (hA : A.frames = some [env]) (hf : env.frame = some L) (hke : env.scope.kind = .function)
    (ho : K.lookup f = some ⟨oc, od, .func (fnOf name qual params body scope dV kV doc pm an cdv ct), osl⟩) (hcd : codeIn K cdv qual = true) (hroom : A.depth < recursionLimit)
    (hbind : BindsTo s (fnOf name qual params body scope dV kV doc pm an cdv ct) args binds) (hloc : ∀ y ∈ binds, scope.names.lookup y.1 = some .local)
    (h : ∀ g L' h₁, Fr h₀ L g m → Fr g L' h₁ (fun y => binds.reverse.lookup y) → News g L' h₁ news → Below A base [env] g → K.In g → Top p loose mean mg mb g → KtsDicts ([env].filterMap (·.frame)) g →
      wpAny (model prog w) (A.deeper (envOf qual scope L' f cdv)) (execs body (envOf qual scope L' f cdv))
        (fun fl s' => LeaveS0 ([env].filterMap (·.frame)) h₀ L m g R (match fl with | .ret v => v | _ => .none) s')
        (fun e s' => wpAny (model prog w) (A.deeper (envOf qual scope L' f cdv)) (leaving (envOf qual scope L' f cdv) e) (fun _ s'' => R (.error e) s'') (fun e' s'' => R (.error e') s'') s')
        { s with heap := h₁, toks := s.toks + binds.length })
    (hco : scope.isCoroutine = false) (hgen : scope.isGenerator = false) (hk : scope.kind = .function)
    (hcell : ∀ x ∈ scope.names, x.2 ≠ .cell) : codeAny (model prog w) A (.call (.ref f) args) R s := by
  have X := X₀.keeps F.keep
  refine codeAny_call_def (fd := fnOf name qual params body scope dV kV doc pm an cdv ct) (body := body) (binds := binds) hroom (X _ _ ho) rfl (T.nolimit.keeps F.keep) (codeRec_of X hcd) rfl hbind hcell hloc (fun h₁ hns hk₁ => ?_) hco hgen hk
  obtain ⟨FG, B₂, st, _⟩ := groundX (R := R) B F N hA hf hke
  obtain ⟨oL, es, ep, hL, hLd, hLk, hLf⟩ := id F.ns
  have nL : L ∉ news.map (·.1) := fun q => by
    obtain ⟨p, hp, e⟩ := List.mem_map.mp q
    exact (N p hp).2.1 e
  have hLg := hideAll_get (news.map (·.1)) hL nL
  have hNs : ∀ (sl : Array (Option Value)) h', h'.get? L = some { oL with slots := sl } → Heap.Ns h' L m := fun sl h' e => ⟨_, es, ep, e, hLd, hLk, hLf⟩
  refine wpAny_mono (h _ s.heap.objs.size h₁ FG ⟨hns, fun b o e => hk₁ b o (of_hideAll _ e), Nat.le_of_eq (hideAll_size _ _)⟩
    (fun p hp => ⟨hk₁ _ _ (N p hp).1, Nat.ne_of_lt (Heap.lt_size (N p hp).1), hideAll_none _ (List.mem_map_of_mem hp)⟩) B₂ (X₀.keeps st) (T.keeps st) (fun b hb => by
      rw [one_frame hf hb]
      exact ⟨oL, es, ep, hLg, hLd⟩)) (fun fl s' hl => ?_) fun _ _ y => y
  obtain ⟨g', L', m', news', T', F', N', k⟩ := hl
  have nL₀ : h₀.get? L = none := kts_self F
  obtain ⟨sl, hs⟩ := T'.up hLg
  refine k ⟨hNs sl _ (F'.keep _ _ hs), fun b o e => F'.keep b o (T'.other b o (st b o e) (fun q => by
    rw [one_frame hf q, nL₀] at e
    cases e)), F.above⟩ fun p hp => ⟨(N' p hp).1, fun q => ?_, ?_⟩
  · have := (N' p hp).2.2; rw [q, hs] at this; cases this
  · cases q : h₀.get? p.1 with
    | none => rfl
    | some o =>
      obtain ⟨sl', hs'⟩ := T'.up (st _ _ q)
      have := (N' p hp).2.2
      rw [hs'] at this
      cases this
end
section
local macro_rules | `(tactic| k_enter) => `(tactic| (refine code_defS (by k_asm) (by k_asm) (by k_asm) (by k_asm) (by k_asm) (by assumption) (by assumption) (by assumption) (by first | assumption | exact KtsTurn.refl) (by exact Around.frames_deeper (by assumption)) (by k_is) (by k_is) (by k_room) (by first | exact binds_K (by k_in) rfl (by k_is) rfl rfl rfl | exact BindsTo.of_eq rfl) (by exact locs rfl) ?_ (by exact rfl) (by exact rfl) (by exact rfl) (by exact rfl) (by decide); k_whole; intro g' L' h' FG' F' N' B' X' T' D'; (try dsimp only); (try k_fold)))
local macro_rules | `(tactic| walk_at "exec Raise some none") => `(tactic| (k_here; k_dflt (refine Raise_new (by assumption) ?_)))
variable {w : World} {A A₀ : Around} {base h₀ : Heap} {env : Env} {outer : List Env} {L : Addr} {p : Program} {loose : List Str} {mean : ExcName → Option Value} {mg mb m : Str → Option Value} {s : Shared} {news rest : List (Addr × Obj)} {R : Result → Shared → Prop}
variable {x dx d tl : Addr} {qc : K5} {mx af : Value}
theorem C_bad {row : List Nd} (AM : Amb w A A₀ base h₀ env [] L p loose mean mg mb) (F : Fr h₀ L s.heap m) (N : News h₀ L s.heap news) (hd : A.depth + 20 < recursionLimit) (XB : (Mine.hd.heap_1 w.params).In base) (TB : Top p loose mean mg mb base)
    (I : Links news x dx d qc row mx af)
    (h : ∀ h' tk news', Fr h₀ L h' m → News h₀ L h' news' → (∀ p ∈ news, p ∈ news') → R (.ok (.ret (.bool true))) { s with heap := h', toks := tk }) :
    codeAny (model PySem.Challenge.rw_jh0006_01.row.prog w) A (.call (.ref 231) ⟨[.ref x], []⟩) R s := by
  have i1 := I.inst
  have i2 := I.dic
  obtain ⟨B, X, T, hA, hf, hk, hh⟩ := AM
  refine' code_defS0X (env := env) B F X N T hA hf hk ?k6 ?k7 ?k8 ?k9 ?kB ?_ ?c2 ?c3 ?c4 ?c5
  case k6 => k_is
  case k7 => k_is
  case k8 => k_room
  case k9 => first | exact binds_K (by k_in) rfl (by k_is) rfl rfl rfl | exact BindsTo.of_eq rfl
  case kB => exact locs rfl
  case c2 => exact rfl
  case c3 => exact rfl
  case c4 => exact rfl
  case c5 => decide
  intro g' L' h' FG' F' N' B' X' T' D'
  dsimp only
  k_fold
  k_steps
  rename News _ _ _ _ => N5
  rename Fr _ _ _ _ => F5
  exact h _ _ _ F5 N5 (fun p hp => hp)

local macro_rules | `(tactic| walk_at "getItem ref int") => `(tactic| (k_here; k_dflt (refine wpAny_getItem_missing_of (intKind_is _ _ _ _) (by assumption) (by assumption) (kda_dict (by k_asm) (by k_mem) (by assumption)).mapOf (by assumption) ?_); intro h' e' x'))
theorem C_takenM {row : List Nd} {key : Int} {kt : Tok} (AM : Amb w A A₀ base h₀ env [] L p loose mean mg mb) (F : Fr h₀ L s.heap m) (N : News h₀ L s.heap news) (hd : A.depth + 20 < recursionLimit) (XB : (Mine.hd.heap_1 w.params).In base) (TB : Top p loose mean mg mb base)
    (I : Links news x dx d qc row mx af) (M : MapIn w news d row) (hk0 : key ∉ row.map (·.k))
    (h : ∀ h' tk news' t, Fr h₀ L h' m → News h₀ L h' news' → (∀ p ∈ news, p ∈ news') → R (.ok (.ret (.str (Str.ofString "none") t))) { s with heap := h', toks := tk }) :
    codeAny (model PySem.Challenge.rw_jh0006_01.row.prog w) A (.call (.ref 224) ⟨[.ref x, .int key kt], []⟩) R s := by
  have i1 := I.inst
  have i2 := I.dic
  obtain ⟨od, kvs, m1, m2, m3, m4⟩ := id M
  have hva : valueAt kvs key = none := valueAt_none m3 (by rw [List.map_map]; exact hk0)
  obtain ⟨B, X, T, hA, hf, hk, hh⟩ := AM
  refine' code_defS0X (env := env) B F X N T hA hf hk ?k6 ?k7 ?k8 ?k9 ?kB ?_ ?c2 ?c3 ?c4 ?c5
  case k6 => k_is
  case k7 => k_is
  case k8 => k_room
  case k9 => first | exact binds_K (by k_in) rfl (by k_is) rfl rfl rfl | exact BindsTo.of_eq rfl
  case kB => exact locs rfl
  case c2 => exact rfl
  case c3 => exact rfl
  case c4 => exact rfl
  case c5 => decide
  intro g' L' h' FG' F' N' B' X' T' D'
  dsimp only
  k_fold
  k_steps
  rename News _ _ _ _ => N5
  rename Fr _ _ _ _ => F5
  exact h _ _ _ _ F5 N5 (fun p hp => hp)
end
section
local macro_rules | `(tactic| walk_at "call ref") => `(tactic| (k_here; (with_reducible show wpAny _ _ (call (Value.ref _) _ _) _ _ _); refine Mine.stop ?_))
variable {w : World} {A A₀ : Around} {base h₀ : Heap} {env : Env} {outer : List Env} {L : Addr} {p : Program} {loose : List Str} {mean : ExcName → Option Value} {mg mb m : Str → Option Value} {s : Shared} {news rest : List (Addr × Obj)} {R : Result → Shared → Prop}
variable {x dx d tl : Addr} {qc : K5} {mx af : Value}
theorem C_takenE {l1 l2 : List Nd} {n : Nd} {kt : Tok} (AM : Amb w A A₀ base h₀ env outer L p loose mean mg mb) (F : Fr h₀ L s.heap m) (N : News h₀ L s.heap news) (hd : A.depth + 30 < recursionLimit)
    (I : Links news x dx d qc (l1 ++ n :: l2) mx af) (M : MapIn w news d (l1 ++ n :: l2)) (hvn : handedIn n.v = true)
    (h : ∀ h' tk news', Fr h₀ L h' m → News h₀ L h' news' → Links news' x dx d qc (n :: (l1 ++ l2)) mx af → Kept (dx :: (l1 ++ n :: l2).map (·.da)) news news' → R (.ok (.ret n.v)) { s with heap := h', toks := tk }) :
    codeAny (model PySem.Challenge.rw_jh0006_01.row.prog w) A (.call (.ref 224) ⟨[.ref x, .int n.k kt], []⟩) R s := by
  have i1 := I.inst
  have i2 := I.dic
  obtain ⟨B, X, T, hA, hf, hk, hh⟩ := AM
  k_enter
  k_steps
  refine unstop ?_
  rename News _ _ _ _ => N1
  rename Fr _ _ _ _ => F1
  rename Below _ _ _ _ => B1
  rename Top _ _ _ _ _ _ => T1
  rename Frag.In _ _ => X1
  refine wpAny_call (C_gi (Amb.deep hh B1 X1 T1 rfl rfl).in1 F1 N1 (by k_room) I M hvn fun h2 tk2 news2 F2 N2 I2 K2 => ?_)
  clear F1 N1
  dsimp only
  k_steps
  rename News _ _ _ _ => N3
  rename Fr _ _ _ _ => F3
  exact h _ _ _ F3 N3 I2 K2
end
end Mine
end
section
namespace Mine
def StIn (news : List (Addr × Obj)) (st sl : Addr) (pl : Int) : Prop := ∃ us ys z tz tp n1 n2, (st, W.listOf #[.ref sl, .int pl tp, .int z tz] n1) ∈ news ∧ (sl, W.listOf (List.toArray us) n2) ∈ news ∧ IntsAre us ys ∧ ys.length ≤ 60 ∧ 0 ≤ z ∧ z < 997
theorem kept_cons_offs {D : List Addr} {ex news : List (Addr × Obj)} : Kept D news (ex ++ offs D news) := kept_app
section
variable {w : World} {A A₀ : Around} {base h₀ : Heap} {env : Env} {outer : List Env} {L : Addr} {p : Program} {loose : List Str} {mean : ExcName → Option Value} {mg mb m : Str → Option Value} {s : Shared} {news rest : List (Addr × Obj)} {R : Result → Shared → Prop}
variable {st sl : Addr}
theorem C_nextS {pl size : Int} {tk : Tok} (AM : Amb w A A₀ base h₀ env outer L p loose mean mg mb) (F : Fr h₀ L s.heap m) (N : News h₀ L s.heap news) (hd : A.depth + 20 < recursionLimit)
    (S : StIn news st sl pl) (hp : 0 ≤ pl ∧ pl < 2000) (hs : 0 < size ∧ size < 20)
    (h : ∀ h' tk' news' r tr, 0 ≤ r → r < size → Fr h₀ L h' m → News h₀ L h' news' → StIn news' st sl (pl + 1) → Kept [st] news news' → R (.ok (.ret (.int r tr))) { s with heap := h', toks := tk' }) :
    codeAny (model PySem.Challenge.rw_jh0006_01.row.prog w) A (.call (.ref 186) ⟨[.ref st, .int size tk], []⟩) R s := by
  obtain ⟨us, ys, z, tz, tp, n1, n2, h1, h2, hi, hl, hz0, hz1⟩ := S
  refine C_next AM F N hd h1 h2 hi ⟨hz0, hz1⟩ hp hl hs fun h' tk' r tr tp' hr0 hr1 F' N' => h h' tk' _ r tr hr0 hr1 F' N' ⟨us, ys, z, tz, tp', n1, n2, .head _, .tail _ (mem_offs.mpr ⟨h2, ?_⟩), hi, hl, hz0, hz1⟩ (kept_app (ex := [_]))
  simp only [List.mem_singleton]
  rintro rfl
  have e := congrArg (fun o => match o.data with | .seq xs _ => xs.toList | _ => []) (news_fun N h1 h2)
  have e2 : [Value.ref sl, Value.int pl tp, Value.int z tz] = us := e
  rw [← e2] at hi
  cases hi
end
/-- what the row's entries are, beside the cache's -/
def sigN (n : Nd) : Int × Value × Bool := (n.k, n.v, !decide (n.cb = .none))
def sigE (e : Ent) : Int × Value × Bool := (e.k, e.v, e.t)
def Same (row : List Nd) (ents : List Ent) : Prop := row.map sigN = ents.map sigE
theorem Same.len {row : List Nd} {ents : List Ent} (S : Same row ents) : row.length = ents.length := by
  have := congrArg List.length S
  simpa using this
theorem Same.keys {row : List Nd} {ents : List Ent} (S : Same row ents) : row.map (·.k) = ents.map (·.k) := by
  have := congrArg (List.map fun t : Int × Value × Bool => t.1) S
  simpa [List.map_map, Function.comp_def, sigN, sigE] using this
theorem Same.kv {row : List Nd} {ents : List Ent} (S : Same row ents) : row.map (fun n => (n.k, n.v)) = ents.map fun e => (e.k, e.v) := by
  have := congrArg (List.map fun t : Int × Value × Bool => (t.1, t.2.1)) S
  simpa [List.map_map, Function.comp_def, sigN, sigE] using this
theorem Same.take {row : List Nd} {ents : List Ent} (S : Same row ents) (k : Nat) : Same (row.take k) (ents.take k) := by
  unfold Same at *
  rw [List.map_take, List.map_take, S]
theorem Same.drop {row : List Nd} {ents : List Ent} (S : Same row ents) (k : Nat) : Same (row.drop k) (ents.drop k) := by
  unfold Same at *
  rw [List.map_drop, List.map_drop, S]
theorem Same.reverse {row : List Nd} {ents : List Ent} (S : Same row ents) : Same row.reverse ents.reverse := by
  unfold Same at *
  rw [List.map_reverse, List.map_reverse, S]
def tellsS (t : Int × Value × Bool) : List (Int × Value) := if t.2.2 then [(t.1, t.2.1)] else []
theorem tells_sig (n : Nd) : tells n = tellsS (sigN n) := by
  unfold tells tellsS sigN
  by_cases h : n.cb = .none <;> simp [h]
theorem eTells_sig (e : Ent) : eTells e = tellsS (sigE e) := rfl
theorem Same.tells {row : List Nd} {ents : List Ent} (S : Same row ents) : row.flatMap tells = ents.flatMap eTells := by
  have e1 : row.flatMap Mine.tells = (row.map sigN).flatMap tellsS := by rw [List.flatMap_map]; exact congrArg (fun f => List.flatMap f row) (funext tells_sig)
  have e2 : ents.flatMap eTells = (ents.map sigE).flatMap tellsS := by rw [List.flatMap_map]; rfl
  rw [e1, e2, S]
theorem Same.filter {row : List Nd} {ents : List Ent} (S : Same row ents) (f : Int → Bool) : Same (row.filter fun n => f n.k) (ents.filter fun e => f e.k) := by
  unfold Same at *
  have e1 : (row.filter fun n => f n.k).map sigN = (row.map sigN).filter fun t => f t.1 := by rw [List.filter_map]; rfl
  have e2 : (ents.filter fun n => f n.k).map sigE = (ents.map sigE).filter fun t => f t.1 := by rw [List.filter_map]; rfl
  rw [e1, e2, S]
theorem Same.cons {row : List Nd} {ents : List Ent} {n : Nd} {e : Ent} (S : Same row ents) (h : sigN n = sigE e) : Same (n :: row) (e :: ents) := by
  unfold Same at *
  rw [List.map_cons, List.map_cons, S, h]
theorem Same.add {row : List Nd} {ents : List Ent} {n : Nd} {e : Ent} (S : Same row ents) (h : sigN n = sigE e) (hk : n.k = e.k) : Same (addRow row n) (e :: ents.filter fun x => x.k ≠ e.k) := by
  have h2 := S.filter (fun k => decide (k ≠ e.k))
  unfold addRow
  rw [hk]
  exact Same.cons h2 h
theorem Same.addTell {row : List Nd} {ents : List Ent} (S : Same row ents) (k : Int) : Mine.addTell row k = (ents.filter fun x => x.k = k).flatMap eTells := (S.filter (fun j => decide (j = k))).tells
theorem Same.cut {row : List Nd} {ents : List Ent} (S : Same row ents) (M af : Int) : Same (cutRow M af row) (cutEnt M af ents) ∧ cutTell M af row = cutETell M af ents := by
  unfold cutRow cutEnt cutTell cutETell
  rw [S.len]
  split
  · exact ⟨S.take _, (S.drop _).reverse.tells⟩
  · exact ⟨S, rfl⟩
def leastOf (r : Int) : Option Int := if r = 0 then none else if r = 1 then some 0 else if r = 2 then some 1 else if r = 3 then some 3 else some 9
def leastOf4 (r : Int) : Option Int := if r = 0 then none else if r = 1 then some 0 else if r = 2 then some 2 else some 5
def tcOf (r : Int) (a b c d : Tok) : Tok := if r = 1 then a else if r = 2 then b else if r = 3 then c else d
theorem five_at {r : Int} {a b c d : Tok} (h0 : 0 ≤ r) (h5 : r < 5) : [Value.none, .int 0 a, .int 1 b, .int 3 c, .int 9 d][r.toNat]? = some (lsV (leastOf r) (tcOf r a b c d)) := by
  have : r = 0 ∨ r = 1 ∨ r = 2 ∨ r = 3 ∨ r = 4 := by omega
  rcases this with rfl | rfl | rfl | rfl | rfl <;> rfl
theorem four_at {r : Int} {a b c d : Tok} (h0 : 0 ≤ r) (h4 : r < 4) : [Value.none, .int 0 a, .int 2 b, .int 5 c][r.toNat]? = some (lsV (leastOf4 r) (tcOf r a b c d)) := by
  have : r = 0 ∨ r = 1 ∨ r = 2 ∨ r = 3 := by omega
  rcases this with rfl | rfl | rfl | rfl <;> rfl
theorem leastOf_nonneg {r : Int} : ∀ c, leastOf r = some c → 0 ≤ c := by
  intro c h
  unfold leastOf at h
  split at h
  · cases h
  · split at h
    · injection h with h; omega
    · split at h
      · injection h with h; omega
      · split at h
        · injection h with h; omega
        · injection h with h; omega
theorem leastOf4_nonneg {r : Int} : ∀ c, leastOf4 r = some c → 0 ≤ c := by
  intro c h
  unfold leastOf4 at h
  split at h
  · cases h
  · split at h
    · injection h with h; omega
    · split at h
      · injection h with h; omega
      · injection h with h; omega
theorem afOf_le {M : Int} {o : Option Int} (hM : 0 ≤ M) : afOf M o ≤ M := by
  unfold afOf
  cases o with
  | none => dsimp only; rw [Int.fdiv_eq_ediv_of_nonneg _ (by decide)]; omega
  | some c => dsimp only; split <;> omega
end Mine
end
section
namespace Mine
def ValIn (news : List (Addr × Obj)) (v : Value) : Prop := ∃ a i t j u, v = .ref a ∧ (a, tuO [.int i t, .int j u]) ∈ news
/-- a node's callback, whose objects are no iterators -/
def CbN (w : World) (tl P I : Addr) (news : List (Addr × Obj)) (n : Nd) : Prop :=
  handedIn n.v = true ∧ (n.cb = .none ∨ ∃ f lam, n.cb = .ref f ∧ CbOk w f tl lam ∧ ∀ p ∈ lam, p ∈ news ∧ p.1 ≠ P ∧ p.1 ≠ I)
/-- the code's own table: empty, or with the lambda's code -/
def TabIn (P I : Addr) (la lb : Value) (ql : Str) (nw : List (Addr × Obj)) : Prop :=
  ∃ ps, (P, tabObj ps) ∈ nw ∧ (ps = #[] ∨ ∃ c' oc vs t, ps = #[la, lb, .ref c'] ∧ (c', oc) ∈ nw ∧ oc.data = .fields vs ∧ vs[1]? = some (.str ql t) ∧ c' ≠ P ∧ c' ≠ I)
theorem TabIn.sub {P I : Addr} {la lb : Value} {ql : Str} {nw nw' : List (Addr × Obj)} (T : TabIn P I la lb ql nw) (h : ∀ a o xs, (a, o) ∈ nw → o.data = .fields xs → (a = P ∨ a ≠ I) → (a, o) ∈ nw') : TabIn P I la lb ql nw' := by
  obtain ⟨ps, h1, h2⟩ := T
  refine ⟨ps, h _ _ _ h1 rfl (.inl rfl), h2.imp id ?_⟩
  rintro ⟨c', oc, vs, t, e, hc, hd, hv, hp, hi⟩
  exact ⟨c', oc, vs, t, e, h _ _ _ hc hd (.inr hi), hd, hv, hp, hi⟩
theorem CbN.toIn {w : World} {tl P I : Addr} {news : List (Addr × Obj)} {n : Nd} (C : CbN w tl P I news n) : CbIn w tl news n :=
  ⟨C.1, C.2.imp id fun ⟨f, lam, e, c, hl⟩ => ⟨f, lam, e, c, fun p hp => (hl p hp).1⟩⟩
/-- what stands between the deeds -/
structure LInv (w : World) (la lb : Value) (ql : Str) (X : List (Addr × Obj)) (cell st sl x dx d rl gl tl sz P I : Addr) (qc : K5) (nw : List (Addr × Obj)) (pl : Int) (row : List Nd) (ents : List Ent) (G G' : List (Int × Value)) (M af : Int) : Prop where
  S : StIn nw st sl pl
  Lk : ∃ tm ta, Links nw x dx d qc row (.int M tm) (.int af ta)
  Mp : MapIn w nw d row
  Rw : RowIn nw rl ents
  Tl : ToldIn nw tl G
  Tg : ToldIn nw gl G'
  cb : ∀ n ∈ row, CbN w tl P I nw n
  val : ∀ n ∈ row, ValIn nw n.v
  szt : ∃ t u, (sz, tuO [.int M t, .int af u]) ∈ nw
  cel : ∃ o, (cell, o) ∈ nw ∧ o.data = .cell (some (.ref tl))
  tab : TabIn P I la lb ql nw
  ex : ∀ p ∈ X, p ∈ nw ∧ (∃ xs, p.2.data = .fields xs) ∧ p.1 ≠ P
  nI : cell ≠ I ∧ P ≠ I
  ne : rl ≠ gl ∧ rl ≠ tl ∧ gl ≠ tl ∧ st ≠ rl ∧ st ≠ gl ∧ st ≠ tl ∧ sl ≠ rl ∧ sl ≠ gl ∧ sl ≠ tl ∧ sl ≠ st
section
variable {w : World} {la lb : Value} {ql : Str} {X : List (Addr × Obj)} {cell st sl x dx d rl gl tl sz P I : Addr} {qc : K5} {nw nw' : List (Addr × Obj)} {pl : Int} {row row' : List Nd} {ents ents' : List Ent} {G G' G2 : List (Int × Value)} {M af M' af' : Int} {h₀ h : Heap} {L : Addr} {D : List Addr}
/-- an object that is no list is not at a list's address -/
theorem off_lists (N : News h₀ L h nw) (hD : ∀ a ∈ D, ∃ xs n, (a, W.listOf xs n) ∈ nw) {a : Addr} {o : Obj} (hm : (a, o) ∈ nw) (hc : o.cls ≠ .type "list") : a ∉ D := fun q => by
  obtain ⟨xs, n, hx⟩ := hD a q
  exact hc (congrArg Obj.cls (news_fun N hm hx))
theorem kept_any (K : Kept D nw nw') (N : News h₀ L h nw) (hD : ∀ a ∈ D, ∃ xs n, (a, W.listOf xs n) ∈ nw) {a : Addr} {o : Obj} (hm : (a, o) ∈ nw) (hc : o.cls ≠ .type "list") : (a, o) ∈ nw' := K _ hm (off_lists N hD hm hc)
theorem off_seq (N : News h₀ L h nw) (hD : ∀ a ∈ D, ∃ xs n, (a, W.listOf xs n) ∈ nw) {a : Addr} {o : Obj} (hm : (a, o) ∈ nw) (hc : ∀ xs n, o.data ≠ .seq xs n) : a ∉ D := fun q => by
  obtain ⟨xs, n, hx⟩ := hD a q
  exact hc _ _ (congrArg Obj.data (news_fun N hm hx))
theorem kept_seq (K : Kept D nw nw') (N : News h₀ L h nw) (hD : ∀ a ∈ D, ∃ xs n, (a, W.listOf xs n) ∈ nw) {a : Addr} {o : Obj} {xs : Array Value} (hm : (a, o) ∈ nw) (hc : o.data = .fields xs) : (a, o) ∈ nw' := K _ hm (off_seq N hD hm fun _ _ e => by rw [hc] at e; cases e)
theorem tup_cls (vs : List Value) : (tuO vs).cls ≠ .type "list" := by simp
theorem told_kept {a : Addr} (K : Kept D nw nw') (N : News h₀ L h nw) (hD : ∀ a ∈ D, ∃ xs n, (a, W.listOf xs n) ∈ nw) (T : ToldIn nw a G) (ha : a ∉ D) : ToldIn nw' a G := by
  obtain ⟨gs, gn, h1, h2⟩ := T
  exact ⟨gs, gn, K _ h1 ha, h2.mono fun a vs hm => kept_any K N hD hm (tup_cls vs)⟩
theorem row_kept (K : Kept D nw nw') (N : News h₀ L h nw) (hD : ∀ a ∈ D, ∃ xs n, (a, W.listOf xs n) ∈ nw) (T : RowIn nw rl ents) (ha : rl ∉ D) : RowIn nw' rl ents :=
  ⟨T.1.elim fun n h => ⟨n, K _ h ha⟩, fun e he => kept_any K N hD (T.2 e he) (tup_cls _)⟩
theorem st_kept (K : Kept D nw nw') (T : StIn nw st sl pl) (h1 : st ∉ D) (h2 : sl ∉ D) : StIn nw' st sl pl := by
  obtain ⟨us, ys, z, tz, tp, n1, n2, a1, a2, a3⟩ := T
  exact ⟨us, ys, z, tz, tp, n1, n2, K _ a1 h1, K _ a2 h2, a3⟩
theorem cb_kept {n : Nd} (K : Kept D nw nw') (N : News h₀ L h nw) (hD : ∀ a ∈ D, ∃ xs n, (a, W.listOf xs n) ∈ nw) (C : CbN w tl P I nw n) : CbN w tl P I nw' n := by
  refine ⟨C.1, C.2.imp id ?_⟩
  rintro ⟨f, lam, e, c, hl⟩
  refine ⟨f, lam, e, c, fun p hp => ⟨K _ (hl p hp).1 fun q => ?_, (hl p hp).2⟩⟩
  obtain ⟨xs, n, hx⟩ := hD _ q
  have e2 := news_fun N (hl p hp).1 hx
  exact (c.2.1 p hp).2 xs n (by rw [e2])
theorem tab_kept (K : Kept D nw nw') (N : News h₀ L h nw) (hD : ∀ a ∈ D, ∃ xs n, (a, W.listOf xs n) ∈ nw) (T : TabIn P I la lb ql nw) : TabIn P I la lb ql nw' :=
  T.sub fun _ _ _ hm hd _ => kept_seq K N hD hm hd
theorem val_kept {v : Value} (K : Kept D nw nw') (N : News h₀ L h nw) (hD : ∀ a ∈ D, ∃ xs n, (a, W.listOf xs n) ∈ nw) (V : ValIn nw v) : ValIn nw' v := by
  obtain ⟨a, i, t, j, u, e, hm⟩ := V
  exact ⟨a, i, t, j, u, e, kept_any K N hD hm (tup_cls _)⟩
theorem links_kept {mx af : Value} (K : Kept D nw nw') (N : News h₀ L h nw) (hD : ∀ a ∈ D, ∃ xs n, (a, W.listOf xs n) ∈ nw) (J : Links nw x dx d qc row mx af) : Links nw' x dx d qc row mx af := by
  refine J.kept K (off_lists N hD J.inst (by simp [instObj])) (off_lists N hD J.dic (by simp [dictOf])) fun m hm => ?_
  obtain ⟨pv, nk, j⟩ := chain_node J.ch hm
  exact ⟨off_lists N hD j.1 (by simp [instObj]), off_lists N hD j.2 (by simp [dictOf])⟩
theorem map_kept (K : Kept D nw nw') (N : News h₀ L h nw) (hD : ∀ a ∈ D, ∃ xs n, (a, W.listOf xs n) ∈ nw) (Mp : MapIn w nw d row) : MapIn w nw' d row := by
  refine Mp.kept K ?_
  obtain ⟨od, kvs, a, b, _, _⟩ := Mp
  intro q
  obtain ⟨xs, n, hx⟩ := hD _ q
  obtain ⟨es, ep, hc, hd, _⟩ := b
  have e := congrArg Obj.data (news_fun N a hx)
  rw [hd] at e
  cases e
variable (V : LInv w la lb ql X cell st sl x dx d rl gl tl sz P I qc nw pl row ents G G' M af)
include V
theorem LInv.lists : (∃ xs n, (rl, W.listOf xs n) ∈ nw) ∧ (∃ xs n, (gl, W.listOf xs n) ∈ nw) ∧ (∃ xs n, (tl, W.listOf xs n) ∈ nw) ∧ (∃ xs n, (st, W.listOf xs n) ∈ nw) := by
  obtain ⟨⟨n, h1⟩, _⟩ := V.Rw
  obtain ⟨gs, gn, h2, _⟩ := V.Tg
  obtain ⟨ts, tn, h3, _⟩ := V.Tl
  obtain ⟨us, ys, z, tz, tp, n1, n2, a1, a2, a3⟩ := V.S
  exact ⟨⟨_, _, h1⟩, ⟨_, _, h2⟩, ⟨_, _, h3⟩, ⟨_, _, a1⟩⟩
theorem LInv.hL (hD : ∀ a ∈ D, a = rl ∨ a = gl ∨ a = st) : ∀ a ∈ D, ∃ xs n, (a, W.listOf xs n) ∈ nw := fun a ha => by
  obtain ⟨l1, l2, l3, l4⟩ := V.lists
  rcases hD a ha with e | e | e <;> rw [e]
  · exact l1
  · exact l2
  · exact l4
/-- a step that writes to the lists at D -/
theorem LInv.step {pl' : Int} {G3 : List (Int × Value)} (N : News h₀ L h nw) (K : Kept D nw nw') (hD : ∀ a ∈ D, a = rl ∨ a = gl ∨ a = st) (S' : StIn nw' st sl pl') (Rw' : RowIn nw' rl ents') (Tg' : ToldIn nw' gl G3) :
    LInv w la lb ql X cell st sl x dx d rl gl tl sz P I qc nw' pl' row ents' G G3 M af := by
  obtain ⟨q1, q2, q3, q4, q5, q6, q7, q8, q9, q10⟩ := V.ne
  have hL := V.hL hD
  have off : ∀ a, a ≠ rl → a ≠ gl → a ≠ st → a ∉ D := fun a h1 h2 h3 q => by
    rcases hD a q with e | e | e
    · exact h1 e
    · exact h2 e
    · exact h3 e
  obtain ⟨tm, ta, hI⟩ := V.Lk
  obtain ⟨t, u, hs⟩ := V.szt
  obtain ⟨o, hc, ho⟩ := V.cel
  refine ⟨S', ⟨tm, ta, links_kept K N hL hI⟩, map_kept K N hL V.Mp, Rw', told_kept K N hL V.Tl (off _ (Ne.symm q2) (Ne.symm q3) (Ne.symm q6)), Tg', fun n hn => cb_kept K N hL (V.cb n hn), fun n hn => val_kept K N hL (V.val n hn), ⟨t, u, kept_any K N hL hs (tup_cls _)⟩, ⟨o, K _ hc ?_, ho⟩, tab_kept K N hL V.tab, fun p hp => ⟨(V.ex p hp).2.1.elim fun xs hx => kept_seq K N hL (V.ex p hp).1 hx, (V.ex p hp).2⟩, V.nI, V.ne⟩
  intro q
  obtain ⟨xs, n, hx⟩ := hL _ q
  have e := congrArg Obj.data (news_fun N hc hx)
  rw [ho] at e
  cases e
theorem LInv.next {pl' : Int} (N : News h₀ L h nw) (K : Kept [st] nw nw') (S' : StIn nw' st sl pl') : LInv w la lb ql X cell st sl x dx d rl gl tl sz P I qc nw' pl' row ents G G' M af := by
  obtain ⟨q1, q2, q3, q4, q5, q6, q7, q8, q9, q10⟩ := V.ne
  have hD : ∀ a ∈ [st], a = rl ∨ a = gl ∨ a = st := fun a ha => .inr (.inr (List.mem_singleton.mp ha))
  exact V.step N K hD S' (row_kept K N (V.hL hD) V.Rw (by simpa using Ne.symm q4)) (told_kept K N (V.hL hD) V.Tg (by simpa using Ne.symm q5))
theorem LInv.rowgone {G3 : List (Int × Value)} (N : News h₀ L h nw) (K : Kept [rl, gl] nw nw') (Rw' : RowIn nw' rl ents') (Tg' : ToldIn nw' gl G3) : LInv w la lb ql X cell st sl x dx d rl gl tl sz P I qc nw' pl row ents' G G3 M af := by
  obtain ⟨q1, q2, q3, q4, q5, q6, q7, q8, q9, q10⟩ := V.ne
  have hD : ∀ a ∈ [rl, gl], a = rl ∨ a = gl ∨ a = st := fun a ha => by
    simp only [List.mem_cons, List.not_mem_nil, or_false] at ha
    exact ha.elim .inl fun e => .inr (.inl e)
  exact V.step N K hD (st_kept K V.S (by simp [q4, q5]) (by simp [q7, q8])) Rw' Tg'
theorem LInv.rowonly (N : News h₀ L h nw) (K : Kept [rl] nw nw') (Rw' : RowIn nw' rl ents') : LInv w la lb ql X cell st sl x dx d rl gl tl sz P I qc nw' pl row ents' G G' M af := by
  obtain ⟨q1, q2, q3, q4, q5, q6, q7, q8, q9, q10⟩ := V.ne
  have hD : ∀ a ∈ [rl], a = rl ∨ a = gl ∨ a = st := fun a ha => .inl (List.mem_singleton.mp ha)
  exact V.step N K hD (st_kept K V.S (by simp [q4]) (by simp [q7])) Rw' (told_kept K N (V.hL hD) V.Tg (by simpa using Ne.symm q1))
theorem LInv.more (N : News h₀ L h nw) (K : ∀ p ∈ nw, p ∈ nw') : LInv w la lb ql X cell st sl x dx d rl gl tl sz P I qc nw' pl row ents G G' M af := by
  have K' : Kept [] nw nw' := fun p hp _ => K p hp
  have hD : ∀ a ∈ ([] : List Addr), a = rl ∨ a = gl ∨ a = st := fun a ha => absurd ha List.not_mem_nil
  exact V.step N K' hD (st_kept K' V.S List.not_mem_nil List.not_mem_nil) (row_kept K' N (V.hL hD) V.Rw List.not_mem_nil) (told_kept K' N (V.hL hD) V.Tg List.not_mem_nil)
/-- a deed on the cache: all but the dicts and the told list stays -/
theorem LInv.cache {M' af' : Int} (N : News h₀ L h nw) (K : KeptT tl nw nw') (Lk' : ∃ tm ta, Links nw' x dx d qc row' (.int M' tm) (.int af' ta)) (Mp' : MapIn w nw' d row') (Tl' : ToldIn nw' tl G2) (cb' : ∀ n ∈ row', CbN w tl P I nw n) (val' : ∀ n ∈ row', ValIn nw n.v)
    {sz' : Addr} (szt' : ∃ t u, (sz', tuO [.int M' t, .int af' u]) ∈ nw') :
    LInv w la lb ql X cell st sl x dx d rl gl tl sz' P I qc nw' pl row' ents G2 G' M' af' := by
  obtain ⟨q1, q2, q3, q4, q5, q6, q7, q8, q9, q10⟩ := V.ne
  obtain ⟨ts, tn, ht, _⟩ := V.Tl
  obtain ⟨o, hc, ho⟩ := V.cel
  have tup := K.tup N ht
  have lst : ∀ {a xs n}, (a, W.listOf xs n) ∈ nw → a ≠ tl → (a, W.listOf xs n) ∈ nw' := fun hm hne => K _ hm (fun _ _ e => nomatch e) hne
  have fld : ∀ {a o ys}, (a, o) ∈ nw → o.data = .fields ys → (a, o) ∈ nw' := fun {a o ys} hm hd => K _ hm (fun es n e => by rw [hd] at e; cases e) fun q => by
    have hm' : (tl, o) ∈ nw := by rw [← show a = tl from q]; exact hm
    have e := congrArg Obj.data (news_fun N hm' ht)
    rw [hd] at e
    cases e
  refine ⟨?_, Lk', Mp', ⟨V.Rw.1.elim fun n h => ⟨n, lst h q2⟩, fun e he => tup _ _ (V.Rw.2 e he)⟩, Tl', ?_, fun n hn => ?_, ?_, szt', ⟨o, K _ hc (fun _ _ e => by rw [ho] at e; cases e) ?_, ho⟩, V.tab.sub fun _ _ _ hm hd _ => fld hm hd, fun p hp => ⟨(V.ex p hp).2.1.elim fun xs hx => fld (V.ex p hp).1 hx, (V.ex p hp).2⟩, V.nI, V.ne⟩
  · obtain ⟨us, ys, z, tz, tp, n1, n2, a1, a2, a3⟩ := V.S
    exact ⟨us, ys, z, tz, tp, n1, n2, lst a1 q6, lst a2 q9, a3⟩
  · obtain ⟨gs, gn, h1, h2⟩ := V.Tg
    exact ⟨gs, gn, lst h1 q3, h2.mono tup⟩
  · obtain ⟨c1, c2⟩ := cb' n hn
    refine ⟨c1, c2.imp id ?_⟩
    rintro ⟨f, lam, e, c, hl⟩
    refine ⟨f, lam, e, c, fun p hp => ⟨K _ (hl p hp).1 (c.2.1 p hp).1 fun q => ?_, (hl p hp).2⟩⟩
    have hm : (tl, p.2) ∈ nw := by rw [← q]; exact (hl p hp).1
    exact (c.2.1 p hp).2 _ _ (congrArg Obj.data (news_fun N hm ht))
  · intro n hn
    obtain ⟨a, i, t, j, u, e, hm⟩ := val' n hn
    exact ⟨a, i, t, j, u, e, tup _ _ hm⟩
  · intro q
    have e := congrArg Obj.data (news_fun N hc (q ▸ ht))
    rw [ho] at e
    cases e
end
end Mine
end
section
namespace Mine
section
variable {w : World} {la lb : Value} {ql : Str} {X : List (Addr × Obj)} {cell st sl x dx d rl gl tl sz P I : Addr} {qc : K5} {nw nw' : List (Addr × Obj)} {pl : Int} {row row' : List Nd} {ents ents' : List Ent} {G G' G2 : List (Int × Value)} {M af M' af' : Int} {h₀ h : Heap} {L : Addr} {D : List Addr}
theorem Grow.obj {a : Addr} {o : Obj} (g : Grow I nw nw') (hm : (a, o) ∈ nw) (hc : ¬ IsIt o.cls) : (a, o) ∈ nw' := g _ hm (.inr hc)
theorem not_it_ref (a : Addr) : ¬ IsIt (.ref a) := by unfold IsIt; simp
theorem not_it_dict : ¬ IsIt (.type "dict") := by unfold IsIt; simp
theorem links_grow {mx af : Value} (g : Grow I nw nw') (J : Links nw x dx d qc row mx af) : Links nw' x dx d qc row mx af := by
  refine ⟨g.obj J.inst (not_it_ref _), g.obj J.dic not_it_dict, ?_, J.adr, J.ia, J.ins⟩
  have key : ∀ {l : List Nd} {pv e : Value}, Chain nw pv l e → Chain nw' pv l e := by
    intro l
    induction l with
    | nil => intro pv e _; trivial
    | cons n r ih =>
      intro pv e hc
      exact ⟨⟨g.obj hc.1.1 (not_it_ref _), g.obj hc.1.2 not_it_dict⟩, ih hc.2⟩
  exact key J.ch
theorem map_grow (g : Grow I nw nw') (Mp : MapIn w nw d row) : MapIn w nw' d row := by
  obtain ⟨od, kvs, a, b, c, e⟩ := Mp
  refine ⟨od, kvs, g.obj a ?_, b, c, e⟩
  obtain ⟨es, ep, hc, _⟩ := b
  rw [hc.1]
  exact not_it_dict
theorem cb_grow {n : Nd} (g : Grow I nw nw') (C : CbN w tl P I nw n) : CbN w tl P I nw' n :=
  ⟨C.1, C.2.imp id fun ⟨f, lam, e, c, hl⟩ => ⟨f, lam, e, c, fun p hp => ⟨g _ (hl p hp).1 (.inl (hl p hp).2.2), (hl p hp).2⟩⟩⟩
theorem LInv.grow (V : LInv w la lb ql X cell st sl x dx d rl gl tl sz P I qc nw pl row ents G G' M af) (g : Grow I nw nw') : LInv w la lb ql [] cell st sl x dx d rl gl tl sz P I qc nw' pl row ents G G' M af := by
  obtain ⟨tm, ta, hI⟩ := V.Lk
  obtain ⟨t, u, hs⟩ := V.szt
  obtain ⟨o, hc, ho⟩ := V.cel
  refine ⟨?_, ⟨tm, ta, links_grow g hI⟩, map_grow g V.Mp, V.Rw.grow g, V.Tl.grow g, V.Tg.grow g, fun n hn => cb_grow g (V.cb n hn), ?_, ⟨t, u, g.seq no_tup hs⟩, ⟨o, g _ hc (.inl V.nI.1), ho⟩, V.tab.sub fun a _ _ hm _ hd => g _ hm (.inl ?_), fun p hp => absurd hp List.not_mem_nil, V.nI, V.ne⟩
  · obtain ⟨us, ys, z, tz, tp, n1, n2, a1, a2, a3⟩ := V.S
    exact ⟨us, ys, z, tz, tp, n1, n2, g.seq no_list a1, g.seq no_list a2, a3⟩
  · intro n hn
    obtain ⟨a, i, t, j, u, e, hm⟩ := V.val n hn
    exact ⟨a, i, t, j, u, e, g.seq no_tup hm⟩
  · rcases hd with e | e
    · rw [e]; exact V.nI.2
    · exact e
theorem LInv.own {X' : List (Addr × Obj)} (V : LInv w la lb ql X cell st sl x dx d rl gl tl sz P I qc nw pl row ents G G' M af) (h : ∀ p ∈ X', p ∈ nw ∧ (∃ xs, p.2.data = .fields xs) ∧ p.1 ≠ P) : LInv w la lb ql X' cell st sl x dx d rl gl tl sz P I qc nw pl row ents G G' M af :=
  ⟨V.S, V.Lk, V.Mp, V.Rw, V.Tl, V.Tg, V.cb, V.val, V.szt, V.cel, V.tab, h, V.nI, V.ne⟩
theorem LInv.table (V : LInv w la lb ql X cell st sl x dx d rl gl tl sz P I qc nw pl row ents G G' M af) (N : News h₀ L h nw) (K : ∀ p ∈ nw, p.1 ≠ P → p ∈ nw') (T' : TabIn P I la lb ql nw') : LInv w la lb ql X cell st sl x dx d rl gl tl sz P I qc nw' pl row ents G G' M af := by
  obtain ⟨tm, ta, J⟩ := V.Lk
  obtain ⟨t, u, hs⟩ := V.szt
  obtain ⟨o, hc, ho⟩ := V.cel
  obtain ⟨ps, hP, _⟩ := V.tab
  have cl : ∀ {a o}, (a, o) ∈ nw → o.cls ≠ .none → (a, o) ∈ nw' := fun {a o} hm hn => K _ hm fun q => hn (by
    have hm' : (P, o) ∈ nw := by rw [← show a = P from q]; exact hm
    have e := congrArg Obj.cls (news_fun N hm' hP)
    exact e)
  have K' : Kept [P] nw nw' := fun p hp hD => K p hp (by simpa using hD)
  have off : ∀ {a o}, (a, o) ∈ nw → o.cls ≠ .none → a ∉ [P] := fun {a o} hm hn q => hn (by
    have hm' : (P, o) ∈ nw := by rw [← show a = P from List.mem_singleton.mp q]; exact hm
    have e := congrArg Obj.cls (news_fun N hm' hP)
    exact e)
  refine ⟨?_, ⟨tm, ta, J.kept K' (off J.inst (by simp [instObj])) (off J.dic (by simp [dictOf])) fun m hm => ?_⟩, ?_, ⟨V.Rw.1.elim fun n h => ⟨n, cl h (by simp [W.listOf])⟩, fun e he => cl (V.Rw.2 e he) (by simp)⟩, ?_, ?_, ?_, ?_, ⟨t, u, cl hs (by simp)⟩, ⟨o, K _ hc ?_, ho⟩, T', fun p hp => ⟨K _ (V.ex p hp).1 (V.ex p hp).2.2, (V.ex p hp).2⟩, V.nI, V.ne⟩
  · obtain ⟨us, ys, z, tz, tp, n1, n2, a1, a2, a3⟩ := V.S
    exact ⟨us, ys, z, tz, tp, n1, n2, cl a1 (by simp [W.listOf]), cl a2 (by simp [W.listOf]), a3⟩
  · obtain ⟨pv, nk, j⟩ := chain_node J.ch hm
    exact ⟨off j.1 (by simp [instObj]), off j.2 (by simp [dictOf])⟩
  · obtain ⟨od, kvs, a, b, c, e⟩ := V.Mp
    obtain ⟨es, ep, h1, h2, h3⟩ := b
    exact ⟨od, kvs, cl a (by rw [h1.1]; simp), ⟨es, ep, h1, h2, h3⟩, c, e⟩
  · obtain ⟨ts, tn, h1, h2⟩ := V.Tl
    exact ⟨ts, tn, cl h1 (by simp [W.listOf]), h2.mono fun a vs hm => cl hm (by simp)⟩
  · obtain ⟨ts, tn, h1, h2⟩ := V.Tg
    exact ⟨ts, tn, cl h1 (by simp [W.listOf]), h2.mono fun a vs hm => cl hm (by simp)⟩
  · intro n hn
    obtain ⟨c1, c2⟩ := V.cb n hn
    refine ⟨c1, c2.imp id ?_⟩
    rintro ⟨f, lam, e, c, hl⟩
    exact ⟨f, lam, e, c, fun p hp => ⟨K _ (hl p hp).1 (hl p hp).2.1, (hl p hp).2⟩⟩
  · intro n hn
    obtain ⟨a, i, t, j, u, e, hm⟩ := V.val n hn
    exact ⟨a, i, t, j, u, e, cl hm (by simp)⟩
  · intro q
    have hm' : (P, o) ∈ nw := by rw [← show cell = P from q]; exact hc
    have e := congrArg Obj.data (news_fun N hm' hP)
    rw [ho] at e
    cases e
end
end Mine
end
section
namespace Mine
section
variable {w : World} {la lb : Value} {ql : Str} {X : List (Addr × Obj)} {cell st sl x dx d rl gl tl sz P I : Addr} {qc : K5} {nw nw' news : List (Addr × Obj)} {pl : Int} {row row' : List Nd} {ents ents' : List Ent} {G G' G2 : List (Int × Value)} {M af M' af' : Int} {h₀ h : Heap} {L : Addr} {D : List Addr}
theorem StIn.ne (S : StIn news st sl pl) (N : News h₀ L h news) : sl ≠ st := by
  obtain ⟨us, ys, z, tz, tp, n1, n2, h1, h2, hi, _⟩ := S
  intro q
  rw [q] at h2
  have e := congrArg (fun o => match o.data with | .seq xs _ => xs.toList | _ => []) (news_fun N h1 h2)
  have e2 : [Value.ref sl, Value.int pl tp, Value.int z tz] = us := e
  rw [← e2] at hi
  cases hi
theorem LInv.start {h1 : Heap} {oc : Obj} {tm ta t u : Tok} {n3 n4 n5 : Nat} (_N1 : News h₀ L h1 nw) (off : ∀ a o, (a, o) ∈ news → (∀ v, o.data ≠ .cell v) → a ≠ cell) (hs : sl ≠ st) (low : ∀ p ∈ news, p.1 < sz) (K : ∀ p ∈ news, p.1 ≠ cell → p ∈ nw)
    (S : StIn news st sl pl) (J : Links news x dx d qc [] (.int M tm) (.int af ta)) (Mp : MapIn w news d []) (hP : (P, tabObj #[]) ∈ news) (hsz : (sz, tuO [.int M t, .int af u]) ∈ nw) (h1 : (rl, W.listOf #[] n3) ∈ nw) (h2 : (tl, W.listOf #[] n4) ∈ nw) (h3 : (gl, W.listOf #[] n5) ∈ nw)
    (hc : (cell, oc) ∈ nw) (ho : oc.data = .cell (some (.ref tl))) (l1 : sz < rl) (l2 : rl < tl) (l3 : tl < gl) (nI : cell ≠ I ∧ P ≠ I) :
    LInv w la lb ql [] cell st sl x dx d rl gl tl sz P I qc nw pl [] [] [] [] M af := by
  have go : ∀ {a o}, (a, o) ∈ news → (∀ v, o.data ≠ .cell v) → (a, o) ∈ nw := fun hm hd => K _ hm (off _ _ hm hd)
  obtain ⟨us, ys, z, tz, tp, m1, m2, a1, a2, a3⟩ := id S
  have b1 := low _ a1
  have b2 := low _ a2
  dsimp only at b1 b2
  refine ⟨⟨us, ys, z, tz, tp, m1, m2, go a1 ?_, go a2 ?_, a3⟩, ⟨tm, ta, ⟨go J.inst ?_, go J.dic ?_, trivial, J.adr, J.ia, J.ins⟩⟩, ?_, ⟨⟨_, h1⟩, fun e he => absurd he List.not_mem_nil⟩, ⟨[], _, h2, trivial⟩, ⟨[], _, h3, trivial⟩, fun n he => absurd he List.not_mem_nil, fun n he => absurd he List.not_mem_nil, ⟨t, u, hsz⟩, ⟨oc, hc, ho⟩, ⟨_, go hP ?_, .inl rfl⟩, fun n he => absurd he List.not_mem_nil, nI,
    ⟨Nat.ne_of_lt (Nat.lt_trans l2 l3), Nat.ne_of_lt l2, Nat.ne_of_gt l3, ?_, ?_, ?_, ?_, ?_, ?_, hs⟩⟩
  · exact fun v e => Data.noConfusion e
  · exact fun v e => Data.noConfusion e
  · exact fun v e => Data.noConfusion e
  · exact fun v e => Data.noConfusion e
  · obtain ⟨od, kvs, c1, c2, c3⟩ := Mp
    refine ⟨od, kvs, go c1 fun v e => ?_, c2, c3⟩
    obtain ⟨es, ep, _, e2, _⟩ := c2
    rw [e2] at e
    cases e
  · exact fun v e => Data.noConfusion e
  · exact Nat.ne_of_lt (Nat.lt_trans b1 l1)
  · exact Nat.ne_of_lt (Nat.lt_trans b1 (Nat.lt_trans l1 (Nat.lt_trans l2 l3)))
  · exact Nat.ne_of_lt (Nat.lt_trans b1 (Nat.lt_trans l1 l2))
  · exact Nat.ne_of_lt (Nat.lt_trans b2 l1)
  · exact Nat.ne_of_lt (Nat.lt_trans b2 (Nat.lt_trans l1 (Nat.lt_trans l2 l3)))
  · exact Nat.ne_of_lt (Nat.lt_trans b2 (Nat.lt_trans l1 l2))
end
end Mine
end
section
namespace Mine
theorem put1 {m' : Str → Option Value} {a y : Str} {g : Option Value} (h : y ≠ a → m' y = g) : m' y = if y = a then m' a else g := by
  by_cases q : y = a
  · rw [if_pos q, q]
  · rw [if_neg q, h q]
theorem frm8 (m' m0 : Str → Option Value) (a b c d e f g i : Str) (v : Option Value) (hi : m' i = v ∨ i = a ∨ i = b ∨ i = c ∨ i = d ∨ i = e ∨ i = f ∨ i = g) (h : ∀ y, y ≠ a → y ≠ b → y ≠ c → y ≠ d → y ≠ e → y ≠ f → y ≠ g → y ≠ i → m' y = m0 y) :
    ∃ u1 u2 u3 u4 u5 u6 u7, m' = fun y => if y = a then u1 else if y = b then u2 else if y = c then u3 else if y = d then u4 else if y = e then u5 else if y = f then u6 else if y = g then u7 else if y = i then v else m0 y := by
  refine ⟨m' a, m' b, m' c, m' d, m' e, m' f, m' g, funext fun y => put1 fun h1 => put1 fun h2 => put1 fun h3 => put1 fun h4 => put1 fun h5 => put1 fun h6 => put1 fun h7 => ?_⟩
  by_cases h8 : y = i
  · rw [if_pos h8]
    subst h8
    rcases hi with q | q | q | q | q | q | q | q
    · exact q
    · exact absurd q h1
    · exact absurd q h2
    · exact absurd q h3
    · exact absurd q h4
    · exact absurd q h5
    · exact absurd q h6
    · exact absurd q h7
  · rw [if_neg h8, h y h1 h2 h3 h4 h5 h6 h7 h8]
abbrev nest8 (m0 : Str → Option Value) (u1 u2 u3 u4 u5 u6 u7 v : Option Value) : Str → Option Value := fun y =>
  if y = Str.ofString "turn" then u1 else if y = Str.ofString "deed" then u2 else if y = Str.ofString "key" then u3 else if y = Str.ofString "value" then u4 else if y = Str.ofString "there" then u5 else if y = Str.ofString "least" then u6 else if y = Str.ofString "most" then u7 else if y = Str.ofString "sizes" then v else m0 y
structure JInv (w : World) (la lb : Value) (ql : Str) (X : List (Addr × Obj)) (cell st sl x dx d rl gl tl P I : Addr) (qc : K5) (nw : List (Addr × Obj)) (sz : Addr) (pl : Int) (row : List Nd) (ents : List Ent) (G : List (Int × Value)) (M af : Int) (b : Nat) : Prop where
  V : LInv w la lb ql X cell st sl x dx d rl gl tl sz P I qc nw pl row ents G G M af
  Sm : Same row ents
  a0 : 0 ≤ af
  a1 : af ≤ M
  a2 : M ≤ 7
  r : (row.length : Int) ≤ M
  g : G.length ≤ 16 * b
  p0 : 0 ≤ pl
  p1 : pl ≤ 3 + 4 * b
end Mine
namespace Mine
theorem off_cell {h₀ h : Heap} {L c : Addr} {o : Obj} {v : Option Value} {news : List (Addr × Obj)} (N : News h₀ L h news) (hc : (c, o) ∈ news) (ho : o.data = .cell v) : ∀ a o', (a, o') ∈ news → (∀ v, o'.data ≠ .cell v) → a ≠ c := fun a o' hm hd q => by
  rw [q] at hm
  rw [news_fun N hm hc] at hd
  exact hd _ ho
end Mine
namespace Mine
theorem range_size {r : Int} (h : 0 ≤ r) : Builtin.Range.rangeSize 0 (8 + r) 1 = ((8 + r).toNat : Int) := by
  unfold Builtin.Range.rangeSize
  simp
  omega
theorem range_small {r : Int} (h0 : 0 ≤ r) (h1 : r < 12) : Builtin.Range.small 0 (8 + r) 1 = true := by
  obtain ⟨n, rfl⟩ := Int.eq_ofNat_of_zero_le h0
  have h2 : n < 12 := by omega
  exact (show ∀ k : Fin 12, Builtin.Range.small 0 (8 + ((k.val : Nat) : Int)) 1 = true by decide +kernel) ⟨n, h2⟩
end Mine
end
section
namespace Mine
def HoldIf : Prop := True
def HoldCmp : Prop := True
theorem stop_cmp {P : Prop} (_h : HoldCmp) (h : Stop P) : P := h
theorem stop_if {P : Prop} (_h : HoldIf) (h : Stop P) : P := h
theorem nest_norm (m0 : Str → Option Value) (a b c u1 u2 u3 u4 u5 u6 u7 v : Option Value) : (fun y => if y = Str.ofString "key" then a else if y = Str.ofString "deed" then b else if y = Str.ofString "turn" then c else nest8 m0 u1 u2 u3 u4 u5 u6 u7 v y) = nest8 m0 c b a u4 u5 u6 u7 v := by
  funext y
  by_cases h1 : y = Str.ofString "key"
  · subst h1
    refine (if_pos rfl).trans (Eq.symm (Eq.trans (if_neg ?_) (Eq.trans (if_neg ?_) (if_pos rfl)))) <;> decide
  rw [if_neg h1]
  by_cases h2 : y = Str.ofString "deed"
  · subst h2
    refine (if_pos rfl).trans (Eq.symm (Eq.trans (if_neg ?_) (if_pos rfl)))
    decide
  rw [if_neg h2]
  by_cases h3 : y = Str.ofString "turn"
  · subst h3
    exact (if_pos rfl).trans (if_pos rfl).symm
  rw [if_neg h3]
  exact ((if_neg h3).trans ((if_neg h2).trans (if_neg h1))).trans ((if_neg h3).trans ((if_neg h2).trans (if_neg h1))).symm
theorem fr_norm {h₀ h : Heap} {L : Addr} {m0 : Str → Option Value} {a b c u1 u2 u3 u4 u5 u6 u7 v : Option Value} (F : Fr h₀ L h (fun y => if y = Str.ofString "key" then a else if y = Str.ofString "deed" then b else if y = Str.ofString "turn" then c else if y = Str.ofString "turn" then u1 else if y = Str.ofString "deed" then u2 else if y = Str.ofString "key" then u3 else if y = Str.ofString "value" then u4 else if y = Str.ofString "there" then u5 else if y = Str.ofString "least" then u6 else if y = Str.ofString "most" then u7 else if y = Str.ofString "sizes" then v else m0 y)) : Fr h₀ L h (nest8 m0 c b a u4 u5 u6 u7 v) := by
  have e := nest_norm m0 a b c u1 u2 u3 u4 u5 u6 u7 v
  exact e ▸ F
theorem fr_base {h₀ h : Heap} {L : Addr} {m0 : Str → Option Value} {u1 u2 u3 u4 u5 u6 u7 v : Option Value} (_F : Fr h₀ L h (nest8 m0 u1 u2 u3 u4 u5 u6 u7 v)) : ∃ q, q = m0 := ⟨_, rfl⟩
theorem fr_open {h₀ h : Heap} {L : Addr} {m0 : Str → Option Value} {u1 u2 u3 u4 u5 u6 u7 v : Option Value} (F : Fr h₀ L h (nest8 m0 u1 u2 u3 u4 u5 u6 u7 v)) : Fr h₀ L h (fun y => if y = Str.ofString "turn" then u1 else if y = Str.ofString "deed" then u2 else if y = Str.ofString "key" then u3 else if y = Str.ofString "value" then u4 else if y = Str.ofString "there" then u5 else if y = Str.ofString "least" then u6 else if y = Str.ofString "most" then u7 else if y = Str.ofString "sizes" then v else m0 y) := F
/-- what stands behind the deed -/
def Mid (s₁ : Shared) (h₀ : Heap) (L : Addr) (w : World) (la lb : Value) (ql : Str) (X : List (Addr × Obj)) (cell st sl x dx d rl gl tl P I : Addr) (qc : K5) (m0 : Str → Option Value) (key : Int) (tkk : Tok) (b : Nat) (f : Flow) (s₂ : Shared) : Prop :=
  f = .next ∧ ∃ h' tk nw' sz pl row ents G M af u1 u2 u4 u5 u6 u7, s₂ = { heap := h', gens := s₁.gens, drawn := s₁.drawn, toks := tk, os := s₁.os } ∧ Fr h₀ L h' (nest8 m0 u1 u2 (some (.int key tkk)) u4 u5 u6 u7 (some (.ref sz))) ∧ News h₀ L h' nw' ∧
    JInv w la lb ql X cell st sl x dx d rl gl tl P I qc nw' sz pl row ents G M af b
end Mine
end
section
namespace Mine
section
variable {s₁ : Shared} {w : World} {la lb : Value} {ql : Str} {X : List (Addr × Obj)} {cell st sl x dx d rl gl tl sz P I : Addr} {qc : K5} {nw nw' news : List (Addr × Obj)} {pl : Int} {row row' : List Nd} {ents ents' : List Ent} {G G' G2 : List (Int × Value)} {M af M' af' : Int} {h₀ h h' : Heap} {L : Addr} {D : List Addr} {tk : Tok} {tkk : Tok} {key : Int} {m' m0 : Str → Option Value} {b : Nat}
theorem Mid.of (F : Fr h₀ L h' m') (N : News h₀ L h' nw') (J : JInv w la lb ql X cell st sl x dx d rl gl tl P I qc nw' sz pl row ents G M af b) (hk : m' (Str.ofString "key") = some (.int key tkk)) (hs : m' (Str.ofString "sizes") = some (.ref sz))
    (hm : ∀ y, y ≠ Str.ofString "turn" → y ≠ Str.ofString "deed" → y ≠ Str.ofString "key" → y ≠ Str.ofString "value" → y ≠ Str.ofString "there" → y ≠ Str.ofString "least" → y ≠ Str.ofString "most" → y ≠ Str.ofString "sizes" → m' y = m0 y) :
    Mid s₁ h₀ L w la lb ql X cell st sl x dx d rl gl tl P I qc m0 key tkk b .next { heap := h', gens := s₁.gens, drawn := s₁.drawn, toks := tk, os := s₁.os } := by
  obtain ⟨u1, u2, u3, u4, u5, u6, u7, e⟩ := frm8 m' m0 (Str.ofString "turn") (Str.ofString "deed") (Str.ofString "key") (Str.ofString "value") (Str.ofString "there") (Str.ofString "least") (Str.ofString "most") (Str.ofString "sizes") _ (.inl hs) hm
  refine ⟨rfl, h', tk, nw', sz, pl, row, ents, G, M, af, u1, u2, u4, u5, u6, u7, rfl, ?_, N, J⟩
  have e3 : u3 = some (.int key tkk) := by
    rw [← hk, e]
    simp (decide := true) only [if_true, if_false]
  rw [e, e3] at F
  exact F
/-- the row cut behind af -/
theorem JInv.cut {r' : Nat} {X' : List (Addr × Obj)} (J : JInv w la lb ql X' cell st sl x dx d rl gl tl P I qc nw sz pl row ents G M af b) {k : Nat} {pl' : Int} {sz' : Addr} (hp0 : 0 ≤ pl') (hp1 : pl' ≤ 3 + 4 * (b + 1)) (h0 : 0 ≤ af') (h1 : af' ≤ M') (h2 : M' ≤ 7) (hr : r' = (row.take k).length) (hk : (r' : Int) ≤ M')
    (V : LInv w la lb ql X cell st sl x dx d rl gl tl sz' P I qc nw' pl' (row.take k) (ents.take k) (G ++ (row.drop k).reverse.flatMap tells) (G ++ (ents.drop k).reverse.flatMap eTells) M' af') : JInv w la lb ql X cell st sl x dx d rl gl tl P I qc nw' sz' pl' (row.take k) (ents.take k) (G ++ (row.drop k).reverse.flatMap tells) M' af' (b + 1) := by
  have e := (J.Sm.drop k).reverse.tells
  rw [← e] at V
  refine ⟨V, J.Sm.take k, h0, h1, h2, by rw [← hr]; exact hk, ?_, hp0, by omega⟩
  have h3 := tells_len (row.drop k).reverse
  have h4 := J.g
  have h5 := J.r
  have h6 := J.a2
  rw [List.length_reverse, List.length_drop] at h3
  rw [List.length_append]
  omega
theorem LInv.push {q : Addr × Obj} (V : LInv w la lb ql X cell st sl x dx d rl gl tl sz P I qc nw pl row ents G G' M af) (N : News h₀ L h (q :: nw)) : LInv w la lb ql X cell st sl x dx d rl gl tl sz P I qc (q :: nw) pl row ents G G' M af :=
  V.more (news_sub N fun p hp => .tail _ hp) fun p hp => .tail _ hp
theorem Links.more {mx af : Value} (J : Links nw x dx d qc row mx af) (K : ∀ p ∈ nw, p ∈ nw') : Links nw' x dx d qc row mx af :=
  J.kept (D := []) (fun p hp _ => K p hp) List.not_mem_nil List.not_mem_nil fun _ _ => ⟨List.not_mem_nil, List.not_mem_nil⟩
theorem MapIn.more (Mp : MapIn w nw d row) (K : ∀ p ∈ nw, p ∈ nw') : MapIn w nw' d row := Mp.kept (D := []) (fun p hp _ => K p hp) List.not_mem_nil
theorem StIn.lt (S : StIn nw st sl pl) {b : Addr} (hl : ∀ p ∈ nw, p.1 < b) : b ≠ st := by
  obtain ⟨us, ys, z, tz, tp, m1, m2, a1, _⟩ := S
  exact Nat.ne_of_gt (hl _ a1)
end
end Mine
end
section
namespace Mine
def KeyOf (nw : List (Addr × Obj)) (v y : Value) : Prop := ∃ a k t r, v = .ref a ∧ (a, tuO (.int k t :: r)) ∈ nw ∧ y = .int k t
theorem keys_of {h₀ h : Heap} {L : Addr} {nw : List (Addr × Obj)} (N : News h₀ L h nw) : ∀ {ents : List Ent} {ys : List Value}, (∀ e ∈ ents, EntIn nw e) → Paired (KeyOf nw) (eVals ents) ys → IntsAre ys (ents.map (·.k)) := by
  intro ents
  induction ents with
  | nil =>
    intro ys _ hp
    cases hp
    exact .nil
  | cons e r ih =>
    intro ys hE hp
    cases hp with
    | cons h1 h2 =>
      obtain ⟨a, k, t, r', e1, hm, rfl⟩ := h1
      injection e1 with e1
      have hm2 : (a, tuO [.int e.k e.tk, e.v, .bool e.t]) ∈ nw := by rw [← e1]; exact hE e List.mem_cons_self
      have e2 : (Value.int k t :: r') = [Value.int e.k e.tk, e.v, Value.bool e.t] := congrArg (fun o => match o.data with | .seq xs _ => xs.toList | _ => []) (news_fun N hm hm2)
      injection e2 with e3 _
      rw [e3]
      exact .cons _ _ (ih (fun x hx => hE x (List.mem_cons_of_mem _ hx)) h2)
end Mine
end
section
namespace Mine
theorem Same.split {key : Int} : ∀ {row : List Nd} {ents : List Ent}, Same row ents → key ∈ ents.map (·.k) → ∃ l1 n l2 e1 e e2, row = l1 ++ n :: l2 ∧ ents = e1 ++ e :: e2 ∧ Same l1 e1 ∧ Same l2 e2 ∧ sigN n = sigE e ∧ e.k = key := by
  intro row
  induction row with
  | nil =>
    intro ents S h
    cases ents with
    | nil => exact absurd h (by simp)
    | cons e r => exact absurd (S.len) (by simp)
  | cons n r ih =>
    intro ents S h
    cases ents with
    | nil => exact absurd h (by simp)
    | cons e r' =>
      have S1 : sigN n :: r.map sigN = sigE e :: r'.map sigE := S
      injection S1 with s1 s2
      by_cases hk : e.k = key
      · exact ⟨[], n, r, [], e, r', rfl, rfl, rfl, s2, s1, hk⟩
      · obtain ⟨l1, n', l2, e1, e', e2, q1, q2, q3, q4, q5, q6⟩ := ih (ents := r') s2 (by
          rcases List.mem_cons.mp h with h | h
          · exact absurd h.symm hk
          · exact h)
        refine ⟨n :: l1, n', l2, e :: e1, e', e2, by rw [q1]; rfl, by rw [q2]; rfl, Same.cons q3 s1, q4, q5, q6⟩
theorem Same.append {l1 l2 : List Nd} {e1 e2 : List Ent} (S : Same l1 e1) (T : Same l2 e2) : Same (l1 ++ l2) (e1 ++ e2) := by
  unfold Same at *
  rw [List.map_append, List.map_append, S, T]
theorem others_ne {e1 e2 : List Ent} {e : Ent} (h : ((e1 ++ e :: e2).map (·.k)).Nodup) : ∀ x ∈ e1 ++ e2, x.k ≠ e.k := by
  have hp : (e1 ++ e :: e2).Perm (e :: (e1 ++ e2)) := List.perm_middle
  have h2 := (hp.map (·.k)).nodup_iff.mp h
  rw [List.map_cons, List.nodup_cons] at h2
  exact fun x hx q => h2.1 (List.mem_map.mpr ⟨x, hx, q⟩)
section
variable {s₁ : Shared} {w : World} {la lb : Value} {ql : Str} {X : List (Addr × Obj)} {cell st sl x dx d rl gl tl sz P I : Addr} {qc : K5} {nw nw' news : List (Addr × Obj)} {pl : Int} {row row' : List Nd} {ents ents' : List Ent} {G G' G2 : List (Int × Value)} {M af M' af' : Int} {h₀ h h' : Heap} {L : Addr} {D : List Addr} {tk : Tok} {tkk : Tok} {key : Int} {m' m0 : Str → Option Value} {b : Nat}
theorem LInv.order {tm ta tm' ta' : Tok} (V : LInv w la lb ql X cell st sl x dx d rl gl tl sz P I qc nw pl row ents G G' M af) (N : News h₀ L h nw) (Lk0 : Links nw x dx d qc row (.int M tm) (.int af ta)) (K : Kept (dx :: row.map (·.da)) nw nw') (Lk' : Links nw' x dx d qc row' (.int M tm') (.int af ta')) (hp : row.Perm row') :
    LInv w la lb ql X cell st sl x dx d rl gl tl sz P I qc nw' pl row' ents G G' M af := by
  obtain ⟨ts, tn, ht, hT⟩ := id V.Tl
  obtain ⟨t, u, hs⟩ := id V.szt
  have KT := Lk0.keptT (tl := tl) K N
  have htl : tl ∉ dx :: row.map (·.da) := fun q => by
    obtain ⟨o, es, n, h1, h2⟩ := Lk0.dicts tl q
    rw [news_fun N h1 ht] at h2
    cases h2
  have hd : d ∉ dx :: row.map (·.da) := by
    have h1 := Lk0.adr
    rw [List.nodup_cons, List.nodup_cons] at h1
    intro q
    rcases List.mem_cons.mp q with q | q
    · exact h1.1 (q ▸ List.mem_cons_self)
    · exact h1.2.1 q
  refine V.cache N KT ⟨tm', ta', Lk'⟩ ((V.Mp.kept K hd).perm hp) ⟨ts, tn, K _ ht htl, hT.mono fun a vs hm => KT.tup N ht a vs hm⟩ (fun n hn => V.cb n (hp.mem_iff.mpr hn)) (fun n hn => V.val n (hp.mem_iff.mpr hn)) ⟨t, u, KT.tup N ht _ _ hs⟩
theorem JInv.put {X' : List (Addr × Obj)} (J : JInv w la lb ql X' cell st sl x dx d rl gl tl P I qc nw sz pl row ents G M af b) {pl' : Int} {sz' : Addr} (hp0 : 0 ≤ pl') (hp1 : pl' ≤ 3 + 4 * (b + 1)) (S : Same row' ents') (hG : G2.length ≤ G.length + 16) (hr : (row'.length : Int) ≤ M)
    (V : LInv w la lb ql X cell st sl x dx d rl gl tl sz' P I qc nw' pl' row' ents' G2 G2 M af) : JInv w la lb ql X cell st sl x dx d rl gl tl P I qc nw' sz' pl' row' ents' G2 M af (b + 1) :=
  ⟨V, S, J.a0, J.a1, J.a2, hr, by have := J.g; omega, hp0, by omega⟩
theorem mem_cut {n n' : Nd} (h : n' ∈ cutRow M af (addRow row n)) : n' = n ∨ n' ∈ row := by
  have h1 : n' ∈ addRow row n := by
    unfold cutRow at h
    split at h
    · exact List.mem_of_mem_take h
    · exact h
  rcases List.mem_cons.mp h1 with h2 | h2
  · exact .inl h2
  · exact .inr (List.mem_filter.mp h2).1
theorem put_done {tm ta : Tok} {n : Nd} {e : Ent} {ts' : List Value} {tn' : Nat} (S : Same row ents) (hs : sigN n = sigE e) (h0 : 0 ≤ af) (h1 : af ≤ M) (hr : (row.length : Int) ≤ M) (hM : M ≤ 7)
    (V4 : LInv w la lb ql X cell st sl x dx d rl gl tl sz P I qc nw pl row (cutEnt M af (e :: ents.filter fun x => x.k ≠ e.k)) G (G ++ (ents.filter fun x => x.k = e.k).flatMap eTells ++ cutETell M af (e :: ents.filter fun x => x.k ≠ e.k)) M af)
    (N : News h₀ L h nw) (K : KeptT tl nw nw') (Lk' : Links nw' x dx d qc (cutRow M af (addRow row n)) (.int M tm) (.int af ta)) (Mp' : MapIn w nw' d (cutRow M af (addRow row n))) (ht' : (tl, W.listOf ts'.toArray tn') ∈ nw') (TI' : TIt nw' ts' (G ++ addTell row e.k ++ cutTell M af (addRow row n))) (hcb : CbN w tl P I nw n) (hv : ValIn nw n.v) :
    ∃ row' ents' G2, Same row' ents' ∧ G2.length ≤ G.length + 16 ∧ (row'.length : Int) ≤ M ∧ LInv w la lb ql X cell st sl x dx d rl gl tl sz P I qc nw' pl row' ents' G2 G2 M af := by
  have hk : n.k = e.k := congrArg (fun t : Int × Value × Bool => t.1) hs
  have SA := S.add hs hk
  have SC := SA.cut M af
  have ST := S.addTell e.k
  obtain ⟨ts, tn, ht, _⟩ := id V4.Tl
  obtain ⟨t, u, hsz⟩ := id V4.szt
  have V5 := V4.cache (row' := cutRow M af (addRow row n)) N K ⟨tm, ta, Lk'⟩ Mp' ⟨ts', tn', ht', TI'⟩ (fun m hm => (mem_cut hm).elim (fun q => by rw [q]; exact hcb) fun q => V4.cb m q) (fun m hm => (mem_cut hm).elim (fun q => by rw [q]; exact hv) fun q => V4.val m q) ⟨t, u, K.tup N ht _ _ hsz⟩
  rw [ST, SC.2] at V5
  have l1 : (addRow row n).length ≤ row.length + 1 := by
    unfold addRow
    rw [List.length_cons]
    exact Nat.succ_le_succ (List.length_filter_le _ _)
  have l2 : (addTell row e.k).length ≤ row.length := by
    unfold addTell
    exact Nat.le_trans (tells_len _) (List.length_filter_le _ _)
  have l3 : (cutTell M af (addRow row n)).length ≤ row.length + 1 := by
    unfold cutTell
    split
    · refine Nat.le_trans (tells_len _) ?_
      rw [List.length_reverse, List.length_drop]
      omega
    · exact Nat.zero_le _
  refine ⟨_, _, _, SC.1, ?_, ?_, V5⟩
  · rw [← ST, ← SC.2, List.length_append, List.length_append]
    omega
  · unfold cutRow
    split
    · rw [List.length_take]
      omega
    · omega
theorem headObj {h₀ h : Heap} {L a : Addr} {o : Obj} {rest : List (Addr × Obj)} (_N : News h₀ L h ((a, o) :: rest)) : ∃ q, q = o := ⟨_, rfl⟩
end
end Mine
namespace Mine
theorem fr_map {h₀ h : Heap} {L : Addr} {m : Str → Option Value} (_F : Fr h₀ L h m) : ∃ q, q = m := ⟨_, rfl⟩
/-- what stands behind the lambda -/
def LamMid (s₁ : Shared) (h₀ : Heap) (L : Addr) (w : World) (la lb : Value) (ql : Str) (X : List (Addr × Obj)) (cell st sl x dx d rl gl tl sz P I : Addr) (qc : K5) (mm : Str → Option Value) (nw : List (Addr × Obj)) (pl : Int) (row : List Nd) (ents : List Ent) (G G' : List (Int × Value)) (M af : Int) (v : Value) (s' : Shared) : Prop :=
  ∃ f lam nwA h' tk, v = .ref f ∧ s' = { heap := h', gens := s₁.gens, drawn := s₁.drawn, toks := tk, os := s₁.os } ∧ Fr h₀ L h' mm ∧ News h₀ L h' nwA ∧ LInv w la lb ql X cell st sl x dx d rl gl tl sz P I qc nwA pl row ents G G' M af ∧
    CbOk w f tl lam ∧ (∀ p ∈ lam, p ∈ nwA ∧ p.1 ≠ P ∧ p.1 ≠ I) ∧ ∀ p ∈ nw, p.1 ≠ P → p ∈ nwA
end Mine
end
section
namespace Mine
theorem getAttrQ_miss_list {prog : Program} {w : World} {A : Around} {E : Value → Shared → Prop} {s : Shared} {a : Addr} {xs : Array Value} {k : Nat} {name : Str} {Q : Option Value → Shared → Prop}
    (hx : s.heap.get? a = some (W.listOf xs k)) (hmiss : typeLookup (.type "list") name = pure none) (hname : (["__module__", "__name__", "__qualname__", "__doc__", "__annotations__"] : List Str).contains name = false) (hA : A.handled = none)
    (h : ∀ h' tk, (∀ b o, s.heap.get? b = some o → h'.get? b = some o) → Q none { s with heap := h', toks := tk }) (hsz : name.length + 100 ≤ sizeLine := by size_fits) :
    wpAny (model prog w) A (getAttr? (.ref a) name) Q E s := by
  obtain ⟨hp, g, d, tk, os⟩ := s
  have hT : ∀ tk', (⟨hp, g, d, tk', os⟩ : Shared).TypeIs (.ref a) "list" := fun _ => ⟨_, hx, rfl⟩
  have f1 := sub_AttributeError
  have f3 := F.slot_list_getattribute.lookup
  have f4 := F.slot_list_getattribute.bind (.ref a)
  have f5 := am_list_getattr_none
  unfold getAttr? getAttrBy? getAttrBy
  repeat (any_goals (first | assumption | exact hT _ | ((with_reducible show wpAny _ _ (call (Value.builtin "list.__getattribute__") _ _) _ _ _); refine call_meets F.slot_list_getattribute (hT _) am_entry_list_getattribute (F.args_list_getattribute_2 _ _) (meets_getattribute_miss_list a xs k #[] name _ hmiss hname hsz) ⟨hx, hA, fun h' tk' e hx' => ?_⟩) | wp_step))
  obtain ⟨t', u', he⟩ := hx'.there
  show wpAny _ _ (getattributeRaised _ _ _ _ _ _ _) _ _ _
  unfold getattributeRaised
  repeat (any_goals (first | assumption | wp_step))
  exact h _ _ hx'.keeps
namespace F
theorem entry_dict_update_loop : entryFor table "dict.update.loop" = some Builtin.«dict.update.loop» := entryFor_of_tree (by kernel_rfl)
theorem plain_dict_update_loop : plainId "dict.update.loop" = true := by decide +kernel
end F
section
variable {prog : Program} {w : World} {A : Around} {R : Result → Shared → Prop} {I l D : Addr} {items : Array Value} {G : List (Int × Value)} {hb : Heap} {St : Nat → Heap → Prop}
def PairAt (hb : Heap) (I D : Addr) (v : Value) (g : Int × Value) : Prop := ∃ a t o n, v = .ref a ∧ a ≠ I ∧ a ≠ D ∧ hb.get? a = some o ∧ o.cls = .type "tuple" ∧ o.data = .seq #[.int g.1 t, g.2] n
theorem stored_fresh {kvs : List (Int × Value)} {k : Int} {v : Value} (h : k ∉ kvs.map (·.1)) : stored kvs k v = kvs ++ [(k, v)] := stored_new h
theorem code_pairs_loop (W : Walks prog w A.in1 I [I, l] [I] items.size (fun i v => items[i]? = some v) St) (hDI : D ≠ I) (hDl : D ≠ l) (hlen : items.size = G.length) (hsz : G.length ≤ 1000) (hnd : (G.map (·.1)).Nodup)
    (hP : ∀ i (h1 : i < items.size) (h2 : i < G.length), PairAt hb I D items[i] G[i]) :
    ∀ (k i : Nat) (q : Int) (s : Shared), items.size - i = k → i ≤ items.size → St i s.heap → (∀ b o, b ∉ [I, D] → hb.get? b = some o → s.heap.get? b = some o) → s.heap.DictOf (intKind prog w) D (G.take i) →
      (∀ h' tk, (∀ b o, b ∉ [I, D] → hb.get? b = some o → h'.get? b = some o) → h'.DictOf (intKind prog w) D G → R (.ok (.ret .none)) { s with heap := h', toks := tk }) →
      codeAny (model prog w) A (.builtin "dict.update.loop" ⟨[.ref D, .ref I, rawInt q, .none], []⟩) R s := by
  intro k
  induction k with
  | zero =>
    intro i q s hk hi hst hkeep hD hR
    have hin : i = items.size := by omega
    subst hin
    refine codeAny_builtin F.entry_dict_update_loop ?_
    rw [Around.under_plainId F.plain_dict_update_loop _]
    show wpAny _ A.in1 (pyNext (.ref I) >>= _) _ _ s
    refine wpAny_bind (W.done s _ _ hst fun h' tk hk' => ?_)
    show wpAny _ A.in1 (Builtin.Dict.addKeywords D [] >>= _) _ _ _
    refine wpAny_bind (wpAny_pure (wpAny_pure (hR _ _ (fun b o hbn e => hk' b o (fun q => hbn ?_) (hkeep b o hbn e)) ?_)))
    · rw [List.mem_singleton.mp q]; exact List.mem_cons_self
    · rw [hlen, List.take_length] at hD
      exact hD.at fun o e => hk' D o (by simpa using hDI) e
  | succ k ih =>
    intro i q s hk hi hst hkeep hD hR
    have hlt : i < items.size := by omega
    have hltG : i < G.length := by omega
    refine codeAny_builtin F.entry_dict_update_loop ?_
    rw [Around.under_plainId F.plain_dict_update_loop _]
    show wpAny _ A.in1 (pyNext (.ref I) >>= _) _ _ s
    refine wpAny_bind (W.item i s _ _ hlt hst fun v h' tk hv hst' hk' => ?_)
    obtain ⟨a, t, o, n, e1, haI, haD, ho, hcls, hdat⟩ := hP i hlt hltG
    rw [Array.getElem?_eq_getElem hlt] at hv
    obtain rfl := Option.some.inj hv
    rw [e1]
    have hoh : h'.get? a = some o := hk' a o (by simpa using haI) (hkeep a o (by simp [haI, haD]) ho)
    have hT : ({ s with heap := h', toks := tk } : Shared).TypeIs (.ref a) "tuple" := ⟨_, hoh, hcls⟩
    have hD1 : h'.DictOf (intKind prog w) D (G.take i) := hD.at fun o e => hk' D o (by simpa using hDI) e
    show wpAny _ A.in1 (holding [Value.ref a] _ >>= _) _ _ _
    refine wpAny_bind (wpAny_holding (wpAny_bind (wpAny_tryCatch ?_)))
    unfold Builtin.Dict.pairItems
    refine wpAny_bind (wpAny_typeOf hT ?_)
    rw [if_pos (by decide)]
    unfold seqItems?
    refine wpAny_bind (wpAny_bind (wpAny_load hoh ?_))
    rw [hdat]
    refine wpAny_pure (wpAny_pure ?_)
    show wpAny _ _ (holding [Value.int G[i].1 t, G[i].2] (dictSet D (.int G[i].1 t) G[i].2)) _ _ _
    refine wpAny_holding (wpAny_dictSet_pairs (knd := intKind prog w) (s := { s with heap := h', toks := tk }) (k := G[i].1) (intKind_is _ _ _ _) hD1 (fun h2 hD2 hs2 => ?_) ?_)
    · have e2 : stored (G.take i) G[i].1 G[i].2 = G.take (i + 1) := by
        rw [stored_new, List.take_succ_eq_append_getElem hltG]
        intro hm
        have h3 := hnd
        rw [← List.take_append_drop i G, List.map_append, List.drop_eq_getElem_cons hltG, List.map_cons] at h3
        exact (List.nodup_append.mp h3).2.2 _ hm _ List.mem_cons_self rfl
      rw [e2] at hD2
      refine wpAny_pure ⟨plainId_quiet F.plain_dict_update_loop _, ih (i + 1) _ _ (by omega) hlt (W.frame _ _ _ hst' fun b hbm o e => ?_) (fun b o hbn e => ?_) hD2 fun h3 tk3 hk3 hD3 => hR h3 tk3 hk3 hD3⟩
      · refine (hs2.2 b fun q => ?_).trans e
        rw [q] at hbm
        rcases List.mem_cons.mp hbm with q | q
        · exact hDI q
        · exact hDl (List.mem_singleton.mp q)
      · have hbD : b ≠ D := fun q => hbn (by rw [q]; simp)
        have hbI : b ≠ I := fun q => hbn (by rw [q]; simp)
        exact (hs2.2 b hbD).trans (hk' b o (by simpa using hbI) (hkeep b o hbn e))
    · rw [sizeLine_eq, List.length_take]; omega
end
end Mine
end
section
namespace Mine
section
variable {prog : Program} {w : World} {A : Around} {E : Value → Shared → Prop} {s : Shared} {l : Addr} {vs : List Value} {k : Nat} {G : List (Int × Value)}
theorem am_list_keys : typeLookup (.type "list") "keys" = pure none := am_miss_of_fast (by decide +kernel)
theorem sub_list_dict : isSubtype (.type "list") (.type "dict") = pure false := by rw [isSubtype_type]; kernel_rfl
theorem call_dict_pairs {Q : Value → Shared → Prop} (hh : A.handled = none) (hl : s.heap.get? l = some (W.listOf vs.toArray k)) (hlen : vs.length = G.length) (hsz : G.length ≤ 1000) (hnd : (G.map (·.1)).Nodup)
    (hP : ∀ i (h1 : i < vs.length) (h2 : i < G.length), ∃ a t o n, vs[i] = .ref a ∧ s.heap.get? a = some o ∧ o.cls = .type "tuple" ∧ o.data = .seq #[.int G[i].1 t, G[i].2] n)
    (h : ∀ h' tk, h'.DictOf (intKind prog w) s.heap.objs.size G → s.heap.get? s.heap.objs.size = none → (∀ b o, s.heap.get? b = some o → h'.get? b = some o) → Q (.ref s.heap.objs.size) { s with heap := h', toks := tk }) :
    wpAny (model prog w) A (call (.type "dict") [.ref l]) Q E s := by
  refine callType_codes (Q₁ := fun obj s₁ => obj = .ref s.heap.objs.size ∧ s₁ = { s with heap := s.heap.push { cls := .type "dict", data := .dict #[] } }) F.kt_called_dict (F.kt_typeCall_dict_1 _) F.entry_dict_init (kt_code_dict_new _ ⟨rfl, rfl⟩) ?_
  rintro obj s₁ ⟨rfl, rfl⟩
  have hnew : (s.heap.push { cls := .type "dict", data := .dict #[] }).DictOf (intKind prog w) s.heap.objs.size [] := Heap.DictOf.new s.heap
  have hl' : (s.heap.push { cls := .type "dict", data := .dict #[] }).get? l = some (W.listOf vs.toArray k) := Heap.get?_push_of_some _ hl
  have hlt : l < s.heap.objs.size := Heap.lt_size hl
  have hDnone : s.heap.get? s.heap.objs.size = none := Heap.get?_none_of_le (Nat.le_refl _)
  have hTl : Shared.TypeIs { s with heap := s.heap.push { cls := .type "dict", data := .dict #[] } } (.ref l) "list" := ⟨_, hl', rfl⟩
  refine ⟨hnew.typeIs, F.args_dict_init_2 _ _, ?_⟩
  unfold Builtin.«dict.__init__»
  refine wpAny_bind ?_
  unfold Builtin.Dict.selfAndRest
  refine wpAny_bind (wpAny_notOrdered_dict hnew.typeIs ?_)
  show wpAny _ _ (pure (s.heap.objs.size, [Value.ref l])) _ _ _
  refine wpAny_pure ?_
  show wpAny _ _ (Builtin.Dict.updateFrom "dict.__init__" s.heap.objs.size (.ref l) [] .none) _ _ _
  unfold Builtin.Dict.updateFrom
  refine wpAny_bind (wpAny_typeOf hTl ?_)
  rw [if_pos (by decide)]
  refine wpAny_bind (getAttrQ_miss_list (A := A.in1.in1) hl' am_list_keys (by decide +kernel) hh fun h1 tk1 hk1 => ?_)
  rw [if_pos (show (Option.isNone (none : Option Value)) = true from rfl)]
  have hl1 : h1.get? l = some (W.listOf vs.toArray k) := hk1 _ _ hl'
  have hli : h1.IsList l vs.toArray := ⟨_, hl1, rfl, _, rfl⟩
  have hD1 : h1.DictOf (intKind prog w) s.heap.objs.size [] := hnew.at fun o e => hk1 _ o e
  have hDlt : s.heap.objs.size < h1.objs.size := by
    obtain ⟨o, es, ep, ho, _⟩ := hD1
    exact Heap.lt_size ho
  have hllt : l < h1.objs.size := Heap.lt_size hl1
  refine wpAny_bind (wpAny_rule ?_)
  refine wpAny_bind (wpAny_pyIter_list hli ?_)
  have up : ∀ b o, s.heap.get? b = some o → (h1.push { cls := .type "list_iterator", data := .fields #[.ref l, .int 0 0] }).get? b = some o := fun b o e => Heap.get?_push_of_some _ (hk1 b o (Heap.get?_push_of_some _ e))
  refine wpAny_pure ⟨plainId_quiet F.plain_dict_update_loop _, code_pairs_loop (A := A.in1) (l := l) (items := vs.toArray) (G := G) (hb := s.heap) (St := fun i h => h.IsListIter h1.objs.size l i ∧ h.IsList l vs.toArray) (Walks.list (A := A.in1.in1) hh h1.objs.size l (Nat.ne_of_lt hllt) vs.toArray) (Nat.ne_of_lt hDlt) (Nat.ne_of_gt hlt) (List.size_toArray.trans hlen) hsz hnd ?_ vs.toArray.size 0 0 _ (Nat.sub_zero _) (Nat.zero_le _) ⟨⟨_, Heap.get?_push_size _ rfl, rfl, rfl⟩, hli.push _⟩ (fun b o _ e => up b o e) ?_ ?_⟩
  · intro i q1 q2
    have q3 : i < vs.length := by simpa using q1
    obtain ⟨a, t, o, n, e1, e2, e3, e4⟩ := hP i q3 q2
    have ha : a < s.heap.objs.size := Heap.lt_size e2
    exact ⟨a, t, o, n, by simpa using e1, Nat.ne_of_lt (Nat.lt_trans ha hDlt), Nat.ne_of_lt ha, e2, e3, e4⟩
  · exact hD1.push _
  · intro h' tk hk hD
    refine ⟨rfl, h h' tk hD hDnone fun b o e => hk b o ?_ e⟩
    have hb : b < s.heap.objs.size := Heap.lt_size e
    simp only [List.mem_cons, List.not_mem_nil, or_false, not_or]
    exact ⟨Nat.ne_of_lt (Nat.lt_trans hb hDlt), Nat.ne_of_lt hb⟩
end
section
variable {prog : Program} {w : World} {A : Around} {E : Value → Shared → Prop} {s : Shared} {l : Addr} {vs : List Value} {k : Nat} {G : List (Int × Value)} {h₀ : Heap} {L : Addr} {m : Str → Option Value} {news : List (Addr × Obj)}
theorem TIt.at {nw : List (Addr × Obj)} : ∀ {ts : List Value} {G : List (Int × Value)}, TIt nw ts G → ∀ i (h1 : i < ts.length) (h2 : i < G.length), ∃ a t, ts[i] = .ref a ∧ (a, tuO [.int G[i].1 t, G[i].2]) ∈ nw
  | [], _, _, i, h1, _ => absurd h1 (Nat.not_lt_zero _)
  | _ :: _, [], T, _, _, _ => T.elim
  | _ :: ts, _ :: G, ⟨⟨a, kt, e, hm⟩, r⟩, 0, _, _ => ⟨a, kt, e, hm⟩
  | _ :: ts, _ :: G, ⟨_, r⟩, i + 1, h1, h2 => TIt.at r i (Nat.lt_of_succ_lt_succ h1) (Nat.lt_of_succ_lt_succ h2)
/-- dict(a list of pairs) -/
theorem dict_pairs_N {Q : Value → Shared → Prop} (hh : A.handled = none) (F : Fr h₀ L s.heap m) (N : News h₀ L s.heap news) (hbig : sysModules < h₀.objs.size) (hl : (l, W.listOf vs.toArray k) ∈ news) (T : TIt news vs G) (hsz : G.length ≤ 1000) (hnd : (G.map (·.1)).Nodup)
    (h : ∀ h' tk D od, Fr h₀ L h' m → News h₀ L h' ((D, od) :: news) → (∀ p ∈ news, p.1 ≠ D) → (D == sysModules) = false → od.IsDictOf (intKind prog w) G → Q (.ref D) { s with heap := h', toks := tk }) :
    wpAny (model prog w) A (call (.type "dict") [.ref l]) Q E s := by
  refine call_dict_pairs hh (N _ hl).1 T.length hsz hnd (fun i h1 h2 => ?_) fun h' tk hD hn hk => ?_
  · obtain ⟨a, t, e1, hm⟩ := T.at i h1 h2
    exact ⟨a, t, _, _, e1, (N _ hm).1, rfl, rfl⟩
  · obtain ⟨od, ho, hod⟩ := Heap.dictOf_iff.mp hD
    have hDh : h₀.get? s.heap.objs.size = none := by
      cases e : h₀.get? s.heap.objs.size with
      | none => rfl
      | some o => rw [F.keep _ _ e] at hn; cases hn
    have hDL : s.heap.objs.size ≠ L := by
      intro q
      obtain ⟨o, _, _, e, _⟩ := F.ns
      rw [← q, hn] at e; cases e
    refine h h' tk _ od (F.keeps hk) (fun p hp => ?_) (fun p hp q => ?_) (F.notModules hbig) hod
    · rcases List.mem_cons.mp hp with rfl | hp
      · exact ⟨ho, hDL, hDh⟩
      · exact ⟨hk _ _ (N p hp).1, (N p hp).2⟩
    · have := (N p hp).1
      rw [q, hn] at this
      cases this
end
end Mine
end
section
namespace Mine
open PyProof.Rows.LCg
theorem off1_mem {D : Addr} : ∀ {l : List (Addr × Obj)}, Off1 D l → ∀ p ∈ l, p.1 ≠ D
  | [], _, _, h => nomatch h
  | _ :: _, x, p, h => by
    rcases List.mem_cons.mp h with rfl | h
    · exact x.1
    · exact off1_mem x.2 p h
section
variable {prog : Program} {w : World} {A : Around} {E : Value → Shared → Prop} {s : Shared} {h₀ : Heap} {L : Addr} {m : Str → Option Value} {env : Env}
theorem compRest_ind {elt : PySem.Expr} {x : Str} {scope : Scope} {cl : List (Str × Addr)} {S : List (Addr × Obj) → Prop} {P : Nat → Value → Prop} {Fin : List Value → List (Addr × Obj) → Prop} (n : Nat) (Inv : Nat → List Value → List (Addr × Obj) → Prop)
    (step : ∀ i ys news, i < n → Inv i ys news → ∀ v I oI C oC D m₂ h tk (E' : Value → Shared → Prop), P i v → NsObj oC m₂ → m₂ x = some v → Fr h₀ L h m → News h₀ L h ((I, oI) :: (C, oC) :: (D, lst ys) :: news) → Off3 I C D news → ((@Ne Nat I C) ∧ (@Ne Nat I D) ∧ (@Ne Nat C D)) →
      wpAny (model prog w) A (eval elt (compEnvC scope cl C env)) (CompEnd h₀ L m { s with heap := h, toks := tk } I oI C oC D (lst ys) S (fun y news' => Inv (i + 1) (ys ++ [y]) news')) E' { s with heap := h, toks := tk })
    (fin : ∀ ys news, Inv n ys news → Fin ys news) : ∀ k i ys news, i + k = n → Inv i ys news → CompRest prog w A h₀ L m env elt x scope cl s S P Fin k i ys news := by
  intro k
  induction k with
  | zero =>
    intro i ys news hk hI
    have : i = n := hk
    subst this
    exact CompRest.zero (fin _ _ hI)
  | succ k ih =>
    intro i ys news hk hI
    refine CompRest.succ fun v I oI C oC D m₂ h tk E' hP hn hm F N O ne => ?_
    refine wpAny_mono (step i ys news (by omega) hI v I oI C oC D m₂ h tk E' hP hn hm F N O ne) (fun y s₂ hc => ?_) fun _ _ e => e
    obtain ⟨h', tk', news', e, F', N', O', hS, r⟩ := hc
    exact ⟨h', tk', news', e, F', N', O', hS, ih (i + 1) _ _ (by omega) r⟩
theorem comp_P {elt iter : PySem.Expr} {x : Str} {px : Pos} {scope : Scope} {cl : List (Str × Addr)} {pos : Pos} {Q : Value → Shared → Prop} (F₀ : Fr h₀ L s.heap m)
    (hclos : closureFor scope env = pure cl) (hcell : ∀ y ∈ scope.names, y.2 ≠ .cell) (hkind : scope.kind = .function)
    (hnames : ∀ y ∈ scope.names, y.2 = .local → scope.names.lookup y.1 = some .local) (hx : scope.names.lookup x = some .local)
    (h : wpAny (model prog w) A (eval iter env) (fun xv s₁ => Stop (∃ (news : List (Addr × Obj)) (ax : Addr) (vs : List Value) (c : Nat) (Inv : Nat → List Value → List (Addr × Obj) → Prop),
      xv = .ref ax ∧ A.handled = none ∧ Fr h₀ L s₁.heap m ∧ News h₀ L s₁.heap news ∧ (ax, W.listOf vs.toArray c) ∈ news ∧ vs.length ≤ sizeLine ∧ Inv 0 [] news ∧ (∀ i ys nw, Inv i ys nw → (ax, W.listOf vs.toArray c) ∈ nw) ∧
      (∀ i ys nw v I oI C oC D m₂ h' tk (E' : Value → Shared → Prop), vs[i]? = some v → Inv i ys nw → h'.Ns (compEnvC scope cl C env).locals m₂ → NsObj oC m₂ → m₂ x = some v → Fr h₀ L h' m → News h₀ L h' ((I, oI) :: (C, oC) :: (D, lst ys) :: nw) → Off3 I C D nw → ((@Ne Nat I C) ∧ (@Ne Nat I D) ∧ (@Ne Nat C D)) →
        wpAny (model prog w) A (eval elt (compEnvC scope cl C env)) (fun y s' => Stop (∃ h'' tk' nw', s' = { s₁ with heap := h'', toks := tk' } ∧ Fr h₀ L h'' m ∧ News h₀ L h'' ((I, oI) :: (C, oC) :: (D, lst ys) :: nw') ∧ (∀ p ∈ nw', p.1 ≠ I ∧ p.1 ≠ C ∧ p.1 ≠ D) ∧ Inv (i + 1) (ys ++ [y]) nw')) E' { s₁ with heap := h', toks := tk }) ∧
      (∀ D ys nw h' tk, Fr h₀ L h' m → News h₀ L h' ((D, lst ys) :: nw) → (∀ q ∈ nw, q.1 ≠ D) → Inv vs.length ys nw → Q (.ref D) { s₁ with heap := h', toks := tk }))) E s)
    (hs : ∀ x, foldedSetIterable iter env x = pure x := by intro _; rfl) :
    wpAny (model prog w) A (eval (.ListComp elt [⟨.Name x px, iter, [], 0⟩] scope pos) env) Q E s := by
  refine ListComp_U F₀ hclos hcell hkind hnames hx (wpAny_mono h (fun xv s₁ h₁ => ?_) fun _ _ e => e) hs
  obtain ⟨news, ax, vs, c, Inv, rfl, hh, F, N, hm, hsz, hI, hlist, step, fin⟩ := h₁
  refine CompSrc.ledger (k := c) hh F N hm (by rw [List.size_toArray]; exact hsz) fun g => ?_
  refine compRest_ind vs.length Inv ?_ ?_ _ 0 [] news (by rw [List.size_toArray]; omega) hI
  · intro i ys nw hi hInv v I oI C oC D m₂ h' tk E' hv hn hm' F' N' O ne
    refine wpAny_mono (step i ys nw v I oI C oC D m₂ h' tk E' (by simpa using hv) hInv (hn.ns (N' (C, oC) (.tail _ (.head _))).1) hn hm' F' N' O ne) (fun y s₂ hc => ?_) fun _ _ e => e
    obtain ⟨h'', tk', nw', e, F'', N'', O'', hI'⟩ := hc
    exact ⟨h'', tk', nw', e, F'', N'', Off3.of O'', .inr ⟨_, hlist _ _ _ hI', rfl, _, rfl⟩, hI'⟩
  · intro ys nw hInv D h' tk F' N' o1
    exact fin D ys nw h' tk F' N' (off1_mem o1) hInv
end
end Mine
end
section
namespace Mine
section
variable {prog : Program} {w : World} {A : Around} {E : Value → Shared → Prop} {s : Shared} {h₀ : Heap} {L : Addr} {nw : List (Addr × Obj)} {Q : Value → Shared → Prop}
theorem range_all (n : Nat) : (List.range n).all (fun _ => true) = true := by
  rw [List.all_eq_true]; intro _ _; rfl
theorem told_ne {tl gl : Addr} {ts gs : List Value} {tn gn : Nat} {G : List (Int × Value)} (N : News h₀ L s.heap nw) (ht : (tl, W.listOf ts.toArray tn) ∈ nw) (hg : (gl, W.listOf gs.toArray gn) ∈ nw) (T : TIt nw ts G) (U : TIt nw gs G) (hu : A.units + 10 < cLine)
    (h : Q (.bool false) s) : wpAny (model prog w) A (compareOp .NotEq (.ref tl) (.ref gl)) Q E s := by
  have hu1 : A.in1.units < cLine := by simp only [units_in1]; omega
  have hu2 : A.units < cLine := by omega
  have lt := T.length
  have lg := U.length
  refine PySem.SeqAt.RcNeAt.lists (e := fun _ => true) (News.isList N ht) (News.isList N hg) (by rw [List.size_toArray, List.size_toArray, lt, lg]) hu2 (fun j h1 h2 => ?_) prog w E Q ?_
  · have q1 : j < ts.length := by simpa using h1
    have q2 : j < gs.length := by simpa using h2
    have q3 : j < G.length := by omega
    obtain ⟨a, t, e1, m1⟩ := T.at j q1 q3
    obtain ⟨b, u, e2, m2⟩ := U.at j q2 q3
    have e1' : ts.toArray[j] = .ref a := by simpa using e1
    have e2' : gs.toArray[j] = .ref b := by simpa using e2
    rw [e1', e2']
    by_cases hab : a = b
    · rw [hab]; exact PySem.SeqAt.EqAt.same _
    · refine PySem.SeqAt.EqAt.of_refs hab ?_
      have hr := PySem.SeqAt.RcAt.tuples (A := A.in1) (s := s) (e := fun _ => true) (l := a) (b := b) (items := #[Value.int G[j].1 t, G[j].2]) (items2 := #[Value.int G[j].1 u, G[j].2]) ⟨_, (N _ m1).1, rfl, _, rfl⟩ ⟨_, (N _ m2).1, rfl, _, rfl⟩ hu1 (fun i i1 i2 => by
        have hi : i = 0 ∨ i = 1 := by
          have : i < 2 := i1
          omega
        rcases hi with rfl | rfl
        · have := PySem.SeqAt.EqAt.int_int (A := A.in1.in1) (s := s) G[j].1 t G[j].1 u
          rwa [show (G[j].1 == G[j].1) = true by simp] at this
        · exact PySem.SeqAt.EqAt.same _)
      exact hr
  · rw [range_all]
    exact h
theorem told_eq {tl gl : Addr} {ts gs : List Value} {tn gn : Nat} {G : List (Int × Value)} (N : News h₀ L s.heap nw) (ht : (tl, W.listOf ts.toArray tn) ∈ nw) (hg : (gl, W.listOf gs.toArray gn) ∈ nw) (T : TIt nw ts G) (U : TIt nw gs G) (hu : A.units + 10 < cLine)
    (h : Q (.bool true) s) : wpAny (model prog w) A (compareOp .Eq (.ref tl) (.ref gl)) Q E s := by
  have hu1 : A.in1.units < cLine := by simp only [units_in1]; omega
  have hu2 : A.units < cLine := by omega
  have lt := T.length
  have lg := U.length
  refine PySem.SeqAt.RcAt.lists (e := fun _ => true) (News.isList N ht) (News.isList N hg) (by rw [List.size_toArray, List.size_toArray, lt, lg]) hu2 (fun j h1 h2 => ?_) prog w E Q ?_
  · have q1 : j < ts.length := by simpa using h1
    have q2 : j < gs.length := by simpa using h2
    have q3 : j < G.length := by omega
    obtain ⟨a, t, e1, m1⟩ := T.at j q1 q3
    obtain ⟨b, u, e2, m2⟩ := U.at j q2 q3
    have e1' : ts.toArray[j] = .ref a := by simpa using e1
    have e2' : gs.toArray[j] = .ref b := by simpa using e2
    rw [e1', e2']
    by_cases hab : a = b
    · rw [hab]; exact PySem.SeqAt.EqAt.same _
    · refine PySem.SeqAt.EqAt.of_refs hab ?_
      have hr := PySem.SeqAt.RcAt.tuples (A := A.in1) (s := s) (e := fun _ => true) (l := a) (b := b) (items := #[Value.int G[j].1 t, G[j].2]) (items2 := #[Value.int G[j].1 u, G[j].2]) ⟨_, (N _ m1).1, rfl, _, rfl⟩ ⟨_, (N _ m2).1, rfl, _, rfl⟩ hu1 (fun i i1 i2 => by
        have hi : i = 0 ∨ i = 1 := by
          have : i < 2 := i1
          omega
        rcases hi with rfl | rfl
        · have := PySem.SeqAt.EqAt.int_int (A := A.in1.in1) (s := s) G[j].1 t G[j].1 u
          rwa [show (G[j].1 == G[j].1) = true by simp] at this
        · exact PySem.SeqAt.EqAt.same _)
      exact hr
  · rw [range_all]
    exact h
theorem keq_all {K : Type} [DecidableEq K] {kb : List (K × Value)} : ∀ {l : List (K × Value)}, (∀ p ∈ l, valueAt kb p.1 = some p.2) → KeqHits A s kb l true
  | [], _ => .nil
  | (k, v) :: r, h => by
    have := KeqHits.hit (A := A) (s := s) (kb := kb) (r := r) (e := true) (b := true) (h (k, v) List.mem_cons_self) (PySem.SeqAt.EqAt.same v) (keq_all fun p hp => h p (List.mem_cons_of_mem _ hp))
    exact this
theorem dict_ne_same {a b : Addr} {oa ob : Obj} {ka kb : List (Int × Value)} (N : News h₀ L s.heap nw) (ha : (a, oa) ∈ nw) (hb : (b, ob) ∈ nw) (da : oa.IsDictOf (intKind prog w) ka) (db : ob.IsDictOf (intKind prog w) kb) (hp : ka.Perm kb) (sa : (a == sysModules) = false) (sb : (b == sysModules) = false) (hu : A.units + 10 < cLine)
    (h : Q (.bool false) s) : wpAny (model prog w) A (compareOp .NotEq (.ref a) (.ref b)) Q E s := by
  refine keq_ne (knd := intKind prog w) (r := true) sa sb (Heap.dictOf_iff.mpr ⟨oa, (N _ ha).1, da⟩) (Heap.dictOf_iff.mpr ⟨ob, (N _ hb).1, db⟩) (by omega) (fun _ => keq_all fun p hpm => ?_) ?_
  · exact valueAt_perm (List.Perm.refl _) (isDict_nodup db) (hp.mem_iff.mp hpm)
  · have : (!(ka.length == kb.length && true)) = false := by
      rw [hp.length_eq]; simp
    rw [this]
    exact h
end
end Mine
end
theorem Mine.top_off_q1 : True := by
  w_top off
  try walk1
  trivial
section
namespace Mine
theorem focus_one {h₀ h : Heap} {L c a : Addr} {o oa : Obj} {news : List (Addr × Obj)} (N : News h₀ L h ((a, oa) :: news)) (hc : (c, o) ∈ news) : News h₀ L h ((a, oa) :: (c, o) :: offs [c] news) :=
  news_sub N (List.forall_mem_cons.mpr ⟨.head _, List.forall_mem_cons.mpr ⟨.tail _ hc, fun _ hp => .tail _ (mem_offs.mp hp).1⟩⟩)
theorem off_one {c : Addr} {o : Obj} {news : List (Addr × Obj)} (_h : (c, o) ∈ news) : ∀ p ∈ offs [c] news, p.1 ≠ c := offs_off (List.mem_singleton.mpr rfl)
end Mine
section
open Mine
local macro_rules | `(tactic| walk_at "call ref") => `(tactic| (k_here; (with_reducible show wpAny _ _ (call (Value.ref _) _ _) _ _ _); refine Mine.stop ?_))
local macro_rules | `(tactic| walk_at "newList") => `(tactic| (k_here; (with_reducible show wpAny _ _ (newList []) _ _ _); refine Mine.stop ?_))
local macro_rules | `(tactic| walk_at "exec For Name Call cons nil") => `(tactic| (k_here; refine Mine.stop ?_))
local macro_rules | `(tactic| walk_at "exec If Compare") => `(tactic| (k_here; refine Mine.stop_if (by with_reducible assumption) ?_))
local macro_rules | `(tactic| walk_at "eval ListComp") => `(tactic| (k_here; refine Mine.stop ?_))
local macro_rules | `(tactic| walk_at "subscriptTail") => `(tactic| (k_here; k_dflt (refine item_litK (by exact News.isList (by k_asm) (by k_mem)) (by omega) (by omega) (Mine.five_at (by omega) (by omega)) ?_)))
local macro_rules | `(tactic| walk_at "subscriptTail") => `(tactic| (k_here; k_dflt (refine item_litK (by exact News.isList (by k_asm) (by k_mem)) (by omega) (by omega) (Mine.four_at (d := 0) (by omega) (by omega)) ?_)))
local macro_rules | `(tactic| walk_at "subscriptTail") => `(tactic| (k_here; k_dflt (refine item_tupleT (by exact News.isTup (by k_asm) (by k_mem)) (by decide) (by decide) (by exact rfl) (by exact rfl) ?_)))
local macro_rules | `(tactic| walk_at "pyIter ref") => `(tactic| (k_here; refine Mine.stop ?_))
local macro_rules | `(tactic| walk_at "pyIter") => `(tactic| (k_here; refine Mine.stop ?_))
local macro_rules | `(tactic| k_mem) => `(tactic| with_reducible first | assumption | exact List.mem_cons_self | exact List.mem_cons_of_mem _ (by assumption) | exact List.mem_cons_of_mem _ List.mem_cons_self | exact List.mem_cons_of_mem _ (List.mem_cons_of_mem _ (by assumption)) | exact List.mem_cons_of_mem _ (List.mem_cons_of_mem _ (List.mem_cons_of_mem _ (by assumption))))
local macro_rules | `(tactic| k_ne) => `(tactic| with_reducible (first | assumption | exact Ne.symm (by assumption)))
local macro_rules | `(tactic| k_ne) => `(tactic| k_dflt (refine neN ?_; (try dsimp only); omega))
local macro_rules | `(tactic| walk_at "eval Lambda") => `(tactic| (k_here; refine Mine.stop ?_))
local macro_rules | `(tactic| k_mem) => `(tactic| with_reducible exact List.mem_cons_of_mem _ (List.mem_cons_of_mem _ List.mem_cons_self))
local macro_rules | `(tactic| k_mem) => `(tactic| with_reducible exact List.mem_cons_of_mem _ (List.mem_cons_of_mem _ (List.mem_cons_of_mem _ List.mem_cons_self)))
local macro_rules | `(tactic| walk_at "compareOp NotEq ref ref") => `(tactic| (k_here; (with_reducible show wpAny _ _ (compareOp CmpOp.NotEq (Value.ref _) (Value.ref _)) _ _ _); refine Mine.stop_cmp (by with_reducible assumption) ?_))
local macro_rules | `(tactic| walk_at "call type:dict") => `(tactic| (k_here; refine Mine.stop ?_))
local macro_rules | `(tactic| walk_at "call builtin:sorted") => `(tactic| (k_here; refine Mine.stop ?_))
local macro_rules | `(tactic| walk_at "call builtin:len") => `(tactic| (k_here; k_dflt (refine kun_lenL (by exact News.isList (by k_asm) (by k_mem)) (by assumption) (by omega) ?_)))
local macro_rules | `(tactic| walk_at "compareOp Eq ref ref") => `(tactic| (k_here; (with_reducible show wpAny _ _ (compareOp CmpOp.Eq (Value.ref _) (Value.ref _)) _ _ _); refine Mine.stop ?_))
local macro_rules | `(tactic| k_qdec) => `(tactic| decide +kernel)
noncomputable def Mine.S1 : (p : Prop) ×' (q : Prop) ×' (Mine.Box p → Mine.Box q → PySem.Challenge.rw_jh0006_01.Holds) := by
  refine' ⟨_, _, fun zzA zzB => Mine.hd.2 ⟨?main⟩⟩
  case main =>
    unfold Mine.hd
    dsimp only
    k_go0
    with_reducible show wpAny _ _ _ _ _ _
    k_fold
    k_steps
    refine unstop ?_
    rename Below _ _ _ _ => B1
    rename Top _ _ _ _ _ _ => T1
    rename Frag.In _ _ => X1
    rename Fr _ _ _ _ => F1
    rename News _ _ _ _ => N1
    rename IntsAre _ _ => hI
    have hh : callerA.handled = none := rfl
    rename Shared => s₁
    rename World => w
    rename 233 < _ => hl0

    have hd : callerA.depth + 200 < recursionLimit := by simp only [depth_caller]; decide
    have hu : callerA.units + 400 < cLine := by decide
    refine wpAny_call (C_state (Mine.Amb.deep hh B1 X1 T1 rfl rfl) F1 N1 (by k_room) lifted hI ?hlen fun h2 tk2 st sl us ys z tz t0 n1 n2 hIs hys hz0 hz1 hst F2 N2 => ?_)
    case hlen => omega
    clear F1 N1
    dsimp only
    k_steps
    refine unstop ?_
    rename Fr _ _ _ _ => F1
    rename News _ _ _ _ => N1
    refine wpAny_call (C_nextS (Mine.Amb.deep hh B1 X1 T1 rfl rfl) F1 N1 (by k_room) ⟨us, _, z, tz, t0, n1, n2, .tail _ (.head _), .tail _ (.tail _ (.head _)), hIs, hys, hz0, hz1⟩ (by decide) (by decide) fun h3 tk3 news3 r0 tr0 hr0 hr1 F3 N3 S3 K3 => ?_)
    rename _ < _ ∧ _ => hl1
    have hlit := K3 _ (.head _) (by simpa using Ne.symm (Nat.ne_of_lt hl1.1))
    have hcell := K3 _ (.tail _ (.tail _ (.tail _ (.head _)))) (by simpa using hst _ (.head _))
    have htab := K3 _ (.tail _ (.tail _ (.tail _ (.tail _ (.head _))))) (by simpa using hst _ (.tail _ (.head _)))
    clear N1 F1

    dsimp only
    k_steps
    refine unstop ?_
    rename Fr _ _ _ _ => F1
    rename News _ _ _ _ => N1
    refine wpAny_call (C_nextS (Mine.Amb.deep hh B1 X1 T1 rfl rfl) F1 N1 (by k_room) S3 (by decide) (by decide) fun h4 tk4 news4 r1 tr1 hs0 hs1 F4 N4 S4 K4 => ?_)
    have hne1 : ∀ p ∈ news3, p.1 ≠ st → p ∈ news4 := fun p hp hq => K4 p hp (by simpa using hq)
    clear F1 N1 hlit
    dsimp only
    k_steps
    refine unstop ?_
    rename Fr _ _ _ _ => F1
    rename News _ _ _ _ => N1
    rename _ = Data.cell _ => hwd
    refine C_new (o := leastOf r0) (Mine.Amb.deep hh B1 X1 T1 rfl rfl) F1 N1 (by k_room) (by omega) (by omega) leastOf_nonneg fun h5 tk5 x dx d qc ta news5 F5 N5 K5 I5 M5 => ?_
    have hcst := hst _ (.head _)
    have hcell5 := K5 _ (K4 _ hcell (by simpa using hcst))
    have htab5 := K5 _ (K4 _ htab (by simpa using hst _ (.tail _ (.head _))))
    have S5 : StIn news5 st sl (0 + 1 + 1) := by
      obtain ⟨us', ys', z', tz', tp', n1', n2', a1, a2, a3⟩ := S4
      exact ⟨us', ys', z', tz', tp', n1', n2', K5 _ a1, K5 _ a2, a3⟩
    have hsl := S5.ne N5
    have hoff := off_cell N5 hcell5 hwd
    clear F1 N1
    dsimp only
    k_steps
    refine unstop ?_
    rename Fr _ _ _ _ => F1
    rename News _ _ _ _ => N1
    refine wpAny_call (C_sizes (o := leastOf r0) (Mine.Amb.deep hh B1 X1 T1 rfl rfl) F1 N1 (by k_room) fun h6 tk6 sz t1 t2 hsz F6 N6 => ?_)
    have hszc := Nat.ne_of_gt (hsz _ hcell5)
    have N7 := focus_one N6 hcell5
    have hrc := off_one hcell5
    have hszc' := hsz _ hcell5
    dsimp only at hszc'
    clear F1 N1 N6
    dsimp only
    k_steps
    refine unstop ?_
    rename Fr _ _ _ _ => F1
    rename News _ _ _ _ => N1
    refine newList_K F1 N1 fun rl h8 F8 N8 hrl => ?_
    have hrl1 := hrl _ (List.mem_cons_self)
    have hrl2 := hrl _ (List.mem_cons_of_mem _ List.mem_cons_self)
    replace hrl1 := ltN hrl1
    replace hrl2 := ltN hrl2
    clear F1 N1
    k_steps
    refine unstop ?_
    rename Fr _ _ _ _ => F1
    rename News _ _ _ _ => N1
    refine newList_K F1 N1 fun tl h9 F9 N9 htl => ?_
    have htl0 := ltN (htl _ List.mem_cons_self)
    have htl1 := ltN (htl _ (List.mem_cons_of_mem _ List.mem_cons_self))
    have htl2 := ltN (htl _ (List.mem_cons_of_mem _ (List.mem_cons_of_mem _ List.mem_cons_self)))
    clear F1 N1
    k_steps
    refine unstop ?_
    rename Fr _ _ _ _ => F1
    rename News _ _ _ _ => N1
    refine newList_K F1 N1 fun gl h10 F10 N10 hgl => ?_
    clear F1 N1
    have hsz0 := hsz
    k_steps
    refine unstop ?_
    rename Fr _ _ _ _ => F1
    rename News _ _ _ _ => N1
    rename _ = Data.cell (some _) => hoc
    have V0 := fun (I : Addr) (hI1 : s₁.heap.objs.size + 1 ≠ I) (hI2 : 233 ≠ I) =>
      LInv.start (w := w) (la := rawInt 205) (lb := rawInt 38) (ql := Str.ofString "law.<locals>.<lambda>") (P := 233) (I := I) (pl := 2) N1 hoff hsl hsz0 (fun p hp hq => .tail _ (.tail _ (.tail _ (.tail _ (.tail _ (mem_offs.mpr ⟨hp, by simpa using hq⟩)))))) S5 I5 M5 htab5 (.tail _ (.tail _ (.tail _ (.head _)))) (.tail _ (.tail _ (.head _))) (.tail _ (.head _)) (.head _) (.tail _ (.tail _ (.tail _ (.tail _ (.head _))))) hoc hrl1 htl0 (hgl _ (.head _)) ⟨hI1, hI2⟩
    refine For_invVF F1 rfl rfl ?_ (hE := ?hE)
    case hE => with_unfolding_all passes_own
    k_steps
    refine unstop ?_
    rename Fr _ _ _ _ => F2
    rename News _ _ _ _ => N2
    refine wpAny_call (C_nextS (Mine.Amb.deep hh B1 X1 T1 rfl rfl) F2 N2 (by k_room) (V0 _ (Nat.ne_of_lt (Nat.lt_succ_self _)) (Nat.ne_of_lt (Nat.lt_succ_of_lt (Nat.lt_succ_of_lt hl0)))).S (by decide) (by decide) fun h11 tk11 news11 r2 tr2 hq0 hq1 F3 N3 S11 K11 => ?_)
    have V1 : ∀ I, s₁.heap.objs.size + 1 ≠ I → 233 ≠ I → LInv w (rawInt 205) (rawInt 38) (Str.ofString "law.<locals>.<lambda>") [] (s₁.heap.objs.size + 1) st sl x dx d rl gl tl sz 233 I qc news11 3 [] [] [] [] (1 + r1) (afOf (1 + r1) (leastOf r0)) := fun I h1 h2 => (V0 I h1 h2).next (pl' := 3) N2 K11 S11
    clear F2 N2
    dsimp only
    k_steps
    refine unstop ?_
    rename IsRange _ _ _ _ _ _ _ _ => hR
    rename Heap => hR0
    rename Fr _ _ _ _ => F4
    rename News _ _ _ _ => N4
    obtain ⟨m0, hm0, F4'⟩ : ∃ m0, m0 = _ ∧ Fr _ _ _ m0 := ⟨_, rfl, F4⟩
    clear F4
    have V2 := V1 _ (Nat.ne_of_lt (Heap.lt_size (N4 _ (V1 (s₁.heap.objs.size + 2) (by omega) (by omega)).cel.choose_spec.1).1)) (Nat.ne_of_lt (Heap.lt_size (N4 _ (V1 (s₁.heap.objs.size + 2) (by omega) (by omega)).tab.choose_spec.1).1))
    have haf0 : 0 ≤ afOf (1 + r1) (leastOf r0) := afOf_nonneg (by omega) leastOf_nonneg
    have haf1 : afOf (1 + r1) (leastOf r0) ≤ 1 + r1 := afOf_le (by omega)
    refine iter_range_mine (n := (8 + r2).toNat) (fun i m nw => ∃ sz pl row ents G M af, JInv w (rawInt 205) (rawInt 38) (Str.ofString "law.<locals>.<lambda>") [] (s₁.heap.objs.size + 1) st sl x dx d rl gl tl 233 _ qc nw sz pl row ents G M af i ∧ ∃ u1 u2 u3 u4 u5 u6 u7, m = nest8 m0 u1 u2 u3 u4 u5 u6 u7 (some (.ref sz)))
      hh hR (range_small hq0 hq1) (range_size hq0) F4' N4 ⟨sz, 3, [], [], [], 1 + r1, afOf (1 + r1) (leastOf r0), ⟨V2, rfl, haf0, haf1, by omega, by simp; omega, Nat.zero_le _, by decide, by decide⟩, frm8 _ _ _ _ _ _ _ _ _ _ _ (.inl (by rw [hm0]; rfl)) (fun _ _ _ _ _ _ _ _ _ => rfl)⟩ ?_ ?_ ?_
    · rintro i m1 a b hg ⟨sz', pl', row', ents', G', M', af', hJ, hm⟩
      exact ⟨sz', pl', row', ents', G', M', af', ⟨hJ.V.grow hg, hJ.Sm, hJ.a0, hJ.a1, hJ.a2, hJ.r, hJ.g, hJ.p0, hJ.p1⟩, hm⟩
    · rename Fr _ _ h11 _ => F3
      rename News _ _ h11 _ => N3
      clear F3 N3 F4' N4 V2 V1 V0 haf0 haf1 hsz0 hsz hgl htl htl0 htl1 htl2 hrl hrl1 hrl2 hoff K11 K5 K4 K3 S11 S5 S4 S3 I5 M5 hcell hcell5 htab htab5 hst hIs hR hcst hne1 hsl hrc hszc hszc' hl1
      dsimp only at hm0
      subst hm0
      rename_i LT1 LT3 LT4 LT5 LT6 LT7 LT8 LT9 LT10 LT11 LT12 LT14 LT15 LT16 LT17 LT18 LT19 LT21 LT22 LT23 LT24 LT25 LT26 LT27 LT28 LT29 LT30 LT31 LT32 LT33 LT34 LT35 LT36 LT38 LT39 LT40 LT41 LT42 LT43 LT44 LT46 LT72 LT73 LT74 LT75 LT83 LT84 LT92 LT93 LT102 LT103 LT109 LT110 LT113 LT114 LT117 LT118 LT120 LT123 LT133 LT134 LT135 LT136 LT137
      revert w LT1 s₁ LT3 LT4 LT5 LT6 LT7 LT8 LT9 LT10 LT11 LT12 hT8 LT14 LT15 LT16 LT17 LT18 LT19 hT9 LT21 LT22 LT23 LT24 LT25 LT26 LT27 LT28 LT29 LT30 LT31 LT32 LT33 LT34 LT35 LT36 hI LT38 LT39 LT40 LT41 LT42 LT43 LT44 hwd LT46 X1 T1 B1 lifted codeHd hl0 qk ek hh hd hu h2 tk2 st sl us ys z tz t0 n1 n2 hys hz0 hz1 LT72 LT73 LT74 LT75 h3 tk3 news3 r0 tr0 hr0 hr1 LT83 LT84 h4 tk4 news4 r1 tr1 hs0 hs1 LT92 LT93 h5 tk5 x dx d qc ta news5 LT102 LT103 h6 tk6 sz t1 t2 LT109 LT110 rl h8 LT113 LT114 tl h9 LT117 LT118 hoc LT120 gl h10 LT123 tk h11 tk11 news11 r2 tr2 hq0 hq1 hR0 LT133 LT134 LT135 LT136 LT137
      exact zzA.out
    · rename Fr _ _ h11 _ => F3
      rename News _ _ h11 _ => N3
      clear F3 N3 F4' N4 V2 V1 V0 haf0 haf1 hsz0 hsz hgl htl htl0 htl1 htl2 hrl hrl1 hrl2 hoff K11 K5 K4 K3 S11 S5 S4 S3 I5 M5 hcell hcell5 htab htab5 hst hIs hR hcst hne1 hsl hrc hszc hszc' hl1
      dsimp only at hm0
      subst hm0
      rename_i LD1 LD3 LD4 LD5 LD6 LD7 LD8 LD9 LD10 LD11 LD12 LD14 LD15 LD16 LD17 LD18 LD19 LD21 LD22 LD23 LD24 LD25 LD26 LD27 LD28 LD29 LD30 LD31 LD32 LD33 LD34 LD35 LD36 LD38 LD39 LD40 LD41 LD42 LD43 LD44 LD46 LD72 LD73 LD74 LD75 LD83 LD84 LD92 LD93 LD102 LD103 LD109 LD110 LD113 LD114 LD117 LD118 LD120 LD123 LD133 LD134 LD135 LD136 LD137
      revert w LD1 s₁ LD3 LD4 LD5 LD6 LD7 LD8 LD9 LD10 LD11 LD12 hT8 LD14 LD15 LD16 LD17 LD18 LD19 hT9 LD21 LD22 LD23 LD24 LD25 LD26 LD27 LD28 LD29 LD30 LD31 LD32 LD33 LD34 LD35 LD36 hI LD38 LD39 LD40 LD41 LD42 LD43 LD44 hwd LD46 X1 T1 B1 lifted codeHd hl0 qk ek hh hd hu h2 tk2 st sl us ys z tz t0 n1 n2 hys hz0 hz1 LD72 LD73 LD74 LD75 h3 tk3 news3 r0 tr0 hr0 hr1 LD83 LD84 h4 tk4 news4 r1 tr1 hs0 hs1 LD92 LD93 h5 tk5 x dx d qc ta news5 LD102 LD103 h6 tk6 sz t1 t2 LD109 LD110 rl h8 LD113 LD114 tl h9 LD117 LD118 hoc LD120 gl h10 LD123 tk h11 tk11 news11 r2 tr2 hq0 hq1 hR0 LD133 LD134 LD135 LD136 LD137
      exact zzB.out
end
end
theorem Mine.top_off_q2 : True := by
  w_top off
  try walk1
  trivial
section
section
open Mine
local macro_rules | `(tactic| walk_at "call ref") => `(tactic| (k_here; (with_reducible show wpAny _ _ (call (Value.ref _) _ _) _ _ _); refine Mine.stop ?_))
local macro_rules | `(tactic| walk_at "newList") => `(tactic| (k_here; (with_reducible show wpAny _ _ (newList []) _ _ _); refine Mine.stop ?_))
local macro_rules | `(tactic| walk_at "exec For Name Call cons nil") => `(tactic| (k_here; refine Mine.stop ?_))
local macro_rules | `(tactic| walk_at "exec If Compare") => `(tactic| (k_here; refine Mine.stop_if (by with_reducible assumption) ?_))
local macro_rules | `(tactic| walk_at "eval ListComp") => `(tactic| (k_here; refine Mine.stop ?_))
local macro_rules | `(tactic| walk_at "subscriptTail") => `(tactic| (k_here; k_dflt (refine item_litK (by exact News.isList (by k_asm) (by k_mem)) (by omega) (by omega) (Mine.five_at (by omega) (by omega)) ?_)))
local macro_rules | `(tactic| walk_at "subscriptTail") => `(tactic| (k_here; k_dflt (refine item_litK (by exact News.isList (by k_asm) (by k_mem)) (by omega) (by omega) (Mine.four_at (d := 0) (by omega) (by omega)) ?_)))
local macro_rules | `(tactic| walk_at "subscriptTail") => `(tactic| (k_here; k_dflt (refine item_tupleT (by exact News.isTup (by k_asm) (by k_mem)) (by decide) (by decide) (by exact rfl) (by exact rfl) ?_)))
local macro_rules | `(tactic| walk_at "pyIter ref") => `(tactic| (k_here; refine Mine.stop ?_))
local macro_rules | `(tactic| walk_at "pyIter") => `(tactic| (k_here; refine Mine.stop ?_))
local macro_rules | `(tactic| k_mem) => `(tactic| with_reducible first | assumption | exact List.mem_cons_self | exact List.mem_cons_of_mem _ (by assumption) | exact List.mem_cons_of_mem _ List.mem_cons_self | exact List.mem_cons_of_mem _ (List.mem_cons_of_mem _ (by assumption)) | exact List.mem_cons_of_mem _ (List.mem_cons_of_mem _ (List.mem_cons_of_mem _ (by assumption))))
local macro_rules | `(tactic| k_ne) => `(tactic| with_reducible (first | assumption | exact Ne.symm (by assumption)))
local macro_rules | `(tactic| k_ne) => `(tactic| k_dflt (refine neN ?_; (try dsimp only); omega))
local macro_rules | `(tactic| walk_at "eval Lambda") => `(tactic| (k_here; refine Mine.stop ?_))
local macro_rules | `(tactic| k_mem) => `(tactic| with_reducible exact List.mem_cons_of_mem _ (List.mem_cons_of_mem _ List.mem_cons_self))
local macro_rules | `(tactic| k_mem) => `(tactic| with_reducible exact List.mem_cons_of_mem _ (List.mem_cons_of_mem _ (List.mem_cons_of_mem _ List.mem_cons_self)))
local macro_rules | `(tactic| walk_at "compareOp NotEq ref ref") => `(tactic| (k_here; (with_reducible show wpAny _ _ (compareOp CmpOp.NotEq (Value.ref _) (Value.ref _)) _ _ _); refine Mine.stop_cmp (by with_reducible assumption) ?_))
local macro_rules | `(tactic| walk_at "call type:dict") => `(tactic| (k_here; refine Mine.stop ?_))
local macro_rules | `(tactic| walk_at "call builtin:sorted") => `(tactic| (k_here; refine Mine.stop ?_))
local macro_rules | `(tactic| walk_at "call builtin:len") => `(tactic| (k_here; k_dflt (refine kun_lenL (by exact News.isList (by k_asm) (by k_mem)) (by assumption) (by omega) ?_)))
local macro_rules | `(tactic| walk_at "compareOp Eq ref ref") => `(tactic| (k_here; (with_reducible show wpAny _ _ (compareOp CmpOp.Eq (Value.ref _) (Value.ref _)) _ _ _); refine Mine.stop ?_))
noncomputable def Mine.S2 : (p : Prop) ×' (q : Prop) ×' (Mine.Box p → Mine.Box q → Mine.S1.1) := by
  refine' ⟨_, _, fun zzA zzB => ?main⟩
  case main =>
    intro w LT1 s₁ LT3 LT4 LT5 LT6 LT7 LT8 LT9 LT10 LT11 LT12 hT8 LT14 LT15 LT16 LT17 LT18 LT19 hT9 LT21 LT22 LT23 LT24 LT25 LT26 LT27 LT28 LT29 LT30 LT31 LT32 LT33 LT34 LT35 LT36 hI LT38 LT39 LT40 LT41 LT42 LT43 LT44 hwd LT46 X1 T1 B1 lifted codeHd hl0 qk ek hh hd hu h2 tk2 st sl us ys z tz t0 n1 n2 hys hz0 hz1 LT72 LT73 LT74 LT75 h3 tk3 news3 r0 tr0 hr0 hr1 LT83 LT84 h4 tk4 news4 r1 tr1 hs0 hs1 LT92 LT93 h5 tk5 x dx d qc ta news5 LT102 LT103 h6 tk6 sz t1 t2 LT109 LT110 rl h8 LT113 LT114 tl h9 LT117 LT118 hoc LT120 gl h10 LT123 tk h11 tk11 news11 r2 tr2 hq0 hq1 hR0 LT133 LT134 LT135 LT136 LT137
    rintro i t m1 nw own hh1 tk1 hin ⟨sz1, pl, row, ents, G, M, af, hJ, u1, u2, u3, u4, u5, u6, u7, rfl⟩ hown ⟨oI, xs, hoI, hoIf, hoIc⟩ F5 N5
    have V := hJ.V.own (X' := own) fun p hp => ⟨(hown p hp).1, by
      have e : p = (_, oI) := Prod.ext (hown p hp).2 (news_fun N5 (a := p.1) (o := p.2) (hown p hp).1 (by rw [(hown p hp).2]; exact (hown _ hoI).1))
      rw [e]; exact ⟨xs, hoIf⟩, by rw [(hown p hp).2]; exact Ne.symm hJ.V.nI.2⟩
    have F6 : Fr (ghostOf s₁.heap [(235, 233)]) s₁.heap.objs.size _ _ := F5
    have N6 : News (ghostOf s₁.heap [(235, 233)]) s₁.heap.objs.size _ _ := N5
    clear F5 N5
    have hi20 : i < 20 := by omega
    clear hown
    dsimp only [nest8] at F6
    dsimp only
    k_steps
    refine unstop ?_
    refine wpAny_call (C_nextS (Mine.Amb.deep hh B1 X1 T1 rfl rfl) F6 N6 (by k_room) V.S ⟨hJ.p0, by have := hJ.p1; omega⟩ (by decide) fun h12 tk12 nw2 deed td hd0 hd1 F7 N7 S12 K12 => ?_)
    have V1 := V.next N6 K12 S12
    clear V F6 N6
    dsimp only
    k_steps
    refine unstop ?_
    rename Fr _ _ _ _ => F8
    rename News _ _ _ _ => N8
    refine wpAny_call (C_nextS (Mine.Amb.deep hh B1 X1 T1 rfl rfl) F8 N8 (by k_room) V1.S ⟨by have := hJ.p0; omega, by have := hJ.p1; omega⟩ (by decide) fun h13 tk13 nw3 key tkk hk0 hk1 F9 N9 S13 K13 => ?_)
    have V2 := V1.next N8 K13 S13
    clear V1 F8 N8
    dsimp only
    have hold : HoldIf := trivial
    k_steps
    refine unstop ?_
    clear hold
    rename Fr _ _ _ _ => F10
    rename News _ _ _ _ => N10
    have F11 := fr_norm F10
    clear F10
    obtain ⟨mb, hmb⟩ := fr_base F11
    refine wpAny_mono (Q := Mid s₁ (ghostOf s₁.heap [(235, 233)]) s₁.heap.objs.size w (rawInt 205) (rawInt 38) (Str.ofString "law.<locals>.<lambda>") own (s₁.heap.objs.size + 1) st sl x dx d rl gl tl 233 hR0.objs.size qc mb key tkk (i + 1)) ?deeds (fun f s₂ hmid => ?checks) fun _ _ e => e
    case deeds => 
      subst hmb
      have F12 := fr_open F11
      clear F11
      revert F12; intro F12
      revert N10; intro N10
      revert V2; intro V2
      rename_i DE126 DE177 DE178 DE188
      revert w LT1 s₁ LT3 LT4 LT5 LT6 LT7 LT8 LT9 LT10 LT11 LT12 hT8 LT14 LT15 LT16 LT17 LT18 LT19 hT9 LT21 LT22 LT23 LT24 LT25 LT26 LT27 LT28 LT29 LT30 LT31 LT32 LT33 LT34 LT35 LT36 hI LT38 LT39 LT40 LT41 LT42 LT43 LT44 hwd LT46 X1 T1 B1 lifted codeHd hl0 qk ek hh hd hu h2 tk2 st sl us ys z tz t0 n1 n2 hys hz0 hz1 LT72 LT73 LT74 LT75 h3 tk3 news3 r0 tr0 hr0 hr1 LT83 LT84 h4 tk4 news4 r1 tr1 hs0 hs1 LT92 LT93 h5 tk5 x dx d qc ta news5 LT102 LT103 h6 tk6 sz t1 t2 LT109 LT110 rl h8 LT113 LT114 tl h9 LT117 LT118 hoc LT120 gl h10 LT123 DE126 h11 tk11 news11 r2 tr2 hq0 hq1 hR0 LT133 LT134 LT135 LT136 LT137 i t nw own hh1 tk1 hin sz1 pl row ents G M af hJ u1 u2 u3 u4 u5 u6 u7 oI xs hoI hoIf hoIc hi20 h12 tk12 nw2 deed td hd0 hd1 S12 K12 DE177 DE178 h13 tk13 nw3 key tkk hk0 hk1 S13 K13 DE188 tk F12 N10 V2
      exact zzA.out
    case checks =>
      obtain ⟨rfl, h', tk', nw', sz', pl', row', ents', G', M', af', v1, v2, v4, v5, v6, v7, rfl, F12, N12, hJ'⟩ := hmid
      clear hJ V2 F11 N10 S12 S13 K12 K13
      subst hmb
      have F13 := fr_open F12
      clear F12
      revert F13; intro F13
      revert N12; intro N12
      revert hJ'; intro hJ'
      rename_i CH126 CH174 CH175 CH183
      revert w LT1 s₁ LT3 LT4 LT5 LT6 LT7 LT8 LT9 LT10 LT11 LT12 hT8 LT14 LT15 LT16 LT17 LT18 LT19 hT9 LT21 LT22 LT23 LT24 LT25 LT26 LT27 LT28 LT29 LT30 LT31 LT32 LT33 LT34 LT35 LT36 hI LT38 LT39 LT40 LT41 LT42 LT43 LT44 hwd LT46 X1 T1 B1 lifted codeHd hl0 qk ek hh hd hu h2 tk2 st sl us ys z tz t0 n1 n2 hys hz0 hz1 LT72 LT73 LT74 LT75 h3 tk3 news3 r0 tr0 hr0 hr1 LT83 LT84 h4 tk4 news4 r1 tr1 hs0 hs1 LT92 LT93 h5 tk5 x dx d qc ta news5 LT102 LT103 h6 tk6 sz t1 t2 LT109 LT110 rl h8 LT113 LT114 tl h9 LT117 LT118 hoc LT120 gl h10 LT123 CH126 h11 tk11 news11 r2 tr2 hq0 hq1 hR0 LT133 LT134 LT135 LT136 LT137 i t nw own hh1 tk1 hin sz1 pl row ents G M af u1 u2 u3 u4 u5 u6 u7 oI xs hoI hoIf hoIc hi20 h12 tk12 nw2 deed td hd0 hd1 CH174 CH175 h13 tk13 nw3 key tkk hk0 hk1 CH183 tk h' tk' nw' sz' pl' row' ents' G' M' af' v1 v2 v4 v5 v6 v7 F13 N12 hJ'
      exact zzB.out
end
end
theorem Mine.top_off_q3 : True := by
  w_top off
  try walk1
  trivial
section
section
open Mine
local macro_rules | `(tactic| walk_at "call ref") => `(tactic| (k_here; (with_reducible show wpAny _ _ (call (Value.ref _) _ _) _ _ _); refine Mine.stop ?_))
local macro_rules | `(tactic| walk_at "newList") => `(tactic| (k_here; (with_reducible show wpAny _ _ (newList []) _ _ _); refine Mine.stop ?_))
local macro_rules | `(tactic| walk_at "exec For Name Call cons nil") => `(tactic| (k_here; refine Mine.stop ?_))
local macro_rules | `(tactic| walk_at "exec If Compare") => `(tactic| (k_here; refine Mine.stop_if (by with_reducible assumption) ?_))
local macro_rules | `(tactic| walk_at "eval ListComp") => `(tactic| (k_here; refine Mine.stop ?_))
local macro_rules | `(tactic| walk_at "subscriptTail") => `(tactic| (k_here; k_dflt (refine item_litK (by exact News.isList (by k_asm) (by k_mem)) (by omega) (by omega) (Mine.five_at (by omega) (by omega)) ?_)))
local macro_rules | `(tactic| walk_at "subscriptTail") => `(tactic| (k_here; k_dflt (refine item_litK (by exact News.isList (by k_asm) (by k_mem)) (by omega) (by omega) (Mine.four_at (d := 0) (by omega) (by omega)) ?_)))
local macro_rules | `(tactic| walk_at "subscriptTail") => `(tactic| (k_here; k_dflt (refine item_tupleT (by exact News.isTup (by k_asm) (by k_mem)) (by decide) (by decide) (by exact rfl) (by exact rfl) ?_)))
local macro_rules | `(tactic| walk_at "pyIter ref") => `(tactic| (k_here; refine Mine.stop ?_))
local macro_rules | `(tactic| walk_at "pyIter") => `(tactic| (k_here; refine Mine.stop ?_))
local macro_rules | `(tactic| k_mem) => `(tactic| with_reducible first | assumption | exact List.mem_cons_self | exact List.mem_cons_of_mem _ (by assumption) | exact List.mem_cons_of_mem _ List.mem_cons_self | exact List.mem_cons_of_mem _ (List.mem_cons_of_mem _ (by assumption)) | exact List.mem_cons_of_mem _ (List.mem_cons_of_mem _ (List.mem_cons_of_mem _ (by assumption))))
local macro_rules | `(tactic| k_ne) => `(tactic| with_reducible (first | assumption | exact Ne.symm (by assumption)))
local macro_rules | `(tactic| k_ne) => `(tactic| k_dflt (refine neN ?_; (try dsimp only); omega))
local macro_rules | `(tactic| walk_at "eval Lambda") => `(tactic| (k_here; refine Mine.stop ?_))
local macro_rules | `(tactic| k_mem) => `(tactic| with_reducible exact List.mem_cons_of_mem _ (List.mem_cons_of_mem _ List.mem_cons_self))
local macro_rules | `(tactic| k_mem) => `(tactic| with_reducible exact List.mem_cons_of_mem _ (List.mem_cons_of_mem _ (List.mem_cons_of_mem _ List.mem_cons_self)))
local macro_rules | `(tactic| walk_at "compareOp NotEq ref ref") => `(tactic| (k_here; (with_reducible show wpAny _ _ (compareOp CmpOp.NotEq (Value.ref _) (Value.ref _)) _ _ _); refine Mine.stop_cmp (by with_reducible assumption) ?_))
local macro_rules | `(tactic| walk_at "call type:dict") => `(tactic| (k_here; refine Mine.stop ?_))
local macro_rules | `(tactic| walk_at "call builtin:sorted") => `(tactic| (k_here; refine Mine.stop ?_))
local macro_rules | `(tactic| walk_at "call builtin:len") => `(tactic| (k_here; k_dflt (refine kun_lenL (by exact News.isList (by k_asm) (by k_mem)) (by assumption) (by omega) ?_)))
local macro_rules | `(tactic| walk_at "compareOp Eq ref ref") => `(tactic| (k_here; (with_reducible show wpAny _ _ (compareOp CmpOp.Eq (Value.ref _) (Value.ref _)) _ _ _); refine Mine.stop ?_))
theorem Mine.deedsS : Mine.S2.1 := by
  intro w LT1 s₁ LT3 LT4 LT5 LT6 LT7 LT8 LT9 LT10 LT11 LT12 hT8 LT14 LT15 LT16 LT17 LT18 LT19 hT9 LT21 LT22 LT23 LT24 LT25 LT26 LT27 LT28 LT29 LT30 LT31 LT32 LT33 LT34 LT35 LT36 hI LT38 LT39 LT40 LT41 LT42 LT43 LT44 hwd LT46 X1 T1 B1 lifted codeHd hl0 qk ek hh hd hu h2 tk2 st sl us ys z tz t0 n1 n2 hys hz0 hz1 LT72 LT73 LT74 LT75 h3 tk3 news3 r0 tr0 hr0 hr1 LT83 LT84 h4 tk4 news4 r1 tr1 hs0 hs1 LT92 LT93 h5 tk5 x dx d qc ta news5 LT102 LT103 h6 tk6 sz t1 t2 LT109 LT110 rl h8 LT113 LT114 tl h9 LT117 LT118 hoc LT120 gl h10 LT123 DE126 h11 tk11 news11 r2 tr2 hq0 hq1 hR0 LT133 LT134 LT135 LT136 LT137 i t nw own hh1 tk1 hin sz1 pl row ents G M af hJ u1 u2 u3 u4 u5 u6 u7 oI xs hoI hoIf hoIc hi20 h12 tk12 nw2 deed td hd0 hd1 S12 K12 DE177 DE178 h13 tk13 nw3 key tkk hk0 hk1 S13 K13 DE188 tk F12 N10 V2
  obtain ⟨tm, tma, Lk0⟩ := id V2.Lk
  obtain ⟨ts1, ts2, hsz1⟩ := id V2.szt
  have hx := Lk0.inst
  have hdx := Lk0.dic
  k_steps
  · refine unstop ?_
    have hlr := hJ.r
    have hlM := hJ.a2
    have hlg := hJ.g
    have hp0 := hJ.p0
    have hp1 := hJ.p1
    have hlen := hJ.Sm.len
    have hnd : (ents.map (·.k)).Nodup := by rw [← hJ.Sm.keys]; exact V2.Mp.keys
    rename Fr _ _ _ _ => F20
    rename News _ _ _ _ => N20
    rename ∀ p ∈ nw3, p.1 < _ => hlt
    have V3 := V2.push N20
    obtain ⟨rn, hrl⟩ := id V2.Rw.1
    obtain ⟨gs, gn, hgl, _⟩ := id V2.Tg
    have hvl := Nat.ne_of_gt (hlt _ hrl)
    have hvg := Nat.ne_of_gt (hlt _ hgl)
    refine wpAny_call (C_put (Mine.Amb.deep hh B1 X1 T1 rfl rfl) F20 N20 (by k_room) (by k_units) V3.Rw V3.Tg V3.ne.1 (List.mem_cons_of_mem _ hsz1) hnd hJ.a0 (by omega) fun h21 tk21 nw5 e hek hev het F21 N21 Rw5 Tg5 K5 => ?_)
    subst hek
    have V4 := V3.rowgone N20 K5 Rw5 Tg5
    have hvt := K5 _ (.head _) (by simpa using ⟨hvl, hvg⟩)
    obtain ⟨tm4, ta4, Lk4⟩ := id V4.Lk
    have hx4 := Lk4.inst
    have hdx4 := Lk4.dic
    obtain ⟨oc4, hc4, ho4⟩ := id V4.cel
    obtain ⟨ts, tn, ht, TI⟩ := id V4.Tl
    clear F20 N20
    dsimp only
    k_steps
    · refine unstop ?_
      rename Fr _ _ _ _ => F22
      rename News _ _ _ _ => N22
      refine wpAny_call (C_set (G := G) (Mine.Amb.deep hh B1 X1 T1 rfl rfl) F22 N22 (by k_room) (by k_units) Lk4 V4.Mp (by omega) hJ.a0 (fun n hn => (V4.cb n hn).toIn) rfl ht TI fun h23 tk23 nw6 ts' tn' n hnk hnv hncb F23 N23 Lk6 Mp6 ht6 TI6 K6 => ?_)
      have hsn : sigN n = sigE e := by unfold sigN sigE; rw [hnk, hnv, hev, hncb, het]; simp; omega
      obtain ⟨row', ents', G2, q1, q2, q3, V6⟩ := put_done hJ.Sm hsn hJ.a0 hJ.a1 hlr hlM V4 N22 K6 Lk6 Mp6 ht6 TI6 ⟨by rw [hnv]; rfl, .inl hncb⟩ ⟨_, _, _, _, _, hnv, hvt⟩
      clear F22 N22
      dsimp only
      k_steps
      rename Fr _ _ _ _ => F30
      rename News _ _ _ _ => N30
      exact Mid.of F30 N30 (hJ.put (by omega) (by omega) q1 q2 q3 V6) rfl rfl (fun y h1 h2 h3 h4 h5 h6 h7 h8 => by simp only [h1, h2, h3, h4, h5, h6, h7, h8, if_false])
    · refine unstop ?_
      rename Fr _ _ _ _ => F22
      rename News _ _ _ _ => N22
      refine wpAny_call (C_add (G := G) (Mine.Amb.deep hh B1 X1 T1 rfl rfl) F22 N22 (by k_room) (by k_units) (hb_two (X1.keeps F22.keep)) Lk4 V4.Mp (by omega) hJ.a0 (fun n hn => (V4.cb n hn).toIn) rfl (.inl rfl) ht TI fun h23 tk23 nw6 ts' tn' n hnk hnv hncb F23 N23 Lk6 Mp6 ht6 TI6 K6 => ?_)
      have hsn : sigN n = sigE e := by unfold sigN sigE; rw [hnk, hnv, hev, hncb, het]; simp; omega
      obtain ⟨row', ents', G2, q1, q2, q3, V6⟩ := put_done hJ.Sm hsn hJ.a0 hJ.a1 hlr hlM V4 N22 K6 Lk6 Mp6 ht6 TI6 ⟨by rw [hnv]; rfl, .inl hncb⟩ ⟨_, _, _, _, _, hnv, hvt⟩
      clear F22 N22
      dsimp only
      k_steps
      rename Fr _ _ _ _ => F30
      rename News _ _ _ _ => N30
      exact Mid.of F30 N30 (hJ.put (by omega) (by omega) q1 q2 q3 V6) rfl rfl (fun y h1 h2 h3 h4 h5 h6 h7 h8 => by simp only [h1, h2, h3, h4, h5, h6, h7, h8, if_false])
    · refine unstop ?_
      rename Fr _ _ _ _ => F22
      rename News _ _ _ _ => N22
      obtain ⟨ps, hP, hps⟩ := id V4.tab
      obtain ⟨mm, hmm⟩ := fr_map F22
      rw [← hmm] at F22
      refine wpAny_mono (Q := LamMid s₁ (ghostOf s₁.heap [(235, 233)]) s₁.heap.objs.size w (rawInt 205) (rawInt 38) (Str.ofString "law.<locals>.<lambda>") own (s₁.heap.objs.size + 1) st sl x dx d rl gl tl sz1 233 hR0.objs.size qc mm nw5 (pl + 1 + 1) row (cutEnt M af (e :: ents.filter fun x => x.k ≠ e.k)) G (G ++ (ents.filter fun x => x.k = e.k).flatMap eTells ++ cutETell M af (e :: ents.filter fun x => x.k ≠ e.k)) M af) ?mk ?go fun _ _ e => e
      case mk =>
        refine kla_eval rfl ?_
        rcases hps with rfl | ⟨c', oc, vs, t', rfl, hc', hd', hv', hcP, hcI⟩
        · have N23 : News _ _ _ ((233, tabObj #[]) :: (s₁.heap.objs.size + 1, oc4) :: (tl, W.listOf ts.toArray tn) :: offs [233] nw5) := news_sub N22 fun p hp => by
            rcases List.mem_cons.mp hp with q | hp
            · rw [q]; exact hP
            rcases List.mem_cons.mp hp with q | hp
            · rw [q]; exact hc4
            rcases List.mem_cons.mp hp with q | hp
            · rw [q]; exact ht
            · exact (mem_offs.mp hp).1
          have hoff := offs_off (D := [233]) (news := nw5) (List.mem_singleton.mpr rfl)
          have hcP : s₁.heap.objs.size + 1 ≠ 233 := fun q => by
            have e1 := congrArg Obj.data (news_fun N22 (q ▸ hc4) hP)
            rw [ho4] at e1
            cases e1
          have htP : tl ≠ 233 := fun q => by
            have h5 := hP
            rw [← q] at h5
            exact absurd (congrArg Obj.cls (news_fun N22 ht h5)) (by simp [W.listOf])
          have hPI := V4.nI.2
          refine' kla_nest (P := 233) (ps := #[]) F22 N23 T1 ?kC1 rfl ?kU1 ?kT1 ?kN1 rfl ?_
          case kC1 => exact codeHd
          case kU1 => k_updF
          case kT1 => kn_triples
          case kN1 => kn_among
          intro f c' oc vs t' ctv h' tk' F24 N24 hd' hv' hl1 hl2
          have hIn := (V4.ex _ hoI).1
          have hIc := hl1 _ (.tail _ (.tail _ (.tail _ (mem_offs.mpr ⟨hIn, by simpa using Ne.symm hPI⟩))))
          have hPc := hl1 _ (.head _)
          have hcc := hl1 _ (.tail _ (.head _))
          have htc := hl1 _ (.tail _ (.tail _ (.head _)))
          dsimp only at hIc hPc hcc htc
          have hql : vs[1]? = some (.str (Str.ofString "law.<locals>.<lambda>") t') := hv'
          obtain ⟨fo, hfo⟩ := headObj N24
          rw [← hfo] at N24
          have K24 := fun (p : Addr × Obj) (hp : p ∈ nw5) (hq : p.1 ≠ 233) => List.mem_cons_of_mem (f, fo) (List.mem_cons_of_mem (c', oc) (List.mem_cons_of_mem (233, tabObj #[rawInt 205, rawInt 38, .ref c']) (List.mem_cons_of_mem (s₁.heap.objs.size + 1, oc4) (List.mem_cons_of_mem (tl, W.listOf ts.toArray tn) (mem_offs (D := [233]).mpr ⟨hp, by simpa using hq⟩)))))
          have V5 := V4.table N22 K24 ⟨_, .tail _ (.tail _ (.head _)), .inr ⟨c', oc, vs, t', rfl, .tail _ (.head _), hd', hql, Nat.ne_of_gt hPc, Nat.ne_of_gt hIc⟩⟩
          refine ⟨f, [(f, fo), (c', oc), (s₁.heap.objs.size + 1, oc4)], _, _, _, rfl, rfl, F24, N24, V5, ?_, ?_, K24⟩
          · subst hfo
            clear V5 K24 N24 F24 N23 F22 N22
            refine ⟨⟨_, _, _, _, .head _⟩, ?_, ?_⟩
            · intro p hp
              rcases List.mem_cons.mp hp with q | hp
              · rw [q]; exact ⟨fun _ _ e => Data.noConfusion e, fun _ _ e => Data.noConfusion e⟩
              rcases List.mem_cons.mp hp with q | hp
              · rw [q]; dsimp only; rw [hd']; exact ⟨fun _ _ e => Data.noConfusion e, fun _ _ e => Data.noConfusion e⟩
              rcases List.mem_cons.mp hp with q | hp
              · rw [q]; dsimp only; rw [ho4]; exact ⟨fun _ _ e => Data.noConfusion e, fun _ _ e => Data.noConfusion e⟩
              · exact absurd hp List.not_mem_nil
            · intro A A₀ base h₀ env outer L p loose mean mg mb m s rest R us un k v AM F N hl hr hdep hun hlen' hk hv hpost
              obtain ⟨B, X, T, hA, hf, hki, hhA⟩ := AM
              have N2 : News h₀ L s.heap ((tl, W.listOf us.toArray un) :: (f, _) :: (c', oc) :: (s₁.heap.objs.size + 1, oc4) :: rest) := N
              have g1 : f ≠ tl := hl _ (.head _)
              have g2 : c' ≠ tl := hl _ (.tail _ (.head _))
              have g3 : s₁.heap.objs.size + 1 ≠ tl := hl _ (.tail _ (.tail _ (.head _)))
              clear N hl
              refine kla_code B F X N2 T hA hf hki (.tail _ (.head _)) (codeRec_news N2 (.tail _ (.tail _ (.head _))) hd' hv') (by k_room) rfl (locs rfl) ?_ rfl rfl rfl (by decide)
              intro g' L' h5 FG' F5 N5 B5 X5 T5
              (try dsimp only)
              (try k_lift B5)
              (try k_fold)
              k_steps
              rename Fr h₀ _ _ _ => F9
              rename News h₀ _ _ _ => N9
              rw [List.push_toArray] at N9
              exact hpost _ _ _ _ F9 N9
          · intro p hp
            rcases List.mem_cons.mp hp with q | hp
            · rw [q]; exact ⟨.head _, Nat.ne_of_gt (Nat.lt_trans hPc hl2), Nat.ne_of_gt (Nat.lt_trans hIc hl2)⟩
            rcases List.mem_cons.mp hp with q | hp
            · rw [q]; exact ⟨.tail _ (.head _), Nat.ne_of_gt hPc, Nat.ne_of_gt hIc⟩
            rcases List.mem_cons.mp hp with q | hp
            · rw [q]; exact ⟨.tail _ (.tail _ (.tail _ (.head _))), hcP, V4.nI.1⟩
            · exact absurd hp List.not_mem_nil
        · have hPI := V4.nI.2
          have hcP0 : s₁.heap.objs.size + 1 ≠ 233 := fun q => by
            have e1 := congrArg Obj.data (news_fun N22 (q ▸ hc4) hP)
            rw [ho4] at e1
            cases e1
          refine' kla_hit (P := 233) (c' := c') F22 N22 T1 ?kC2 rfl hP ?kT2 ?kN2 rfl ?_
          case kC2 => exact codeHd
          case kT2 => kn_triples
          case kN2 => kn_hit
          intro f ctv h' tk' F24 N24 hl1
          have hIn := (V4.ex _ hoI).1
          have hIc := hl1 _ hIn
          have hPc := hl1 _ hP
          have hcc := hl1 _ hc4
          have htc := hl1 _ ht
          dsimp only at hIc hPc hcc htc
          obtain ⟨fo, hfo⟩ := headObj N24
          rw [← hfo] at N24
          have V5 := V4.push N24
          refine ⟨f, [(f, fo), (c', oc), (s₁.heap.objs.size + 1, oc4)], _, _, _, rfl, rfl, F24, N24, V5, ?_, ?_, fun p hp _ => .tail _ hp⟩
          · subst hfo
            clear V5 N24 F24 F22 N22
            refine ⟨⟨_, _, _, _, .head _⟩, ?_, ?_⟩
            · intro p hp
              rcases List.mem_cons.mp hp with q | hp
              · rw [q]; exact ⟨fun _ _ e => Data.noConfusion e, fun _ _ e => Data.noConfusion e⟩
              rcases List.mem_cons.mp hp with q | hp
              · rw [q]; dsimp only; rw [hd']; exact ⟨fun _ _ e => Data.noConfusion e, fun _ _ e => Data.noConfusion e⟩
              rcases List.mem_cons.mp hp with q | hp
              · rw [q]; dsimp only; rw [ho4]; exact ⟨fun _ _ e => Data.noConfusion e, fun _ _ e => Data.noConfusion e⟩
              · exact absurd hp List.not_mem_nil
            · intro A A₀ base h₀ env outer L p loose mean mg mb m s rest R us un k v AM F N hl hr hdep hun hlen' hk hv hpost
              obtain ⟨B, X, T, hA, hf, hki, hhA⟩ := AM
              have N2 : News h₀ L s.heap ((tl, W.listOf us.toArray un) :: (f, _) :: (c', oc) :: (s₁.heap.objs.size + 1, oc4) :: rest) := N
              have g1 : f ≠ tl := hl _ (.head _)
              have g2 : c' ≠ tl := hl _ (.tail _ (.head _))
              have g3 : s₁.heap.objs.size + 1 ≠ tl := hl _ (.tail _ (.tail _ (.head _)))
              clear N hl
              refine kla_code B F X N2 T hA hf hki (.tail _ (.head _)) (codeRec_news N2 (.tail _ (.tail _ (.head _))) hd' hv') (by k_room) rfl (locs rfl) ?_ rfl rfl rfl (by decide)
              intro g' L' h5 FG' F5 N5 B5 X5 T5
              (try dsimp only)
              (try k_lift B5)
              (try k_fold)
              k_steps
              rename Fr h₀ _ _ _ => F9
              rename News h₀ _ _ _ => N9
              rw [List.push_toArray] at N9
              exact hpost _ _ _ _ F9 N9
          · intro p hp
            rcases List.mem_cons.mp hp with q | hp
            · rw [q]; exact ⟨.head _, Nat.ne_of_gt hPc, Nat.ne_of_gt hIc⟩
            rcases List.mem_cons.mp hp with q | hp
            · rw [q]; exact ⟨.tail _ hc', hcP, hcI⟩
            rcases List.mem_cons.mp hp with q | hp
            · rw [q]; exact ⟨.tail _ hc4, hcP0, V4.nI.1⟩
            · exact absurd hp List.not_mem_nil
      case go =>
        rintro _ _ ⟨f, lam, nwA, h30, tk30, rfl, rfl, F30, N30, V5, hcb, hlam, hK5⟩
        subst hmm
        dsimp only
        obtain ⟨tm5, ta5, Lk5⟩ := id V5.Lk
        obtain ⟨ts, tn, ht, TI⟩ := id V5.Tl
        have hvt5 := hK5 _ hvt (fun q => by
          have hp5 := hP
          rw [← show _ = 233 from q] at hp5
          exact absurd (congrArg Obj.cls (news_fun N22 hvt hp5)) (by simp))
        clear F22 N22
        k_steps
        refine unstop ?_
        rename Fr _ _ _ _ => F23
        rename News _ _ _ _ => N23
        refine wpAny_call (C_add (G := G) (Mine.Amb.deep hh B1 X1 T1 rfl rfl) F23 N23 (by k_room) (by k_units) (hb_pos (X1.keeps F23.keep)) Lk5 V5.Mp (by omega) hJ.a0 (fun n hn => (V5.cb n hn).toIn) rfl (.inr ⟨f, lam, rfl, hcb, fun p hp => (hlam p hp).1⟩) ht TI fun h23 tk23 nw6 ts' tn' n hnk hnv hncb F24 N24 Lk6 Mp6 ht6 TI6 K6 => ?_)
        have hsn : sigN n = sigE e := by unfold sigN sigE; rw [hnk, hnv, hev, hncb, het]; simp; omega
        obtain ⟨row', ents', G2, q1, q2, q3, V6⟩ := put_done hJ.Sm hsn hJ.a0 hJ.a1 hlr hlM V5 N23 K6 Lk6 Mp6 ht6 TI6 ⟨by rw [hnv]; rfl, .inr ⟨f, lam, hncb, hcb, hlam⟩⟩ ⟨_, _, _, _, _, hnv, hvt5⟩
        clear F23 N23
        dsimp only
        k_steps
        rename Fr _ _ _ _ => F30
        rename News _ _ _ _ => N30
        exact Mid.of F30 N30 (hJ.put (by omega) (by omega) q1 q2 q3 V6) rfl rfl (fun y h1 h2 h3 h4 h5 h6 h7 h8 => by simp only [h1, h2, h3, h4, h5, h6, h7, h8, if_false])
  · refine unstop ?_
    have hlr := hJ.r
    have hlM := hJ.a2
    have hlg := hJ.g
    have hp0 := hJ.p0
    have hp1 := hJ.p1
    have hlen := hJ.Sm.len
    have hEn := V2.Rw.2
    obtain ⟨rn, hrl⟩ := id V2.Rw.1
    rename Fr _ _ _ _ => F20
    refine comp_L (cl := []) (fun _ => true) (KeyOf nw3) F20 hh rfl (by decide) rfl (by decide) rfl ?_
    k_steps
    refine unstop ?_
    rename Fr _ _ _ _ => F21
    rename News _ _ _ _ => N21
    refine ⟨_, rl, eVals ents, rfl, News.isList N21 hrl, by rw [sizeLine_eq]; simp only [eVals, List.length_map]; omega, F21, N21, ?_, ?_, ?_⟩
    · intro C v s₂ m₂ E' hv hn hm F2 N2
      exact wpAny_tests_nil ⟨rfl, _, _, rfl, fun _ _ e => e⟩
    · intro C v s₂ m₂ E' hv _ hn hm F2 N2
      clear F21 N21
      obtain ⟨e, he, rfl⟩ := List.mem_map.mp hv
      have hE : (e.a, tuO [.int e.k e.tk, e.v, .bool e.t]) ∈ nw3 := hEn e he
      k_steps
      exact unstop ⟨⟨_, _, _, _, rfl, hE, rfl⟩, _, _, rfl, fun _ _ e => e⟩
    · intro D ys n h' tk' F2 N2 hD hP
      rw [List.filter_eq_self.mpr (fun _ _ => rfl)] at hP
      have hIk := keys_of (news_sub N2 fun p hp => .tail _ hp) hEn hP
      have hIl := News.isList N2 (.head _)
      have V3 := V2.push N2
      obtain ⟨tm3, ta3, Lk3⟩ := id V3.Lk
      clear F21 N21
      dsimp only
      k_steps
      refine unstop ?_
      rename Fr _ _ _ _ => F22
      rename News _ _ _ _ => N22
      by_cases hin : key ∈ ents.map (·.k)
      · have hb : ((ents.map fun x => x.k).any fun x => x == key) = true := by
          rw [List.any_eq_true]
          exact ⟨key, hin, by simp⟩
        rw [hb] at F22
        obtain ⟨l1, n, l2, e1, e, e2, rfl, rfl, Sa, Sb, Sn, rfl⟩ := hJ.Sm.split hin
        have hnd : ((e1 ++ e :: e2).map (·.k)).Nodup := by rw [← hJ.Sm.keys]; exact V3.Mp.keys
        have hke : n.k = e.k := congrArg (fun t : Int × Value × Bool => t.1) Sn
        have hve : n.v = e.v := congrArg (fun t : Int × Value × Bool => t.2.1) Sn
        have hVn := V3.val n (by simp)
        have hCn := (V3.cb n (by simp)).1
        rw [← hke] at F22 ⊢
        refine wpAny_call (C_getH (Mine.Amb.deep hh B1 X1 T1 rfl rfl) F22 N22 (by k_room) Lk3 V3.Mp hCn fun h23 tk23 nw5 F23 N23 Lk5 K5 => ?_)
        have V4 := V3.order N22 Lk3 K5 Lk5 List.perm_middle
        clear F22 N22
        dsimp only
        k_steps
        refine unstop ?_
        rename Fr _ _ _ _ => F24
        rename News _ _ _ _ => N24
        rw [hke]
        refine wpAny_call (C_front (Mine.Amb.deep hh B1 X1 T1 rfl rfl) F24 N24 (by k_room) (by k_units) V4.Rw (by omega) (others_ne hnd) fun h25 tk25 nw6 F25 N25 Rw6 K6 => ?_)
        have V5 := V4.rowonly N24 K6 Rw6
        clear F24 N24
        obtain ⟨ta, ti, tj1, tj2, tj3, hev, htm⟩ := V5.val n List.mem_cons_self
        rw [hev]
        rw [hve] at hev
        rw [hev]
        dsimp only
        k_steps
        rename Fr _ _ _ _ => F30
        rename News _ _ _ _ => N30
        rw [hke] at F30
        exact Mid.of F30 N30 (hJ.put (by omega) (by omega) (Same.cons (Sa.append Sb) Sn) (Nat.le_add_right _ _) (by simp at hlr ⊢; omega) V5) rfl rfl (fun y h1 h2 h3 h4 h5 h6 h7 h8 => by simp only [h1, h2, h3, h4, h5, h6, h7, h8, if_false])
      · have hb : ((ents.map fun x => x.k).any fun x => x == key) = false := by
          rw [List.any_eq_false]
          exact fun y hy q => hin (by rw [← eq_of_beq q]; exact hy)
        rw [hb] at F22
        refine wpAny_call (C_getM (Mine.Amb.deep hh B1 X1 T1 rfl rfl) F22 N22 (by k_room) Lk3 V3.Mp (by rw [hJ.Sm.keys]; exact hin) fun h23 tk23 F23 N23 => ?_)
        clear F22 N22
        dsimp only
        k_steps
        rename Fr _ _ _ _ => F30
        rename News _ _ _ _ => N30
        exact Mid.of F30 N30 (hJ.put (by omega) (by omega) hJ.Sm (Nat.le_add_right _ _) hlr V3) rfl rfl (fun y h1 h2 h3 h4 h5 h6 h7 h8 => by simp only [h1, h2, h3, h4, h5, h6, h7, h8, if_false])
  · refine unstop ?_
    have hlr := hJ.r
    have hlM := hJ.a2
    have hlg := hJ.g
    have hp0 := hJ.p0
    have hp1 := hJ.p1
    have hlen := hJ.Sm.len
    have hEn := V2.Rw.2
    obtain ⟨rn, hrl⟩ := id V2.Rw.1
    rename Fr _ _ _ _ => F20
    refine comp_L (cl := []) (fun _ => true) (KeyOf nw3) F20 hh rfl (by decide) rfl (by decide) rfl ?_
    k_steps
    refine unstop ?_
    rename Fr _ _ _ _ => F21
    rename News _ _ _ _ => N21
    refine ⟨_, rl, eVals ents, rfl, News.isList N21 hrl, by rw [sizeLine_eq]; simp only [eVals, List.length_map]; omega, F21, N21, ?_, ?_, ?_⟩
    · intro C v s₂ m₂ E' hv hn hm F2 N2
      exact wpAny_tests_nil ⟨rfl, _, _, rfl, fun _ _ e => e⟩
    · intro C v s₂ m₂ E' hv _ hn hm F2 N2
      clear F21 N21
      obtain ⟨e, he, rfl⟩ := List.mem_map.mp hv
      have hE : (e.a, tuO [.int e.k e.tk, e.v, .bool e.t]) ∈ nw3 := hEn e he
      k_steps
      exact unstop ⟨⟨_, _, _, _, rfl, hE, rfl⟩, _, _, rfl, fun _ _ e => e⟩
    · intro D ys n h' tk' F2 N2 hD hP
      rw [List.filter_eq_self.mpr (fun _ _ => rfl)] at hP
      have hIk := keys_of (news_sub N2 fun p hp => .tail _ hp) hEn hP
      have hIl := News.isList N2 (.head _)
      have V3 := V2.push N2
      obtain ⟨tm3, ta3, Lk3⟩ := id V3.Lk
      clear F21 N21
      dsimp only
      k_steps
      refine unstop ?_
      rename Fr _ _ _ _ => F22
      rename News _ _ _ _ => N22
      by_cases hin : key ∈ ents.map (·.k)
      · have hb : ((ents.map fun x => x.k).any fun x => x == key) = true := by
          rw [List.any_eq_true]
          exact ⟨key, hin, by simp⟩
        rw [hb] at F22
        obtain ⟨l1, n, l2, e1, e, e2, rfl, rfl, Sa, Sb, Sn, rfl⟩ := hJ.Sm.split hin
        have hnd : ((e1 ++ e :: e2).map (·.k)).Nodup := by rw [← hJ.Sm.keys]; exact V3.Mp.keys
        have hke : n.k = e.k := congrArg (fun t : Int × Value × Bool => t.1) Sn
        have hve : n.v = e.v := congrArg (fun t : Int × Value × Bool => t.2.1) Sn
        have hVn := V3.val n (by simp)
        have hCn := (V3.cb n (by simp)).1
        rw [← hke] at F22 ⊢
        refine wpAny_call (C_takenE (Mine.Amb.deep hh B1 X1 T1 rfl rfl) F22 N22 (by k_room) Lk3 V3.Mp hCn fun h23 tk23 nw5 F23 N23 Lk5 K5 => ?_)
        have V4 := V3.order N22 Lk3 K5 Lk5 List.perm_middle
        clear F22 N22
        dsimp only
        k_steps
        refine unstop ?_
        rename Fr _ _ _ _ => F24
        rename News _ _ _ _ => N24
        rw [hke]
        refine wpAny_call (C_front (Mine.Amb.deep hh B1 X1 T1 rfl rfl) F24 N24 (by k_room) (by k_units) V4.Rw (by omega) (others_ne hnd) fun h25 tk25 nw6 F25 N25 Rw6 K6 => ?_)
        have V5 := V4.rowonly N24 K6 Rw6
        clear F24 N24
        obtain ⟨ta, ti, tj1, tj2, tj3, hev, htm⟩ := V5.val n List.mem_cons_self
        rw [hev]
        rw [hve] at hev
        rw [hev]
        dsimp only
        k_steps
        rename Fr _ _ _ _ => F30
        rename News _ _ _ _ => N30
        rw [hke] at F30
        exact Mid.of F30 N30 (hJ.put (by omega) (by omega) (Same.cons (Sa.append Sb) Sn) (Nat.le_add_right _ _) (by simp at hlr ⊢; omega) V5) rfl rfl (fun y h1 h2 h3 h4 h5 h6 h7 h8 => by simp only [h1, h2, h3, h4, h5, h6, h7, h8, if_false])
      · have hb : ((ents.map fun x => x.k).any fun x => x == key) = false := by
          rw [List.any_eq_false]
          exact fun y hy q => hin (by rw [← eq_of_beq q]; exact hy)
        rw [hb] at F22
        refine wpAny_call (C_takenM (Mine.Amb.deep hh B1 X1 T1 rfl rfl) F22 N22 (by k_room) X1 T1 Lk3 V3.Mp (by rw [hJ.Sm.keys]; exact hin) fun h23 tk23 nw5 tt F23 N23 K5 => ?_)
        have V4 := V3.more N22 K5
        clear F22 N22
        dsimp only
        k_steps
        rename Fr _ _ _ _ => F30
        rename News _ _ _ _ => N30
        exact Mid.of F30 N30 (hJ.put (by omega) (by omega) hJ.Sm (Nat.le_add_right _ _) hlr V4) rfl rfl (fun y h1 h2 h3 h4 h5 h6 h7 h8 => by simp only [h1, h2, h3, h4, h5, h6, h7, h8, if_false])
  · refine unstop ?_
    have hlr := hJ.r
    have hlM := hJ.a2
    have hlg := hJ.g
    obtain ⟨ts, tn, ht, TI⟩ := id V2.Tl
    rename Fr _ _ _ _ => F20
    refine wpAny_call (C_cleanup (G := G) (Mine.Amb.deep hh B1 X1 T1 rfl rfl) F20 N10 (by k_room) (by k_units) Lk0 V2.Mp (by omega) hJ.a0 (fun n hn => (V2.cb n hn).toIn) ht TI fun h20 tk20 nw4 ts' tn' F21 N21 Lk1 Mp1 ht1 TI1 K1 => ?_)
    have V3 := V2.cache (row' := row.take af.toNat) N10 K1 ⟨tm, tma, Lk1⟩ Mp1 ⟨ts', tn', ht1, TI1⟩ (fun n hn => V2.cb n (List.mem_of_mem_take hn)) (fun n hn => V2.val n (List.mem_of_mem_take hn)) ⟨ts1, ts2, K1.tup N10 ht _ _ hsz1⟩
    have hsz2 := K1.tup N10 ht _ _ hsz1
    clear F20 N10
    dsimp only
    k_steps
    refine unstop ?_
    rename Fr _ _ _ _ => F22
    rename News _ _ _ _ => N22
    refine wpAny_call (C_shrunk (row := ents) (G := G) (Mine.Amb.deep hh B1 X1 T1 rfl rfl) F22 N22 (by k_room) V3.Rw V3.Tg V3.ne.1 hJ.a0 ?hl fun h22 tk22 nw5 F23 N23 Rw3 Tg3 K3 => ?_)
    case hl => have := hJ.Sm.len; omega
    have V4 := V3.rowgone N22 K3 Rw3 Tg3
    clear F22 N22
    dsimp only
    k_steps
    rename Fr _ _ _ _ => F24
    rename News _ _ _ _ => N24
    exact Mid.of F24 N24 (hJ.cut (by have := hJ.p0; omega) (by have := hJ.p1; omega) hJ.a0 hJ.a1 hJ.a2 rfl (by rw [List.length_take]; omega) V4) rfl rfl (fun y h1 h2 h3 h4 h5 h6 h7 h8 => by simp only [h1, h2, h3, h4, h5, h6, h7, h8, if_false])
  · refine unstop ?_
    have hlr := hJ.r
    have hlM := hJ.a2
    have hlg := hJ.g
    have hp0 := hJ.p0
    have hp1 := hJ.p1
    rename Fr _ _ _ _ => F20
    rename News _ _ _ _ => N20
    rename ∀ p ∈ nw3, p.1 < _ => hlt
    have V3 := V2.push N20
    have hlst := V2.S.lt hlt
    refine wpAny_call (C_nextS (Mine.Amb.deep hh B1 X1 T1 rfl rfl) F20 N20 (by k_room) V3.S ⟨by omega, by omega⟩ (by decide) fun h20 tk20 nw4 r5 tr5 hr50 hr51 F21 N21 S20 K20 => ?_)
    have V4 := V3.next N20 K20 S20
    have hlit := K20 _ (.head _) (by simpa using hlst)
    clear F20 N20
    dsimp only
    k_steps
    refine unstop ?_
    rename Fr _ _ _ _ => F22
    rename News _ _ _ _ => N22
    refine wpAny_call (C_nextS (Mine.Amb.deep hh B1 X1 T1 rfl rfl) F22 N22 (by k_room) V4.S ⟨by omega, by omega⟩ (by decide) fun h21 tk21 nw5 r6 tr6 hr60 hr61 F23 N23 S21 K21 => ?_)
    have V5 := V4.next N22 K21 S21
    clear F22 N22
    obtain ⟨tm5, ta5, Lk5⟩ := id V5.Lk
    have hx5 := Lk5.inst
    have hdx5 := Lk5.dic
    obtain ⟨ts, tn, ht, TI⟩ := id V5.Tl
    dsimp only
    k_steps
    refine unstop ?_
    rename Fr _ _ _ _ => F24
    rename News _ _ _ _ => N24
    refine wpAny_call (C_resize (o := leastOf4 r5) (G := G) (Mine.Amb.deep hh B1 X1 T1 rfl rfl) F24 N24 (by k_room) (by k_units) Lk5 V5.Mp (by omega) hr60 (by omega) leastOf4_nonneg (fun n hn => (V5.cb n hn).toIn) ht TI fun h22 tk22 nw6 ts' tn' ta6 F25 N25 Lk6 Mp6 ht6 TI6 K6 => ?_)
    have N5 := N24
    clear F24 N24
    dsimp only
    k_steps
    refine unstop ?_
    rename Fr _ _ _ _ => F26
    rename News _ _ _ nw6 => N26
    refine wpAny_call (C_sizes (o := leastOf4 r5) (Mine.Amb.deep hh B1 X1 T1 rfl rfl) F26 N26 (by k_room) fun h23 tk23 sz7 t7 u7' hsz7 F27 N27 => ?_)
    have V6 := V5.cache (row' := row.take (afOf r6 (leastOf4 r5)).toNat) (sz' := sz7) (nw' := _ :: nw6) N5 (fun p hp h1 h2 => .tail _ (K6 p hp h1 h2)) ⟨_, ta6, Lk6.more fun p hp => .tail _ hp⟩ (Mp6.more fun p hp => .tail _ hp) ⟨ts', tn', .tail _ ht6, TI6.mono fun _ _ hm => .tail _ hm⟩ (fun n hn => V5.cb n (List.mem_of_mem_take hn)) (fun n hn => V5.val n (List.mem_of_mem_take hn)) ⟨t7, u7', .head _⟩
    clear F26 N26 N5
    dsimp only
    k_steps
    refine unstop ?_
    rename Fr _ _ _ _ => F28
    rename News _ _ _ _ => N28
    have haf0 : 0 ≤ afOf r6 (leastOf4 r5) := afOf_nonneg hr60 leastOf4_nonneg
    have haf1 : afOf r6 (leastOf4 r5) ≤ r6 := afOf_le hr60
    refine wpAny_call (C_shrunk (row := ents) (G := G) (Mine.Amb.deep hh B1 X1 T1 rfl rfl) F28 N28 (by k_room) V6.Rw V6.Tg V6.ne.1 haf0 ?hl fun h24 tk24 nw8 F29 N29 Rw3 Tg3 K3 => ?_)
    case hl => have := hJ.Sm.len; omega
    have V7 := V6.rowgone N28 K3 Rw3 Tg3
    clear F28 N28
    dsimp only
    k_steps
    rename Fr _ _ _ _ => F30
    rename News _ _ _ _ => N30
    exact Mid.of F30 N30 (hJ.cut (by omega) (by omega) haf0 haf1 (by omega) rfl (by rw [List.length_take]; omega) V7) rfl rfl (fun y h1 h2 h3 h4 h5 h6 h7 h8 => by simp only [h1, h2, h3, h4, h5, h6, h7, h8, if_false])
  · refine unstop ?_
    have hlr := hJ.r
    have hlM := hJ.a2
    have hlg := hJ.g
    have haf := hJ.a0
    have haf1 := hJ.a1
    obtain ⟨ts, tn, ht, TI⟩ := id V2.Tl
    rename Fr _ _ _ _ => F20
    refine wpAny_call (C_clear (G := G) (Mine.Amb.deep hh B1 X1 T1 rfl rfl) F20 N10 (by k_room) (by k_units) Lk0 V2.Mp (by omega) (fun n hn => (V2.cb n hn).toIn) ht TI fun h20 tk20 nw4 ts' tn' F21 N21 Lk1 Mp1 ht1 TI1 K1 => ?_)
    have V3 := V2.cache (row' := row.take 0) (G2 := G ++ (row.drop 0).reverse.flatMap tells) N10 K1 ⟨tm, tma, Lk1⟩ Mp1 ⟨ts', tn', ht1, TI1⟩ (fun n hn => V2.cb n (List.mem_of_mem_take hn)) (fun n hn => V2.val n (List.mem_of_mem_take hn)) ⟨ts1, ts2, K1.tup N10 ht _ _ hsz1⟩
    clear F20 N10
    dsimp only
    k_steps
    refine unstop ?_
    rename Fr _ _ _ _ => F22
    rename News _ _ _ _ => N22
    refine wpAny_call (C_shrunk (row := ents) (G := G) (least := 0) (Mine.Amb.deep hh B1 X1 T1 rfl rfl) F22 N22 (by k_room) V3.Rw V3.Tg V3.ne.1 (by decide) ?hl fun h22 tk22 nw5 F23 N23 Rw3 Tg3 K3 => ?_)
    case hl => have := hJ.Sm.len; omega
    have V4 := V3.rowgone N22 K3 Rw3 Tg3
    clear F22 N22
    dsimp only
    k_steps
    rename Fr _ _ _ _ => F24
    rename News _ _ _ _ => N24
    exact Mid.of F24 N24 (hJ.cut (k := 0) (by have := hJ.p0; omega) (by have := hJ.p1; omega) hJ.a0 hJ.a1 hJ.a2 rfl (by rw [List.length_take]; omega) V4) rfl rfl (fun y h1 h2 h3 h4 h5 h6 h7 h8 => by simp only [h1, h2, h3, h4, h5, h6, h7, h8, if_false])
  · have hlr := hJ.r
    have hlM := hJ.a2
    have hlg := hJ.g
    have haf := hJ.a0
    have haf1 := hJ.a1
    rename Fr _ _ _ _ => F24
    rename News _ _ _ _ => N24
    exact Mid.of F24 N24 ⟨V2, hJ.Sm, haf, haf1, hlM, hlr, by omega, by have := hJ.p0; omega, by have := hJ.p1; omega⟩ rfl rfl (fun y h1 h2 h3 h4 h5 h6 h7 h8 => by simp only [h1, h2, h3, h4, h5, h6, h7, h8, if_false])
end
end
theorem Mine.top_off_q4 : True := by
  w_top off
  try walk1
  trivial
section
section
open Mine
local macro_rules | `(tactic| walk_at "call ref") => `(tactic| (k_here; (with_reducible show wpAny _ _ (call (Value.ref _) _ _) _ _ _); refine Mine.stop ?_))
local macro_rules | `(tactic| walk_at "newList") => `(tactic| (k_here; (with_reducible show wpAny _ _ (newList []) _ _ _); refine Mine.stop ?_))
local macro_rules | `(tactic| walk_at "exec For Name Call cons nil") => `(tactic| (k_here; refine Mine.stop ?_))
local macro_rules | `(tactic| walk_at "exec If Compare") => `(tactic| (k_here; refine Mine.stop_if (by with_reducible assumption) ?_))
local macro_rules | `(tactic| walk_at "eval ListComp") => `(tactic| (k_here; refine Mine.stop ?_))
local macro_rules | `(tactic| walk_at "subscriptTail") => `(tactic| (k_here; k_dflt (refine item_litK (by exact News.isList (by k_asm) (by k_mem)) (by omega) (by omega) (Mine.five_at (by omega) (by omega)) ?_)))
local macro_rules | `(tactic| walk_at "subscriptTail") => `(tactic| (k_here; k_dflt (refine item_litK (by exact News.isList (by k_asm) (by k_mem)) (by omega) (by omega) (Mine.four_at (d := 0) (by omega) (by omega)) ?_)))
local macro_rules | `(tactic| walk_at "subscriptTail") => `(tactic| (k_here; k_dflt (refine item_tupleT (by exact News.isTup (by k_asm) (by k_mem)) (by decide) (by decide) (by exact rfl) (by exact rfl) ?_)))
local macro_rules | `(tactic| walk_at "pyIter ref") => `(tactic| (k_here; refine Mine.stop ?_))
local macro_rules | `(tactic| walk_at "pyIter") => `(tactic| (k_here; refine Mine.stop ?_))
local macro_rules | `(tactic| k_mem) => `(tactic| with_reducible first | assumption | exact List.mem_cons_self | exact List.mem_cons_of_mem _ (by assumption) | exact List.mem_cons_of_mem _ List.mem_cons_self | exact List.mem_cons_of_mem _ (List.mem_cons_of_mem _ (by assumption)) | exact List.mem_cons_of_mem _ (List.mem_cons_of_mem _ (List.mem_cons_of_mem _ (by assumption))))
local macro_rules | `(tactic| k_ne) => `(tactic| with_reducible (first | assumption | exact Ne.symm (by assumption)))
local macro_rules | `(tactic| k_ne) => `(tactic| k_dflt (refine neN ?_; (try dsimp only); omega))
local macro_rules | `(tactic| walk_at "eval Lambda") => `(tactic| (k_here; refine Mine.stop ?_))
local macro_rules | `(tactic| k_mem) => `(tactic| with_reducible exact List.mem_cons_of_mem _ (List.mem_cons_of_mem _ List.mem_cons_self))
local macro_rules | `(tactic| k_mem) => `(tactic| with_reducible exact List.mem_cons_of_mem _ (List.mem_cons_of_mem _ (List.mem_cons_of_mem _ List.mem_cons_self)))
local macro_rules | `(tactic| walk_at "compareOp NotEq ref ref") => `(tactic| (k_here; (with_reducible show wpAny _ _ (compareOp CmpOp.NotEq (Value.ref _) (Value.ref _)) _ _ _); refine Mine.stop_cmp (by with_reducible assumption) ?_))
local macro_rules | `(tactic| walk_at "call type:dict") => `(tactic| (k_here; refine Mine.stop ?_))
local macro_rules | `(tactic| walk_at "call builtin:sorted") => `(tactic| (k_here; refine Mine.stop ?_))
local macro_rules | `(tactic| walk_at "call builtin:len") => `(tactic| (k_here; k_dflt (refine kun_lenL (by exact News.isList (by k_asm) (by k_mem)) (by assumption) (by omega) ?_)))
local macro_rules | `(tactic| walk_at "compareOp Eq ref ref") => `(tactic| (k_here; (with_reducible show wpAny _ _ (compareOp CmpOp.Eq (Value.ref _) (Value.ref _)) _ _ _); refine Mine.stop ?_))
theorem Mine.checksS : Mine.S2.2.1 := by
  intro w LT1 s₁ LT3 LT4 LT5 LT6 LT7 LT8 LT9 LT10 LT11 LT12 hT8 LT14 LT15 LT16 LT17 LT18 LT19 hT9 LT21 LT22 LT23 LT24 LT25 LT26 LT27 LT28 LT29 LT30 LT31 LT32 LT33 LT34 LT35 LT36 hI LT38 LT39 LT40 LT41 LT42 LT43 LT44 hwd LT46 X1 T1 B1 lifted codeHd hl0 qk ek hh hd hu h2 tk2 st sl us ys z tz t0 n1 n2 hys hz0 hz1 LT72 LT73 LT74 LT75 h3 tk3 news3 r0 tr0 hr0 hr1 LT83 LT84 h4 tk4 news4 r1 tr1 hs0 hs1 LT92 LT93 h5 tk5 x dx d qc ta news5 LT102 LT103 h6 tk6 sz t1 t2 LT109 LT110 rl h8 LT113 LT114 tl h9 LT117 LT118 hoc LT120 gl h10 LT123 CH126 h11 tk11 news11 r2 tr2 hq0 hq1 hR0 LT133 LT134 LT135 LT136 LT137 i t nw own hh1 tk1 hin sz1 pl row ents G M af u1 u2 u3 u4 u5 u6 u7 oI xs hoI hoIf hoIc hi20 h12 tk12 nw2 deed td hd0 hd1 CH174 CH175 h13 tk13 nw3 key tkk hk0 hk1 CH183 tk h' tk' nw' sz' pl' row' ents' G' M' af' v1 v2 v4 v5 v6 v7 F13 N12 hJ'
  have hold : HoldCmp := trivial
  have hlr := hJ'.r
  have hlM := hJ'.a2
  have hlg := hJ'.g
  have hlen := hJ'.Sm.len
  have hV := hJ'.V
  obtain ⟨tm, tma, Lk0⟩ := id hV.Lk
  have hx := Lk0.inst
  have hdx := Lk0.dic
  dsimp only
  k_steps
  refine unstop ?_
  try k_fold
  rename Fr _ _ _ _ => F20
  rename News _ _ _ _ => N20
  refine wpAny_call (C_bad (Mine.Amb.deep hh B1 X1 T1 rfl rfl) F20 N20 (by k_room) X1 T1 Lk0 fun h20 tk20 nw1 F21 N21 K1 => ?_)
  have V1 := hV.more N20 K1
  obtain ⟨tm1, tma1, Lk1⟩ := id V1.Lk
  have hx1 := Lk1.inst
  have hdx1 := Lk1.dic
  obtain ⟨oc, hc1, hoc1⟩ := id V1.cel
  obtain ⟨ts, tn, ht, TI⟩ := id V1.Tl
  obtain ⟨gs, gn, hgl, GI⟩ := id V1.Tg
  clear F20 N20
  dsimp only
  k_steps
  refine unstop ?_
  try k_fold
  rename Fr _ _ _ _ => F22
  rename News _ _ _ _ => N22
  refine told_ne N22 ht hgl TI GI (by k_units) ?_
  k_steps
  refine unstop ?_
  try k_fold
  rename Fr _ _ _ _ => F23
  rename News _ _ _ _ => N23
  refine wpAny_call (C_items (Mine.Amb.deep hh B1 X1 T1 rfl rfl) F23 N23 (by k_room) Lk1 V1.Mp (by omega) (fun n hn => (V1.cb n hn).1) fun h24 tk24 D oD kvs F24 N24 hDn hDs hoD hDp => ?_)
  have V2 := V1.push N24
  clear F23 N23
  dsimp only
  k_steps
  refine unstop ?_
  try k_fold
  rename Fr _ _ _ _ => F25
  rename News _ _ _ _ => N25
  obtain ⟨rn, hrl⟩ := id V2.Rw.1
  have hEn := V2.Rw.2
  refine comp_P (cl := []) F25 rfl (by decide) rfl (by decide) rfl ?_
  k_steps
  refine unstop ?_
  try k_fold
  rename Fr _ _ _ _ => F26
  rename News _ _ _ _ => N26
  refine ⟨_, rl, eVals ents', rn, fun i ys nw => (∀ p ∈ (D, oD) :: nw1, p ∈ nw) ∧ TIt nw ys ((ents'.take i).map fun e => (e.k, e.v)), rfl, hh, F26, N26, hrl, by rw [sizeLine_eq]; simp only [eVals, List.length_map]; omega, ⟨fun _ hp => hp, trivial⟩, fun i ys nw hI => hI.1 _ hrl, ?_, ?_⟩
  · intro j ys nw v It oIt C oC Dl m₂ h' tk' E' hv hI hn hn2 hm F2 N2 O ne
    clear F26 N26
    obtain ⟨hI1, hI2⟩ := hI
    obtain ⟨e, he, rfl⟩ : ∃ e, ents'[j]? = some e ∧ v = .ref e.a := by
      unfold eVals at hv
      rw [List.getElem?_map] at hv
      obtain ⟨e, h1, h2⟩ := Option.map_eq_some_iff.mp hv
      exact ⟨e, h1, h2.symm⟩
    have hem : e ∈ ents' := List.mem_of_getElem? he
    have hE : (e.a, tuO [.int e.k e.tk, e.v, .bool e.t]) ∈ nw := hI1 _ (hEn e hem)
    k_steps
    rename Fr _ _ _ _ => F3
    rename News _ _ _ _ => N3
    rename _ < _ ∧ _ < _ ∧ _ < _ ∧ _ => hl1
    rename Addr => Dt
    have hjl : j < ents'.length := (List.getElem?_eq_some_iff.mp he).1
    have hje : ents'[j] = e := (List.getElem?_eq_some_iff.mp he).2
    refine unstop ⟨_, _, (Dt, tuO [.int e.k e.tk, e.v]) :: nw, rfl, F3, news_sub N3 ?_, ?_, fun p hp => .tail _ (hI1 p hp), ?_⟩
    · intro p hp
      rcases List.mem_cons.mp hp with q | hp
      · rw [q]; exact .tail _ (.head _)
      rcases List.mem_cons.mp hp with q | hp
      · rw [q]; exact .tail _ (.tail _ (.head _))
      rcases List.mem_cons.mp hp with q | hp
      · rw [q]; exact .tail _ (.tail _ (.tail _ (.head _)))
      rcases List.mem_cons.mp hp with q | hp
      · rw [q]; exact .head _
      · exact .tail _ (.tail _ (.tail _ (.tail _ hp)))
    · intro p hp
      rcases List.mem_cons.mp hp with q | hp
      · rw [q]; exact ⟨Nat.ne_of_gt hl1.1, Nat.ne_of_gt hl1.2.1, Nat.ne_of_gt hl1.2.2.1⟩
      · exact O.mem p hp
    · rw [List.take_succ_eq_append_getElem hjl, hje, List.map_append]
      exact TIt.snoc (.head _) (hI2.mono fun a vs hm => .tail _ hm)
  · intro Dl ys nw h' tk' F2 N2 hD2 hI
    dsimp only
    clear F26 N26
    obtain ⟨hI1, hI2⟩ := hI
    rw [show (eVals ents').length = ents'.length by simp [eVals], List.take_length] at hI2
    k_steps
    refine unstop ?_
    try k_fold
    rename Fr _ _ _ _ => F27
    rename News _ _ _ _ => N27
    have hkey : (ents'.map (·.k)).Nodup := by rw [← hJ'.Sm.keys]; exact V1.Mp.keys
    refine dict_pairs_N hh F27 N27 (modules_low T1.nolimit) (.head _) (hI2.mono fun a vs hm => .tail _ hm) (by rw [List.length_map]; omega) (by rw [List.map_map]; exact hkey) fun h28 tk28 D3 od3 F28 N28 hD3 hs3 hod3 => ?_
    clear F27 N27
    have V3 := V2.more (nw' := (D3, od3) :: (Dl, LCg.lst ys) :: nw) (news_sub N28 fun p hp => .tail _ (.tail _ (hI1 p hp))) fun p hp => .tail _ (.tail _ (hI1 p hp))
    have hDm := hI1 _ (List.mem_cons_self (a := (D, oD)) (l := nw1))
    dsimp only
    k_steps
    refine unstop ?_
    try k_fold
    rename Fr _ _ _ _ => F29
    rename News _ _ _ _ => N29
    refine dict_ne_same N29 (.tail _ (.tail _ hDm)) (.head _) hoD hod3 (by rw [← hJ'.Sm.kv]; exact hDp) hDs hs3 (by k_units) ?_
    obtain ⟨tm3, ta3, Lk3⟩ := id V3.Lk
    have hx3 := Lk3.inst
    have hdx3 := Lk3.dic
    obtain ⟨rn3, hrl3⟩ := id V3.Rw.1
    obtain ⟨ts3, ts4, hsz3⟩ := id V3.szt
    have hsl : ((eVals ents').toArray.size : Int) = (ents'.length : Int) := by simp [eVals]
    k_steps
    refine unstop ?_
    try k_fold
    rename Fr _ _ _ _ => F30
    rename News _ _ _ _ => N30
    refine wpAny_call (C_len (Mine.Amb.in1 (Mine.Amb.deep hh B1 X1 T1 rfl rfl)) F30 N30 (by k_room) Lk3 V3.Mp (by omega) fun h31 tk31 tt F31 N31 => ?_)
    clear F30 N30
    refine ⟨⟨by omega, by omega⟩, ?_⟩
    dsimp only
    k_steps
    · exfalso; omega
    refine unstop ?_
    try k_fold
    rename Fr _ _ _ _ => F32
    rename News _ _ _ _ => N32
    refine wpAny_call (C_keys (Mine.Amb.deep hh B1 X1 T1 rfl rfl) F32 N32 (by k_room) Lk3 V3.Mp fun h33 tk33 kv F33 N33 => ?_)
    have V4 := V3.push N33
    obtain ⟨od4, kvs4, hd4, hod4, hp4, hs4⟩ := id V4.Mp
    clear F32 N32
    dsimp only
    k_steps
    refine unstop ?_
    try k_fold
    rename Fr _ _ _ _ => F34
    rename News _ _ _ _ => N34
    refine sorted_keys hh F34 N34 (.head _) hd4 hod4 (by rw [hp4.length_eq, List.length_map]; omega) fun D5 vs5 ns5 n5 h35 tk35 F35 N35 hD5 hI5 hP5 hO5 => ?_
    have V5 := V4.push N35
    obtain ⟨rn5, hrl5⟩ := id V5.Rw.1
    have hEn5 := V5.Rw.2
    clear F34 N34
    dsimp only
    k_steps
    refine unstop ?_
    try k_fold
    rename Fr _ _ _ _ => F36
    rename News _ _ _ _ => N36
    obtain ⟨nb, hnb⟩ : ∃ q, q = (kv, ({ cls := Value.type "dict_keys", data := Data.fields #[Value.ref d] } : Obj)) :: (D3, od3) :: (Dl, LCg.lst ys) :: nw := ⟨_, rfl⟩
    rw [← hnb] at N36 V5 hrl5 hEn5
    refine comp_L (cl := []) (fun _ => true) (KeyOf ((D5, W.listOf vs5.toArray n5) :: nb)) F36 hh rfl (by decide) rfl (by decide) rfl ?_
    k_steps
    refine unstop ?_
    try k_fold
    rename Fr _ _ _ _ => F37
    rename News _ _ _ _ => N37
    refine ⟨_, rl, eVals ents', rfl, News.isList N37 hrl5, by rw [sizeLine_eq]; simp only [eVals, List.length_map]; omega, F37, N37, ?_, ?_, ?_⟩
    · intro C v s₂ m₂ E' hv hn hm F2 N2
      exact wpAny_tests_nil ⟨rfl, _, _, rfl, fun _ _ e => e⟩
    · intro C v s₂ m₂ E' hv _ hn hm F2 N2
      clear F37 N37
      obtain ⟨e, he, rfl⟩ := List.mem_map.mp hv
      have hE : (e.a, tuO [.int e.k e.tk, e.v, .bool e.t]) ∈ (D5, W.listOf vs5.toArray n5) :: nb := hEn5 e he
      k_steps
      exact unstop ⟨⟨_, _, _, _, rfl, hE, rfl⟩, _, _, rfl, fun _ _ e => e⟩
    · intro D6 ys6 n6 h' tk' F2 N2 hD6 hP6
      rw [List.filter_eq_self.mpr (fun _ _ => rfl)] at hP6
      have hI6 := keys_of (news_sub N2 fun p hp => .tail _ hp) hEn5 hP6
      have V6 := V5.push N2
      clear F37 N37
      dsimp only
      k_steps
      refine unstop ?_
      try k_fold
      rename Fr _ _ _ _ => F38
      rename News _ _ _ _ => N38
      refine kso_sorted F38 N38 (News.isList N38 (.head _)) hI6 (by rw [List.length_map]; omega) fun D7 vs7 ns7 n7 h39 F39 N39 hD7 hI7 hl7 hP7 hO7 _ => ?_
      have V7 := V6.push N39
      clear F38 N38
      dsimp only
      k_steps
      refine unstop ?_
      try k_fold
      rename Fr _ _ _ _ => F40
      rename News _ _ _ _ => N40
      have hns : ns5 = ns7 := by
        refine lks_uniq (hP5.trans (((hp4.map (·.1)).trans ?_).trans hP7.symm)) hO5 hO7
        rw [List.map_map, ← hJ'.Sm.keys]
        exact List.Perm.refl _
      refine ke_ne_ints (News.isList N40 (.tail _ (.tail _ (.head _)))) (News.isList N40 (.head _)) hI5 hI7 (by k_units) ?_
      rw [hns, decide_eq_true rfl]
      obtain ⟨tm7, ta7, Lk7⟩ := id V7.Lk
      have hx7 := Lk7.inst
      have hdx7 := Lk7.dic
      obtain ⟨ts7, ts8, hsz7⟩ := id V7.szt
      k_steps
      refine unstop ?_
      try k_fold
      rename Fr _ _ _ _ => F41
      rename News _ _ _ _ => N41
      refine wpAny_call (C_size (Mine.Amb.deep hh B1 X1 T1 rfl rfl) F41 N41 (by k_room) Lk7 fun h42 tk42 F42 N42 => ?_)
      clear F41 N41
      dsimp only
      k_steps
      · rename _ ≠ _ => hbad
        exact absurd rfl hbad
      refine unstop ?_
      try k_fold
      rename Fr _ _ _ _ => F43
      rename News _ _ _ _ => N43
      refine wpAny_call (C_in (Mine.Amb.deep hh B1 X1 T1 rfl rfl) F43 N43 (by k_room) Lk7 V7.Mp fun h44 tk44 F44 N44 => ?_)
      have hb : decide (key ∈ row'.map (·.k)) = ((ents'.map fun x => x.k).any fun x => x == key) := by
        rw [hJ'.Sm.keys, Bool.eq_iff_iff]
        simp only [decide_eq_true_eq, List.any_eq_true, beq_iff_eq]
        exact ⟨fun q => ⟨_, q, rfl⟩, fun ⟨y, h1, h2⟩ => h2 ▸ h1⟩
      rw [hb]
      clear F43 N43
      dsimp only
      k_steps
      refine unstop ?_
      try k_fold
      rename Fr _ _ _ _ => F45
      rename News _ _ _ _ => N45
      obtain ⟨rn7, hrl7⟩ := id V7.Rw.1
      have hEn7 := V7.Rw.2
      obtain ⟨nc, hnc⟩ : ∃ q, q = (D7, W.listOf vs7.toArray n7) :: (D6, W.listOf ys6.toArray n6) :: (D5, W.listOf vs5.toArray n5) :: nb := ⟨_, rfl⟩
      rw [← hnc] at N45 V7 hrl7 hEn7
      refine comp_L (cl := []) (fun _ => true) (KeyOf nc) F45 hh rfl (by decide) rfl (by decide) rfl ?_
      k_steps
      refine unstop ?_
      try k_fold
      rename Fr _ _ _ _ => F46
      rename News _ _ _ _ => N46
      refine ⟨_, rl, eVals ents', rfl, News.isList N46 hrl7, by rw [sizeLine_eq]; simp only [eVals, List.length_map]; omega, F46, N46, ?_, ?_, ?_⟩
      · intro C v s₂ m₂ E' hv hn hm F2 N2
        exact wpAny_tests_nil ⟨rfl, _, _, rfl, fun _ _ e => e⟩
      · intro C v s₂ m₂ E' hv _ hn hm F2 N2
        clear F46 N46
        obtain ⟨e, he, rfl⟩ := List.mem_map.mp hv
        have hE : (e.a, tuO [.int e.k e.tk, e.v, .bool e.t]) ∈ nc := hEn7 e he
        k_steps
        exact unstop ⟨⟨_, _, _, _, rfl, hE, rfl⟩, _, _, rfl, fun _ _ e => e⟩
      · intro D8 ys8 n8 h' tk' F2 N2 hD8 hP8
        rw [List.filter_eq_self.mpr (fun _ _ => rfl)] at hP8
        have hI8 := keys_of (news_sub N2 fun p hp => .tail _ hp) hEn7 hP8
        have hIl := News.isList N2 (.head _)
        have V8 := V7.push N2
        clear F46 N46
        dsimp only
        k_steps
        · rename (_ != _) = _ => hbad
          simp at hbad
        · rename Fr _ _ _ _ => F50
          rename News _ _ _ _ => N50
          refine ⟨_, _, _, _, rfl, F50, N50, fun p hp => (V8.ex p hp).1, ?_⟩
          exact ⟨sz', pl', row', ents', G', M', af', ⟨V8.own (X' := []) fun p hp => absurd hp List.not_mem_nil, hJ'.Sm, hJ'.a0, hJ'.a1, hJ'.a2, hJ'.r, hJ'.g, hJ'.p0, hJ'.p1⟩, v1, v2, _, v4, v5, v6, v7, rfl⟩
end
end
theorem Mine.top_off_q5 : True := by
  w_top off
  try walk1
  trivial
section
section
open Mine
local macro_rules | `(tactic| walk_at "call ref") => `(tactic| (k_here; (with_reducible show wpAny _ _ (call (Value.ref _) _ _) _ _ _); refine Mine.stop ?_))
local macro_rules | `(tactic| walk_at "newList") => `(tactic| (k_here; (with_reducible show wpAny _ _ (newList []) _ _ _); refine Mine.stop ?_))
local macro_rules | `(tactic| walk_at "exec For Name Call cons nil") => `(tactic| (k_here; refine Mine.stop ?_))
local macro_rules | `(tactic| walk_at "exec If Compare") => `(tactic| (k_here; refine Mine.stop_if (by with_reducible assumption) ?_))
local macro_rules | `(tactic| walk_at "eval ListComp") => `(tactic| (k_here; refine Mine.stop ?_))
local macro_rules | `(tactic| walk_at "subscriptTail") => `(tactic| (k_here; k_dflt (refine item_litK (by exact News.isList (by k_asm) (by k_mem)) (by omega) (by omega) (Mine.five_at (by omega) (by omega)) ?_)))
local macro_rules | `(tactic| walk_at "subscriptTail") => `(tactic| (k_here; k_dflt (refine item_litK (by exact News.isList (by k_asm) (by k_mem)) (by omega) (by omega) (Mine.four_at (d := 0) (by omega) (by omega)) ?_)))
local macro_rules | `(tactic| walk_at "subscriptTail") => `(tactic| (k_here; k_dflt (refine item_tupleT (by exact News.isTup (by k_asm) (by k_mem)) (by decide) (by decide) (by exact rfl) (by exact rfl) ?_)))
local macro_rules | `(tactic| walk_at "pyIter ref") => `(tactic| (k_here; refine Mine.stop ?_))
local macro_rules | `(tactic| walk_at "pyIter") => `(tactic| (k_here; refine Mine.stop ?_))
local macro_rules | `(tactic| k_mem) => `(tactic| with_reducible first | assumption | exact List.mem_cons_self | exact List.mem_cons_of_mem _ (by assumption) | exact List.mem_cons_of_mem _ List.mem_cons_self | exact List.mem_cons_of_mem _ (List.mem_cons_of_mem _ (by assumption)) | exact List.mem_cons_of_mem _ (List.mem_cons_of_mem _ (List.mem_cons_of_mem _ (by assumption))))
local macro_rules | `(tactic| k_ne) => `(tactic| with_reducible (first | assumption | exact Ne.symm (by assumption)))
local macro_rules | `(tactic| k_ne) => `(tactic| k_dflt (refine neN ?_; (try dsimp only); omega))
local macro_rules | `(tactic| walk_at "eval Lambda") => `(tactic| (k_here; refine Mine.stop ?_))
local macro_rules | `(tactic| k_mem) => `(tactic| with_reducible exact List.mem_cons_of_mem _ (List.mem_cons_of_mem _ List.mem_cons_self))
local macro_rules | `(tactic| k_mem) => `(tactic| with_reducible exact List.mem_cons_of_mem _ (List.mem_cons_of_mem _ (List.mem_cons_of_mem _ List.mem_cons_self)))
local macro_rules | `(tactic| walk_at "compareOp NotEq ref ref") => `(tactic| (k_here; (with_reducible show wpAny _ _ (compareOp CmpOp.NotEq (Value.ref _) (Value.ref _)) _ _ _); refine Mine.stop_cmp (by with_reducible assumption) ?_))
local macro_rules | `(tactic| walk_at "call type:dict") => `(tactic| (k_here; refine Mine.stop ?_))
local macro_rules | `(tactic| walk_at "call builtin:sorted") => `(tactic| (k_here; refine Mine.stop ?_))
local macro_rules | `(tactic| walk_at "call builtin:len") => `(tactic| (k_here; k_dflt (refine kun_lenL (by exact News.isList (by k_asm) (by k_mem)) (by assumption) (by omega) ?_)))
local macro_rules | `(tactic| walk_at "compareOp Eq ref ref") => `(tactic| (k_here; (with_reducible show wpAny _ _ (compareOp CmpOp.Eq (Value.ref _) (Value.ref _)) _ _ _); refine Mine.stop ?_))
theorem Mine.doneS : Mine.S1.2.1 := by
  intro w LD1 s₁ LD3 LD4 LD5 LD6 LD7 LD8 LD9 LD10 LD11 LD12 hT8 LD14 LD15 LD16 LD17 LD18 LD19 hT9 LD21 LD22 LD23 LD24 LD25 LD26 LD27 LD28 LD29 LD30 LD31 LD32 LD33 LD34 LD35 LD36 hI LD38 LD39 LD40 LD41 LD42 LD43 LD44 hwd LD46 X1 T1 B1 lifted codeHd hl0 qk ek hh hd hu h2 tk2 st sl us ys z tz t0 n1 n2 hys hz0 hz1 LD72 LD73 LD74 LD75 h3 tk3 news3 r0 tr0 hr0 hr1 LD83 LD84 h4 tk4 news4 r1 tr1 hs0 hs1 LD92 LD93 h5 tk5 x dx d qc ta news5 LD102 LD103 h6 tk6 sz t1 t2 LD109 LD110 rl h8 LD113 LD114 tl h9 LD117 LD118 hoc LD120 gl h10 LD123 tk h11 tk11 news11 r2 tr2 hq0 hq1 hR0 LD133 LD134 LD135 LD136 LD137
  rintro m1 nx h15 tk15 ⟨sz1, pl, row, ents, G, M, af, hJ, u1, u2, u3, u4, u5, u6, u7, rfl⟩ F5 N5
  have F6 : Fr (ghostOf s₁.heap [(235, 233)]) s₁.heap.objs.size _ _ := F5
  have N6 : News (ghostOf s₁.heap [(235, 233)]) s₁.heap.objs.size _ _ := N5
  clear F5 N5
  have F7 := fr_open F6
  clear F6
  have hlr := hJ.r
  have hlM := hJ.a2
  have hlg := hJ.g
  have hlen := hJ.Sm.len
  have V := hJ.V
  obtain ⟨tm, tma, Lk0⟩ := id V.Lk
  have hx := Lk0.inst
  have hdx := Lk0.dic
  obtain ⟨ts, tn, ht, TI⟩ := id V.Tl
  have hn20 : (8 + r2).toNat < 20 := by omega
  dsimp only
  k_steps
  refine unstop ?_
  rename Fr _ _ _ _ => F20
  rename News _ _ _ _ => N20
  refine wpAny_call (C_clear (G := G) (Mine.Amb.deep hh B1 X1 T1 rfl rfl) F20 N20 (by k_room) (by k_units) Lk0 V.Mp (by omega) (fun n hn => (V.cb n hn).toIn) ht TI fun h20 tk20 nw4 ts' tn' F21 N21 Lk1 Mp1 ht1 TI1 K1 => ?_)
  have V3 := V.cache (row' := []) N20 K1 ⟨tm, tma, Lk1⟩ Mp1 ⟨ts', tn', ht1, TI1⟩ (fun n hn => absurd hn List.not_mem_nil) (fun n hn => absurd hn List.not_mem_nil) (by obtain ⟨t, u, hs⟩ := V.szt; exact ⟨t, u, K1.tup N20 ht _ _ hs⟩)
  clear F20 N20
  dsimp only
  k_steps
  refine unstop ?_
  rename Fr _ _ _ _ => F22
  rename News _ _ _ _ => N22
  refine wpAny_call (C_shrunk (row := ents) (G := G) (least := 0) (Mine.Amb.deep hh B1 X1 T1 rfl rfl) F22 N22 (by k_room) V3.Rw V3.Tg V3.ne.1 (by decide) ?hl fun h22 tk22 nw5 F23 N23 Rw3 Tg3 K3 => ?_)
  case hl => omega
  have V4 := V3.rowgone N22 K3 Rw3 Tg3
  clear F22 N22
  obtain ⟨oc, hc1, hoc1⟩ := id V4.cel
  obtain ⟨ts4, tn4, ht4, TI4⟩ := id V4.Tl
  obtain ⟨gs4, gn4, hg4, GI4⟩ := id V4.Tg
  obtain ⟨tm4, ta4, Lk4⟩ := id V4.Lk
  have hx4 := Lk4.inst
  have hdx4 := Lk4.dic
  dsimp only
  k_steps
  refine unstop ?_
  rename Fr _ _ _ _ => F24
  rename News _ _ _ _ => N24
  have e1 := hJ.Sm.reverse.tells
  rw [show ents.drop (Int.toNat 0) = ents from rfl, ← e1] at GI4
  refine told_eq N24 ht4 hg4 TI4 GI4 (by k_units) ?_
  k_steps
  refine unstop ?_
  rename Fr _ _ _ _ => F30
  rename News _ _ _ _ => N30
  refine wpAny_call (C_len (row := []) (Mine.Amb.in1 (Mine.Amb.deep hh B1 X1 T1 rfl rfl)) F30 N30 (by k_room) Lk4 V4.Mp (by decide) fun h31 tk31 tt F31 N31 => ?_)
  clear F30 N30
  refine ⟨⟨by decide, by decide⟩, ?_⟩
  dsimp only [List.length_nil]
  k_steps
  refine unstop ?_
  rename Fr _ _ _ _ => F32
  rename News _ _ _ _ => N32
  refine wpAny_call (C_bad (Mine.Amb.deep hh B1 X1 T1 rfl rfl) F32 N32 (by k_room) X1 T1 Lk4 fun h33 tk33 nw6 F33 N33 K6 => ?_)
  have V5 := V4.more N32 K6
  obtain ⟨ps, hP, _⟩ := id V5.tab
  clear F32 N32
  dsimp only
  k_steps
end
end
section
theorem PySem.Challenge.cw_jh0006_01_holds : PySem.Challenge.rw_jh0006_01.Holds :=
  Mine.S1.2.2 ⟨Mine.S2.2.2 ⟨Mine.deedsS⟩ ⟨Mine.checksS⟩⟩ ⟨Mine.doneS⟩
end
