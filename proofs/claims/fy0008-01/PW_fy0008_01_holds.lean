import PyProof.Rows.All
import Wide.All
import OpenK.AllK
import Wide.FinOn
import Lean
import PySem.Challenge.RW_fy0008_01
set_option Elab.async false

section
open PySem PySem.W PyProof.Rows
set_option maxRecDepth 100000
set_option maxHeartbeats 8000000
namespace Mine
open_top hd for PySem.Challenge.rw_fy0008_01

end Mine
end

namespace Mine
theorem fresh_G1 : True := by w_top off; first | walk1 | trivial
end Mine

section
open PySem PySem.W PyProof.Rows PySem.Calls PySem.Spec
set_option maxRecDepth 100000
set_option maxHeartbeats 8000000
namespace Mine
abbrev Led := List (Addr × Obj)
abbrev nodeCls : Addr := 59
abbrev pointCls : Addr := 31

def Spec (w : World) (dd uu : Nat) (f : Value) (args : List Value) (pre : Led) (post : Value → Led → Prop) : Prop :=
  ∀ (loose : List Str) (mean : ExcName → Option Value) (mg mb : Str → Option Value) (dp un : Nat) (gd : Option (List Code)) (cn : Str) (cs : Scope) (a : Addr) (ccd : Value) (cl : List (Str × Addr)) (outer : List Env) (A₀ : Around) (base h₀ : Heap) (L : Addr) (m : Str → Option Value) (s : Shared)
    (Q E : Value → Shared → Prop),
    Below A₀ base outer h₀ → Fr h₀ L s.heap m → (hd.heap_39 w.params).In h₀ → News h₀ L s.heap pre → Top hd.view_39 loose mean mg mb h₀ → cs.kind = .function → dp + dd < recursionLimit → un + uu < cLine →
    (∀ r led' h' tk', Fr h₀ L h' m → News h₀ L h' led' → post r led' → Q r { s with heap := h', toks := tk' }) →
    wpAny (model PySem.Challenge.rw_fy0008_01.row.prog w) (ktrTop dp un gd cn cs L a ccd cl outer) (call f args) Q E s

theorem Spec.use {w : World} {dd uu : Nat} {f : Value} {args : List Value} {pre : Led} {post : Value → Led → Prop} (S : Spec w dd uu f args pre post)
    {loose : List Str} {mean : ExcName → Option Value} {mg mb : Str → Option Value} {dp un : Nat} {gd : Option (List Code)} {cn : Str} {cs : Scope} {a : Addr} {ccd : Value} {cl : List (Str × Addr)} {outer : List Env} {A₀ : Around} {base h₀ : Heap} {L : Addr} {m : Str → Option Value} {s : Shared}
    {Q E : Value → Shared → Prop}
    (B : Below A₀ base outer h₀) (F : Fr h₀ L s.heap m) (X : (hd.heap_39 w.params).In h₀) (N : News h₀ L s.heap pre) (T : Top hd.view_39 loose mean mg mb h₀) (hk : cs.kind = .function) (hd' : dp + dd < recursionLimit) (hu' : un + uu < cLine)
    (ret : ∀ r led' h' tk', Fr h₀ L h' m → News h₀ L h' led' → post r led' → Q r { s with heap := h', toks := tk' }) :
    wpAny (model PySem.Challenge.rw_fy0008_01.row.prog w) (ktrTop dp un gd cn cs L a ccd cl outer) (call f args) Q E s :=
  S _ _ _ _ _ _ _ _ _ _ _ _ _ _ _ _ _ _ _ _ _ B F X N T hk hd' hu' ret

def upd (d : Addr) (o : Obj) (led : Led) : Led := led.map fun p => if p.1 = d then (d, o) else p
theorem upd_self {d : Addr} {o o' : Obj} {led : Led} (h : (d, o) ∈ led) : (d, o') ∈ upd d o' led :=
  List.mem_map.mpr ⟨(d, o), h, by simp⟩
theorem upd_ne {a d : Addr} {o o' : Obj} {led : Led} (h : (a, o) ∈ led) (hn : a ≠ d) : (a, o) ∈ upd d o' led :=
  List.mem_map.mpr ⟨(a, o), h, by simp [hn]⟩
theorem upd_mem {d : Addr} {o' : Obj} {led : Led} {p : Addr × Obj} (h : p ∈ upd d o' led) : p = (d, o') ∨ (p ∈ led ∧ p.1 ≠ d) := by
  obtain ⟨q, hq, e⟩ := List.mem_map.mp h
  by_cases hqd : q.1 = d
  · rw [if_pos hqd] at e; exact .inl e.symm
  · rw [if_neg hqd] at e; subst e; exact .inr ⟨hq, hqd⟩
theorem news_ne {h₀ h : Heap} {L a b : Addr} {o o' : Obj} {led : Led} (N : News h₀ L h led) (ha : (a, o) ∈ led) (hb : (b, o') ∈ led) (hne : o ≠ o') : a ≠ b := by
  rintro rfl
  have h1 := (N _ ha).1
  have h2 := (N _ hb).1
  exact hne (Option.some.inj (h1.symm.trans h2))
theorem news_eq {h₀ h : Heap} {L a : Addr} {o o' : Obj} {led : Led} (N : News h₀ L h led) (ha : (a, o) ∈ led) (hb : (a, o') ∈ led) : o = o' :=
  Option.some.inj ((N _ ha).1.symm.trans (N _ hb).1)
theorem news_off {h₀ h : Heap} {L d : Addr} {o : Obj} {led : Led} (N : News h₀ L h led) (hd : (d, o) ∈ led) : News h₀ L h ((d, o) :: led.filter (fun p => decide (p.1 ≠ d))) := fun p hp => by
  rcases List.mem_cons.mp hp with rfl | hp
  · exact N _ hd
  · exact N p (List.mem_filter.mp hp).1
theorem news_upd {h₀ h : Heap} {L d : Addr} {o : Obj} {led : Led} (N : News h₀ L h ((d, o) :: led.filter (fun p => decide (p.1 ≠ d)))) : News h₀ L h (upd d o led) := fun p hp => by
  rcases upd_mem hp with rfl | ⟨hp, hn⟩
  · exact N _ (.head _)
  · exact N p (.tail _ (List.mem_filter.mpr ⟨hp, by simpa using hn⟩))
theorem off_ne {d : Addr} {led : Led} : ∀ p ∈ led.filter (fun p => decide (p.1 ≠ d)), p.1 ≠ d := fun p hp => by simpa using (List.mem_filter.mp hp).2

section
variable {prog : Program} {w : World} {A : Around} {E : Value → Shared → Prop} {s : Shared} {K : Frag} {x C dx L : Addr} {h₀ : Heap} {m : Str → Option Value} {news : Led} {es es' : List DictEntry} {n n' : Nat} {name : Str} {v : Value}
theorem set_dictU {Q : Unit → Shared → Prop} {sl : Array (Option Value)} (F : Fr h₀ L s.heap m) (X₀ : K.In h₀) (N : News h₀ L s.heap news) (hi : (x, (⟨.ref C, some dx, .plain, sl⟩ : Obj)) ∈ news) (hdm : (dx, dictOf es n) ∈ news)
    (hs : findIn K (.ref C) "__setattr__" = some (some (.builtin "object.__setattr__"))) (hp : plainOver K C = true) (ht : takerIn K C name = some none) (hh : hasDictIn K C = true) (hl : (getL name es).isSome = true)
    (e : (putL name (PyData.keyHash w.params name) (.str name (s.toks + 1)) v es, putN name es n) = (es', n')) (hz : es'.length ≤ 1000)
    (h : ∀ h', Fr h₀ L h' m → News h₀ L h' (upd dx (dictOf es' n') news) → Q () { s with heap := h', toks := s.toks + 2 }) :
    wpAny (model prog w) A (setAttr (.ref x) name v) Q E s :=
  set_dict F X₀ (news_off N hdm) (InstAt.of_news N hi hdm) rfl hs hp ht hh hl e (Upd.head off_ne) hz fun h' F' N' => h h' F' (news_upd N')

theorem append_U {D : Addr} {its : Array Value} {n : Nat} {y : Value} {Q : Value → Shared → Prop} (F : Fr h₀ L s.heap m) (N : News h₀ L s.heap news) (hm : (D, listOf its n) ∈ news)
    (h : ∀ h', Fr h₀ L h' m → News h₀ L h' (upd D (listOf (its.push y) (n + 1)) news) → Q .none { s with heap := h' }) (hsz : its.size ≤ sizeLine := by size_fits) : wpAny (model prog w) A (call (.builtin "list.append") [.ref D, y]) Q E s :=
  append_K F (news_off N hm) (Upd.head off_ne) (fun h' F' N' => h h' F' (news_upd N')) hsz
end

/-- the entries of a node's dict -/
abbrev nodeEs (P : Params) (t : Nat → Tok) (i : Value) (pt : Addr) (x y : Int) (tx ty : Tok) (pv nx : Addr) (tz : Tok) : List DictEntry :=
  [⟨PyData.keyHash P "i", .str "i" (t 0), i⟩, ⟨PyData.keyHash P "point", .str "point" (t 1), .ref pt⟩,
   ⟨PyData.keyHash P "x", .str "x" (t 2), .int x tx⟩, ⟨PyData.keyHash P "y", .str "y" (t 3), .int y ty⟩,
   ⟨PyData.keyHash P "prev", .str "prev" (t 4), .ref pv⟩, ⟨PyData.keyHash P "next", .str "next" (t 5), .ref nx⟩,
   ⟨PyData.keyHash P "z", .str "z" (t 6), .int 0 tz⟩, ⟨PyData.keyHash P "prev_z", .str "prev_z" (t 7), .none⟩,
   ⟨PyData.keyHash P "next_z", .str "next_z" (t 8), .none⟩, ⟨PyData.keyHash P "steiner", .str "steiner" (t 9), .bool false⟩]

structure NodeR where
  d : Addr
  t : Nat → Tok
  i : Value
  pt : Addr
  x : Int
  y : Int
  tx : Tok
  ty : Tok
  pv : Addr
  nx : Addr
  tz : Tok
abbrev NodeR.o (P : Params) (r : NodeR) : Obj := dictOf (nodeEs P r.t r.i r.pt r.x r.y r.tx r.ty r.pv r.nx r.tz) 10

def NodeAt (P : Params) (led : Led) (a : Addr) (r : NodeR) : Prop :=
  (a, instObj nodeCls r.d) ∈ led ∧ (r.d, r.o P) ∈ led ∧ 0 ≤ r.x ∧ r.x ≤ 4

theorem area_spec (w : World) (led : Led) (p q r : Addr) (np nq nr : NodeR) (hp : NodeAt w.params led p np) (hq : NodeAt w.params led q nq) (hr : NodeAt w.params led r nr) :
    Spec w 2 20 (.ref 84) [.ref p, .ref q, .ref r] led (fun v led' => led' = led ∧ ∃ tk, v = .int ((nq.y - np.y) * (nr.x - nq.x) - (nq.x - np.x) * (nr.y - nq.y)) tk) := by
  unfold Spec
  k_fill
  intro loose mean mg mb dp un gd cn cs a ccd cl outer A₀ base h₀ L m s Q E B F X N T hk hd9 hu9 hret
  obtain ⟨hp1, hp2, hp3, hp4⟩ := hp
  obtain ⟨hq1, hq2, hq3, hq4⟩ := hq
  obtain ⟨hr1, hr2, hr3, hr4⟩ := hr
  refine wpAny_call ?_
  k_dflt ktr_enter
  k_steps
  all_goals exact hret _ _ _ _ (by k_asm) (by k_asm) ⟨rfl, _, rfl⟩


local macro_rules | `(tactic| k_mem) => `(tactic| first | assumption | exact upd_self (by assumption) | (refine upd_ne ?_ (by first | assumption | (apply Ne.symm; assumption)); k_mem))
local macro_rules | `(tactic| walk_at "setAttr ref") => `(tactic| (k_here; k_dflt (refine' set_dictU ?k1 ?k2 ?k3 ?k4 ?k5 ?k6 ?k7 ?k8 ?k9 ?k10 ?k11 ?k12 ?_; (case k1 => k_asm); (case k2 => k_asm); (case k3 => k_asm); (case k4 => k_mem); (case k5 => k_mem); (case k6 => k_is); (case k7 => k_is); (case k8 => k_is); (case k9 => k_is); (case k10 => k_get); (case k11 => k_put); (case k12 => exact Nat.le_of_ble_eq_true rfl); k_whole; intro h' F' N'; (try k_sweep))))

theorem inst_ne_dict {h₀ h : Heap} {L a b : Addr} {led : Led} {C d : Addr} {es : List DictEntry} {n : Nat} (N : News h₀ L h led) (ha : (a, instObj C d) ∈ led) (hb : (b, dictOf es n) ∈ led) : a ≠ b :=
  news_ne N ha hb (by intro h; cases h)

theorem remove_spec3 (w : World) (led : Led) (p : Addr) (rp r1 r2 : NodeR) (hp : NodeAt w.params led p rp) (h1 : NodeAt w.params led rp.pv r1) (h2 : NodeAt w.params led rp.nx r2)
    (d12 : r1.d ≠ r2.d) (dp1 : rp.d ≠ r1.d) (dp2 : rp.d ≠ r2.d) :
    Spec w 2 20 (.ref 119) [.ref p] led (fun v led' => v = .none ∧ led' = upd r1.d (NodeR.o w.params { r1 with nx := rp.nx }) (upd r2.d (NodeR.o w.params { r2 with pv := rp.pv }) led)) := by
  unfold Spec
  k_fill
  intro loose mean mg mb dp un gd cn cs a ccd cl outer A₀ base h₀ L m s Q E B F X N T hk hd9 hu9 hret
  obtain ⟨hp1, hp2, hp3, hp4⟩ := hp
  obtain ⟨h11, h12, h13, h14⟩ := h1
  obtain ⟨h21, h22, h23, h24⟩ := h2
  have n1 := inst_ne_dict N hp1 h22
  have n2 := inst_ne_dict N hp1 h12
  have n3 := inst_ne_dict N h11 h22
  have n4 := inst_ne_dict N h11 h12
  refine wpAny_call ?_
  k_dflt ktr_enter
  k_steps
  all_goals exact hret _ _ _ _ (by k_asm) (by k_asm) ⟨rfl, rfl⟩

theorem remove_spec2 (w : World) (led : Led) (p q : Addr) (rp r1 : NodeR) (hp : NodeAt w.params led p rp) (h1 : NodeAt w.params led q r1) (e1 : rp.pv = q) (e2 : rp.nx = q) (dp1 : rp.d ≠ r1.d) :
    Spec w 2 20 (.ref 119) [.ref p] led (fun v led' => v = .none ∧ led' = upd r1.d (NodeR.o w.params { r1 with pv := q, nx := q }) (upd r1.d (NodeR.o w.params { r1 with pv := q }) led)) := by
  unfold Spec
  k_fill
  intro loose mean mg mb dp un gd cn cs a ccd cl outer A₀ base h₀ L m s Q E B F X N T hk hd9 hu9 hret
  obtain ⟨hp1, hp2, hp3, hp4⟩ := hp
  obtain ⟨h11, h12, h13, h14⟩ := h1
  have n1 := inst_ne_dict N hp1 h12
  have n4 := inst_ne_dict N h11 h12
  obtain ⟨d, t, i, pt, x, y, tx, ty, pv, nx, tz⟩ := rp
  dsimp only at *
  subst e1 e2
  refine wpAny_call ?_
  k_dflt ktr_enter
  k_steps
  all_goals exact hret _ _ _ _ (by k_asm) (by k_asm) ⟨rfl, rfl⟩
end Mine
end

namespace Mine
theorem fresh_G2 : True := by w_top off; first | walk1 | trivial
end Mine

section
open PySem PySem.W PyProof.Rows PySem.Calls PySem.Spec
set_option maxRecDepth 100000
set_option maxHeartbeats 1000000
namespace Mine
/-- in the triangle, as point_in_triangle asks it -/
@[reducible] def InTri (ax ay bx by' cx cy px py : Int) : Prop :=
  (ax - px) * (cy - py) ≤ (cx - px) * (ay - py) ∧ (bx - px) * (ay - py) ≤ (ax - px) * (by' - py) ∧ (cx - px) * (by' - py) ≤ (bx - px) * (cy - py)

theorem pit_spec (w : World) (led : Led) (ax ay bx by' cx cy px py : Int) (t1 t2 t3 t4 t5 t6 t7 t8 : Tok)
    (ha0 : 0 ≤ ax) (ha1 : ax ≤ 4) (hb0 : 0 ≤ bx) (hb1 : bx ≤ 4) (hc0 : 0 ≤ cx) (hc1 : cx ≤ 4) (hp0 : 0 ≤ px) (hp1 : px ≤ 4) :
    Spec w 2 20 (.ref 148) [.int ax t1, .int ay t2, .int bx t3, .int by' t4, .int cx t5, .int cy t6, .int px t7, .int py t8] led (fun v led' => led' = led ∧ v = .bool (decide (InTri ax ay bx by' cx cy px py))) := by
  unfold Spec
  k_fill
  intro loose mean mg mb dp un gd cn cs a ccd cl outer A₀ base h₀ L m s Q E B F X N T hk hd9 hu9 hret
  refine wpAny_call ?_
  k_dflt ktr_enter
  k_steps
  all_goals refine hret _ _ _ _ (by k_asm) (by k_asm) ⟨rfl, congrArg Value.bool (decide_eq_decide.mpr ?_)⟩
  · exact ⟨fun h => ⟨by assumption, by assumption, h⟩, fun h => h.2.2⟩
  · exact ⟨fun h => absurd h (by assumption), fun h => h.2.1⟩
  · exact ⟨fun h => absurd h (by assumption), fun h => h.1⟩

structure RN where
  a : Addr
  d : Addr
  t : Nat → Tok
  i : Value
  pt : Addr
  x : Int
  y : Int
  tx : Tok
  ty : Tok
  tz : Tok
def RN.dft : RN := ⟨0, 0, fun _ => 0, .none, 0, 0, 0, 0, 0, 0⟩
abbrev RN.r (n : RN) (pv nx : Addr) : NodeR := { d := n.d, t := n.t, i := n.i, pt := n.pt, x := n.x, y := n.y, tx := n.tx, ty := n.ty, pv := pv, nx := nx, tz := n.tz }

def cyc (ring : List RN) (j : Nat) : RN := ring.getD (j % ring.length) RN.dft
structure RingIn (P : Params) (led : Led) (ring : List RN) : Prop where
  node : ∀ j, NodeAt P led (cyc ring j).a ((cyc ring j).r (cyc ring (j + ring.length - 1)).a (cyc ring (j + 1)).a)
  nodup : (ring.map (·.d)).Nodup
  nodupa : (ring.map (·.a)).Nodup

theorem cyc_add (ring : List RN) (j : Nat) : cyc ring (j + ring.length) = cyc ring j := by
  unfold cyc; rw [Nat.add_mod_right]
theorem cyc_ne {ring : List RN} (h : (ring.map (·.a)).Nodup) {i j : Nat} (hi : i < ring.length) (hj : j < ring.length) (hij : i ≠ j) : (cyc ring i).a ≠ (cyc ring j).a := by
  intro e
  unfold cyc at e
  rw [Nat.mod_eq_of_lt hi, Nat.mod_eq_of_lt hj] at e
  simp only [List.getD, List.getElem?_eq_getElem hi, List.getElem?_eq_getElem hj, Option.getD_some] at e
  have h1 : (ring.map (·.a))[i]'(by simpa using hi) = (ring.map (·.a))[j]'(by simpa using hj) := by simpa using e
  exact hij ((List.getElem_inj h).mp h1)

/-- area(p, q, r) -/
def area3 (p q r : RN) : Int := (q.y - p.y) * (r.x - q.x) - (q.x - p.x) * (r.y - q.y)
def InBox (a b c p : RN) : Prop :=
  min (min a.x b.x) c.x ≤ p.x ∧ p.x ≤ max (max a.x b.x) c.x ∧ min (min a.y b.y) c.y ≤ p.y ∧ p.y ≤ max (max a.y b.y) c.y
/-- the place j forbids the ear at the head -/
def Blocks (ring : List RN) (j : Nat) : Prop :=
  InBox (cyc ring (ring.length - 1)) (cyc ring 0) (cyc ring 1) (cyc ring j) ∧
  InTri (cyc ring (ring.length - 1)).x (cyc ring (ring.length - 1)).y (cyc ring 0).x (cyc ring 0).y (cyc ring 1).x (cyc ring 1).y (cyc ring j).x (cyc ring j).y ∧
  0 ≤ area3 (cyc ring (j - 1)) (cyc ring j) (cyc ring (j + 1))
def Ear (ring : List RN) : Prop :=
  area3 (cyc ring (ring.length - 1)) (cyc ring 0) (cyc ring 1) < 0 ∧ ∀ j, 2 ≤ j → j < ring.length - 1 → ¬ Blocks ring j

def Hold (P : Prop) : Prop := P
theorem Hold.out {P : Prop} (h : Hold P) : P := h

section
variable {prog : Program} {w : World} {A : Around} {E : Value → Shared → Prop} {s : Shared} {h₀ : Heap} {L : Addr} {m : Str → Option Value} {news : Led}
theorem max_three_N {a b c : Int} {t u v : Tok} {Q : Value → Shared → Prop} (hh : A.handled = none) (F : Fr h₀ L s.heap m) (N : News h₀ L s.heap news)
    (h : ∀ h' tk x, Fr h₀ L h' m → News h₀ L h' news → Q (.int (max (max a b) c) x) { s with heap := h', toks := tk }) :
    wpAny (model prog w) A (call (.builtin "max") [.int a t, .int b u, .int c v]) Q E s :=
  max_three_ints hh fun h' tk hk => by
    have key := fun x => h h' tk x (F.grownK hk) (N.grown hk)
    by_cases hba : b > a <;> by_cases hc1 : c > b <;> by_cases hc2 : c > a <;> simp only [hba, hc1, hc2, if_true, if_false]
    · rw [show max (max a b) c = c by omega] at key; exact key _
    · rw [show max (max a b) c = c by omega] at key; exact key _
    · rw [show max (max a b) c = b by omega] at key; exact key _
    · rw [show max (max a b) c = b by omega] at key; exact key _
    · rw [show max (max a b) c = c by omega] at key; exact key _
    · rw [show max (max a b) c = a by omega] at key; exact key _
    · rw [show max (max a b) c = c by omega] at key; exact key _
    · rw [show max (max a b) c = a by omega] at key; exact key _
theorem min_three_N {a b c : Int} {t u v : Tok} {Q : Value → Shared → Prop} (hh : A.handled = none) (F : Fr h₀ L s.heap m) (N : News h₀ L s.heap news)
    (h : ∀ h' tk x, Fr h₀ L h' m → News h₀ L h' news → Q (.int (min (min a b) c) x) { s with heap := h', toks := tk }) :
    wpAny (model prog w) A (call (.builtin "min") [.int a t, .int b u, .int c v]) Q E s :=
  min_three_ints hh fun h' tk hk => by
    have key := fun x => h h' tk x (F.grownK hk) (N.grown hk)
    by_cases hba : b < a <;> by_cases hc1 : c < b <;> by_cases hc2 : c < a <;> simp only [hba, hc1, hc2, if_true, if_false]
    · rw [show min (min a b) c = c by omega] at key; exact key _
    · rw [show min (min a b) c = c by omega] at key; exact key _
    · rw [show min (min a b) c = b by omega] at key; exact key _
    · rw [show min (min a b) c = b by omega] at key; exact key _
    · rw [show min (min a b) c = c by omega] at key; exact key _
    · rw [show min (min a b) c = a by omega] at key; exact key _
    · rw [show min (min a b) c = c by omega] at key; exact key _
    · rw [show min (min a b) c = a by omega] at key; exact key _
end
theorem is_ref {M : Model} {A : Around} {E : Value → Shared → Prop} {s : Shared} {h₀ : Heap} {L : Addr} {news : Led} {x y : Addr} {ox oy : Obj} {Q : Value → Shared → Prop} (N : News h₀ L s.heap news) (hx : (x, ox) ∈ news) (hy : (y, oy) ∈ news) (hb : ox.cls ≠ Value.type "tuple")
    (hq : Q (.bool (decide (x = y))) s) : wpAny M A (compareOp .Is (.ref x) (.ref y)) Q E s := by
  by_cases h : x = y
  · subst h; exact wpAny_is_ref_self (by simpa using hq)
  · exact wpAny_is_ref_other h (N _ hx).1 (N _ hy).1 hb (by simpa [h] using hq)
theorem isnot_ref {M : Model} {A : Around} {E : Value → Shared → Prop} {s : Shared} {h₀ : Heap} {L : Addr} {news : Led} {x y : Addr} {ox oy : Obj} {Q : Value → Shared → Prop} (N : News h₀ L s.heap news) (hx : (x, ox) ∈ news) (hy : (y, oy) ∈ news) (hb : ox.cls ≠ Value.type "tuple")
    (hq : Q (.bool (decide (x ≠ y))) s) : wpAny M A (compareOp .IsNot (.ref x) (.ref y)) Q E s := by
  by_cases h : x = y
  · subst h; exact wpAny_isNot_ref_self (by simpa using hq)
  · exact wpAny_isNot_ref_other h (N _ hx).1 (N _ hy).1 hb (by simpa [h] using hq)
local macro_rules | `(tactic| walk_at "compareOp Is ref ref") => `(tactic| (k_here; k_dflt (refine' is_ref ?N ?a ?b ?c ?_; (case N => k_asm); (case a => k_mem); (case b => k_mem); (case c => intro z; cases z))))
local macro_rules | `(tactic| walk_at "compareOp IsNot ref ref") => `(tactic| (k_here; k_dflt (refine' isnot_ref ?N ?a ?b ?c ?_; (case N => k_asm); (case a => k_mem); (case b => k_mem); (case c => intro z; cases z))))
local macro_rules | `(tactic| walk_at "call builtin:min") => `(tactic| (k_here; (with_reducible show wpAny _ _ (call (Value.builtin _) [Value.int _ _, Value.int _ _, Value.int _ _]) _ _ _); k_dflt (refine' min_three_N ?k0 ?k1 ?k2 ?_; (case k0 => with_unfolding_all rfl); (case k1 => k_asm); (case k2 => k_asm)); intro h' tk' x' F' N'; (try k_sweep)))
local macro_rules | `(tactic| walk_at "call builtin:max") => `(tactic| (k_here; (with_reducible show wpAny _ _ (call (Value.builtin _) [Value.int _ _, Value.int _ _, Value.int _ _]) _ _ _); k_dflt (refine' max_three_N ?k0 ?k1 ?k2 ?_; (case k0 => with_unfolding_all rfl); (case k1 => k_asm); (case k2 => k_asm)); intro h' tk' x' F' N'; (try k_sweep)))

local macro_rules | `(tactic| walk_at "exec While Compare cons nil") => `(tactic| (refine Hold.out ?_))
local macro_rules | `(tactic| walk_at "KswEnd") => `(tactic| (refine Hold.out ?_))
local macro_rules | `(tactic| walk_at "call ref") => `(tactic| k_extra "my call")

theorem RingIn.at {P : Params} {led : Led} {ring : List RN} (h : RingIn P led ring) {j : Nat} (hj : 1 ≤ j) : NodeAt P led (cyc ring j).a ((cyc ring j).r (cyc ring (j - 1)).a (cyc ring (j + 1)).a) := by
  have := h.node j
  rwa [show j + ring.length - 1 = (j - 1) + ring.length by omega, cyc_add] at this

theorem is_ear_spec (w : World) (led : Led) (ring : List RN) (hR : RingIn w.params led ring) (hlen : 3 ≤ ring.length) :
    Spec w 4 40 (.ref 141) [.ref (cyc ring 0).a] led (fun v led' => led' = led ∧ ∃ b, v = .bool b ∧ (b = true ↔ Ear ring)) := by
  unfold Spec
  k_fill
  intro loose mean mg mb dp un gd cn cs a ccd cl outer A₀ base h₀ L m s Q E B F X N T hk hd9 hu9 hret
  have hb := hR.node 0
  rw [Nat.zero_add, Nat.zero_add] at hb
  have hc := hR.at (j := 1) (Nat.le_refl _)
  have ha := hR.at (j := ring.length - 1) (by omega)
  have qb := hb
  have qc := hc
  have qa := ha
  obtain ⟨hb1, hb2, hb3, hb4⟩ := hb
  obtain ⟨hc1, hc2, hc3, hc4⟩ := hc
  obtain ⟨ha1, ha2, ha3, ha4⟩ := ha
  dsimp only at hb3 hb4 hc3 hc4 ha3 ha4
  k_with_none
  k_with "my call" => first
    | (refine' Spec.use (area_spec w led _ _ _ _ _ _ ?a1 ?a2 ?a3) ?k1 ?k2 ?k3 ?k4 ?k5 ?kK ?kd ?ku ?_; (case a1 => assumption); (case a2 => assumption); (case a3 => assumption); (case k1 => k_asm); (case k2 => k_asm); (case k3 => k_asm); (case k4 => k_asm); (case k5 => k_asm); (case kK => exact rfl); (case kd => ktr_room); (case ku => ktr_units); intro r9 led9 h9 tk9 F9 N9 ho9; obtain ⟨e9, t9, e9'⟩ := ho9; have e9 := e9.symm; subst e9 e9'; (try k_sweep); (try k_fold))
    | (refine' Spec.use (pit_spec w led _ _ _ _ _ _ _ _ _ _ _ _ _ _ _ _ ?a1 ?a2 ?a3 ?a4 ?a5 ?a6 ?a7 ?a8) ?k1 ?k2 ?k3 ?k4 ?k5 ?kK ?kd ?ku ?_; (case a1 => assumption); (case a2 => assumption); (case a3 => assumption); (case a4 => assumption); (case a5 => assumption); (case a6 => assumption); (case a7 => assumption); (case a8 => assumption); (case k1 => k_asm); (case k2 => k_asm); (case k3 => k_asm); (case k4 => k_asm); (case k5 => k_asm); (case kK => exact rfl); (case kd => ktr_room); (case ku => ktr_units); intro r9 led9 h9 tk9 F9 N9 ho9; obtain ⟨e9, e9'⟩ := ho9; have e9 := e9.symm; subst e9 e9'; (try k_sweep); (try k_fold))
  refine wpAny_call ?_
  k_dflt ktr_enter
  k_steps
  · refine hret _ _ _ _ (by k_asm) (by k_asm) ⟨rfl, false, rfl, ?_⟩
    simp only [Bool.false_eq_true, false_iff]
    intro hE
    exact absurd hE.1 (Int.not_lt.mpr (by assumption))
  · refine id (α := wpAny _ _ _ _ _ _) ?_
    (rename ¬ _ => hneg)
    (rename Fr _ _ _ _ => F1); (rename News _ _ _ _ => N1)
    with_unfolding_all refine ksw_while (σ := Nat) (fun _ => led) (fun j => [(Str.ofString "p", .ref (cyc ring j).a)]) (fun _ => True) [] (fun j => 2 ≤ j ∧ j ≤ ring.length - 1 ∧ ∀ i, 2 ≤ i → i < j → ¬ Blocks ring i) (fun j => ring.length - j) 2 F1 N1 trivial ?kk ?kp ?_
    case kk => intro p hp; rcases List.mem_singleton.mp hp with rfl; rfl
    case kp => exact ⟨Nat.le_refl _, by omega, fun i h1 h2 => absurd h2 (by omega)⟩
    intro j u h tk _ hP F2 N2
    obtain ⟨hj2, hjl, hjb⟩ := hP
    have qp := hR.at (j := j) (by omega)
    have qn := hR.at (j := j + 1) (by omega)
    have qm := hR.at (j := j - 1) (by omega)
    have hp := qp
    obtain ⟨hp1, hp2, hp3, hp4⟩ := hp
    dsimp only at hp3 hp4
    clear F1 N1
    try k_fold
    k_steps
    all_goals (try (have hja : (cyc ring j).a ≠ (cyc ring (ring.length - 1)).a := by assumption))
    all_goals first
      | (refine hret _ _ _ _ (by k_asm) (by k_asm) ⟨rfl, false, rfl, ?_⟩
         simp only [Bool.false_eq_true, false_iff]
         intro hE
         have hjl2 : j ≠ ring.length - 1 := fun e => hja (by rw [e])
         exact hE.2 j hj2 (by omega) ⟨⟨by assumption, by assumption, by assumption, by assumption⟩, by assumption, by assumption⟩)
      | (refine hret _ _ _ _ (by k_asm) (by k_asm) ⟨rfl, true, rfl, ?_⟩
         simp only [true_iff]
         have hjl2 : j = ring.length - 1 := by
           have hq : (cyc ring j).a = (cyc ring (ring.length - 1)).a := by first | assumption | exact Classical.not_not.mp (by assumption)
           refine Classical.byContradiction fun hne => ?_
           exact absurd hq (cyc_ne hR.nodupa (i := j) (j := ring.length - 1) (by omega) (by omega) hne)
         exact ⟨Int.not_le.mp hneg, fun i h1 h2 => hjb i h1 (by omega)⟩)
      | (have hjl2 : j ≠ ring.length - 1 := fun e => hja (by rw [e])
         (rename Fr _ _ _ _ => F3); (rename News _ _ _ _ => N3)
         unfold Hold
         refine ksw_end (j + 1) F3 N3 (fun _ h => h) trivial ?_ ?_ ⟨by omega, by omega, ?_⟩ (by omega)
         · intro p hp
           rcases List.mem_singleton.mp hp with rfl
           rfl
         · intro z h2 _
           have h3 := h2 _ (List.mem_singleton.mpr rfl)
           show (if z = _ then _ else _) = _
           rw [if_neg h3]
           show (if z = _ then _ else _) = _
           rw [if_neg h3]
           rfl
         · intro i h1 h2
           by_cases hij : i = j
           · subst hij
             rintro ⟨⟨b1, b2, b3, b4⟩, b5, b6⟩
             first
               | exact absurd b1 (by assumption)
               | exact absurd b2 (by assumption)
               | exact absurd b3 (by assumption)
               | exact absurd b4 (by assumption)
               | exact absurd b5 (by assumption)
               | exact absurd b6 (by assumption)
           · exact hjb i h1 (by omega))
end Mine
end

namespace Mine
theorem fresh_G3a : True := by w_top off; first | walk1 | trivial
end Mine

section
open PySem PySem.W PyProof.Rows PySem.Calls PySem.Spec
namespace Mine
def rot : List RN → List RN
  | [] => []
  | e :: l => l ++ [e]
def rotN : Nat → List RN → List RN
  | 0, r => r
  | n + 1, r => rotN n (rot r)
theorem rot_length (r : List RN) : (rot r).length = r.length := by cases r <;> simp [rot]
theorem rotN_length (n : Nat) : ∀ r : List RN, (rotN n r).length = r.length := by
  induction n with
  | zero => intro r; rfl
  | succ n ih => intro r; rw [rotN, ih, rot_length]
theorem cyc_mod (r : List RN) (j : Nat) : cyc r (j % r.length) = cyc r j := by
  unfold cyc; rw [Nat.mod_mod]
theorem cyc_lt {r : List RN} {j : Nat} (h : j < r.length) : cyc r j = r[j] := by
  unfold cyc; rw [Nat.mod_eq_of_lt h]; simp [List.getD, List.getElem?_eq_getElem h]
theorem cyc_rot (r : List RN) (j : Nat) : cyc (rot r) j = cyc r (j + 1) := by
  cases r with
  | nil => simp [cyc, rot]
  | cons e l =>
    have hl : (rot (e :: l)).length = l.length + 1 := by rw [rot_length]; rfl
    rw [← cyc_mod (rot (e :: l)) j, ← cyc_mod (e :: l) (j + 1), hl, List.length_cons]
    have hm : j % (l.length + 1) < l.length + 1 := Nat.mod_lt _ (Nat.succ_pos _)
    rw [show (j + 1) % (l.length + 1) = (j % (l.length + 1) + 1) % (l.length + 1) from (Nat.mod_add_mod j (l.length + 1) 1).symm]
    generalize j % (l.length + 1) = k at hm ⊢
    by_cases hk : k + 1 < l.length + 1
    · rw [Nat.mod_eq_of_lt hk, cyc_lt (by rw [hl]; exact hm), cyc_lt (by simpa using hk)]
      simp only [rot, List.getElem_cons_succ]
      rw [List.getElem_append_left]
    · have : k = l.length := by omega
      subst this
      rw [Nat.mod_self, cyc_lt (by rw [hl]; exact hm), cyc_lt (by simp)]
      simp [rot]
theorem rotN_rot (n : Nat) : ∀ r, rotN n (rot r) = rot (rotN n r) := by
  induction n with
  | zero => intro r; rfl
  | succ n ih => intro r; rw [rotN, rotN, ih]
theorem cyc_rotN (n : Nat) : ∀ (r : List RN) (j : Nat), cyc (rotN n r) j = cyc r (j + n) := by
  induction n with
  | zero => intro r j; rfl
  | succ n ih => intro r j; rw [rotN, ih, cyc_rot]; rfl
theorem ext_cyc {r r' : List RN} (hl : r.length = r'.length) (h : ∀ j, cyc r j = cyc r' j) : r = r' := by
  refine List.ext_getElem hl fun i h1 h2 => ?_
  rw [← cyc_lt h1, ← cyc_lt h2, h]
theorem rotN_len (r : List RN) : rotN r.length r = r := ext_cyc (rotN_length _ _) fun j => by rw [cyc_rotN, cyc_add]

theorem RingIn.mk' {P : Params} {led : Led} {ring : List RN} (h0 : 0 < ring.length) (h : ∀ j, j < ring.length → NodeAt P led (cyc ring j).a ((cyc ring j).r (cyc ring (j + ring.length - 1)).a (cyc ring (j + 1)).a))
    (h1 : (ring.map (·.d)).Nodup) (h2 : (ring.map (·.a)).Nodup) : RingIn P led ring := by
  refine ⟨fun j => ?_, h1, h2⟩
  have := h (j % ring.length) (Nat.mod_lt _ h0)
  rw [cyc_mod] at this
  have e1 : cyc ring (j % ring.length + ring.length - 1) = cyc ring (j + ring.length - 1) := by
    rw [← cyc_mod ring (j % ring.length + ring.length - 1), ← cyc_mod ring (j + ring.length - 1)]
    congr 1
    rw [show j % ring.length + ring.length - 1 = j % ring.length + (ring.length - 1) by omega, show j + ring.length - 1 = j + (ring.length - 1) by omega, Nat.mod_add_mod]
  have e2 : cyc ring (j % ring.length + 1) = cyc ring (j + 1) := by
    rw [← cyc_mod ring (j % ring.length + 1), ← cyc_mod ring (j + 1)]
    congr 1
    rw [Nat.mod_add_mod]
  rwa [e1, e2] at this

theorem rot_perm (r : List RN) : (rot r).Perm r := by
  cases r with
  | nil => exact .nil
  | cons e l => exact List.perm_append_singleton e l
theorem RingIn.rot {P : Params} {led : Led} {ring : List RN} (h : RingIn P led ring) : RingIn P led (rot ring) := by
  refine ⟨fun j => ?_, ((rot_perm ring).map _).nodup_iff.mpr h.nodup, ((rot_perm ring).map _).nodup_iff.mpr h.nodupa⟩
  rw [cyc_rot, cyc_rot, cyc_rot, rot_length]
  by_cases h0 : ring.length = 0
  · have := List.eq_nil_of_length_eq_zero h0
    subst this
    exact h.node 0
  · have := h.node (j + 1)
    rwa [show j + ring.length - 1 + 1 = j + 1 + ring.length - 1 by omega]

theorem cyc_tail {ring : List RN} {j : Nat} (h : j < ring.length - 1) : cyc ring.tail j = cyc ring (j + 1) := by
  rw [cyc_lt (by rw [List.length_tail]; exact h), cyc_lt (by omega), List.getElem_tail]
theorem d_ne {ring : List RN} (h : (ring.map (·.d)).Nodup) {i j : Nat} (hi : i < ring.length) (hj : j < ring.length) (hij : i ≠ j) : (cyc ring i).d ≠ (cyc ring j).d := by
  intro e
  rw [cyc_lt hi, cyc_lt hj] at e
  have h1 : (ring.map (·.d))[i]'(by simpa using hi) = (ring.map (·.d))[j]'(by simpa using hj) := by simpa using e
  exact hij ((List.getElem_inj h).mp h1)

theorem ring_cut {P : Params} {led led' : Led} {ring : List RN} (h : RingIn P led ring) (hl : 3 ≤ ring.length)
    (hk : ∀ p ∈ led, p.1 ≠ (cyc ring 1).d → p.1 ≠ (cyc ring (ring.length - 1)).d → p ∈ led')
    (h1 : ((cyc ring 1).d, ((cyc ring 1).r (cyc ring (ring.length - 1)).a (cyc ring 2).a).o P) ∈ led')
    (h2 : ((cyc ring (ring.length - 1)).d, ((cyc ring (ring.length - 1)).r (cyc ring (ring.length - 2)).a (cyc ring 1).a).o P) ∈ led')
    (hn : ∀ i j, (cyc ring i).a ≠ (cyc ring j).d) : RingIn P led' ring.tail := by
  have hlt : ring.tail.length = ring.length - 1 := List.length_tail
  have hsub : ring.tail.Sublist ring := List.tail_sublist ring
  refine RingIn.mk' (by omega) (fun j hj => ?_) (List.Nodup.sublist (hsub.map _) h.nodup) (List.Nodup.sublist (hsub.map _) h.nodupa)
  rw [hlt] at hj
  have hc : cyc ring.tail j = cyc ring (j + 1) := cyc_tail hj
  have old := h.at (j := j + 1) (by omega)
  have hinst : ((cyc ring (j + 1)).a, instObj nodeCls (cyc ring (j + 1)).d) ∈ led' := hk _ old.1 (hn _ _) (hn _ _)
  by_cases h0 : j = 0
  · subst h0
    have e1 : cyc ring.tail (0 + ring.tail.length - 1) = cyc ring (ring.length - 1) := by
      rw [hlt, cyc_tail (by omega)]; congr 1; omega
    have e2 : cyc ring.tail (0 + 1) = cyc ring 2 := cyc_tail (by omega)
    rw [hc, e1, e2]
    exact ⟨hinst, h1, old.2.2⟩
  · have e1 : cyc ring.tail (j + ring.tail.length - 1) = cyc ring j := by
      rw [show j + ring.tail.length - 1 = (j - 1) + ring.tail.length by omega, cyc_add, cyc_tail (by omega)]; congr 1; omega
    by_cases hj2 : j = ring.length - 2
    · have e2 : cyc ring.tail (j + 1) = cyc ring 1 := by
        rw [show j + 1 = 0 + ring.tail.length by omega, cyc_add, cyc_tail (by omega)]
      rw [hc, e1, e2]
      have ej : j + 1 = ring.length - 1 := by omega
      have ej2 : j = ring.length - 2 := hj2
      rw [ej] at hinst old ⊢
      rw [ej2]
      exact ⟨hinst, h2, old.2.2⟩
    · have e2 : cyc ring.tail (j + 1) = cyc ring (j + 2) := cyc_tail (by omega)
      rw [hc, e1, e2]
      refine ⟨hinst, hk _ old.2.1 (d_ne h.nodup (by omega) (by omega) (by omega)) (d_ne h.nodup (by omega) (by omega) (by omega)), old.2.2⟩

inductive Steps : List RN → List (RN × RN × RN) → List RN → Prop
  | refl (r : List RN) : Steps r [] r
  | rot {r T r'} : Steps r T r' → Steps r T (rot r')
  | cut {r T r'} : Steps r T r' → 3 ≤ r'.length → Ear r' → Steps r (T ++ [(cyc r' (r'.length - 1), cyc r' 0, cyc r' 1)]) r'.tail
theorem Steps.sub {r r' : List RN} {T : List (RN × RN × RN)} (h : Steps r T r') : ∀ x ∈ r', x ∈ r := by
  induction h with
  | refl => exact fun _ h => h
  | rot _ ih => exact fun x hx => ih x ((rot_perm _).mem_iff.mp hx)
  | cut _ _ _ ih => exact fun x hx => ih x (List.mem_of_mem_tail hx)
theorem Steps.len {r r' : List RN} {T : List (RN × RN × RN)} (h : Steps r T r') : T.length + r'.length = r.length := by
  induction h with
  | refl => simp
  | rot _ ih => rw [rot_length]; exact ih
  | cut _ h3 _ ih => rw [List.length_append, List.length_singleton, List.length_tail]; omega
theorem cyc_mem {r : List RN} (h : 0 < r.length) (j : Nat) : cyc r j ∈ r := by
  rw [← cyc_mod, cyc_lt (Nat.mod_lt _ h)]; exact List.getElem_mem _
end Mine
end

namespace Mine
theorem fresh_G3 : True := by w_top off; first | walk1 | trivial
end Mine

section
open PySem PySem.W PyProof.Rows PySem.Calls PySem.Spec
set_option maxRecDepth 100000
set_option maxHeartbeats 1000000
namespace Mine
local macro_rules | `(tactic| k_mem) => `(tactic| first | assumption | exact upd_self (by assumption) | (refine upd_ne ?_ (by first | assumption | (apply Ne.symm; assumption)); k_mem))
local macro_rules | `(tactic| walk_at "compareOp Is ref ref") => `(tactic| (k_here; k_dflt (refine' is_ref ?N ?a ?b ?c ?_; (case N => k_asm); (case a => k_mem); (case b => k_mem); (case c => intro z; cases z))))
local macro_rules | `(tactic| walk_at "compareOp IsNot ref ref") => `(tactic| (k_here; k_dflt (refine' isnot_ref ?N ?a ?b ?c ?_; (case N => k_asm); (case a => k_mem); (case b => k_mem); (case c => intro z; cases z))))
local macro_rules | `(tactic| walk_at "exec While Compare cons nil") => `(tactic| (refine Hold.out ?_))
local macro_rules | `(tactic| walk_at "KswEnd") => `(tactic| (refine Hold.out ?_))
local macro_rules | `(tactic| walk_at "call ref") => `(tactic| first | k_extra "my call" | (refine Hold.out ?_))
local macro_rules | `(tactic| walk_at "call builtin:list.append") => `(tactic| (k_here; k_dflt (refine' append_U ?k1 ?k2 ?k3 ?_ ?z; (case k1 => k_asm); (case k2 => k_asm); (case k3 => k_mem); (case z => assumption); intro h' F' N'; (try k_sweep))))

inductive All2 {α β : Type} (R : α → β → Prop) : List α → List β → Prop
  | nil : All2 R [] []
  | cons {a b as bs} : R a b → All2 R as bs → All2 R (a :: as) (b :: bs)
theorem All2.mono {α β : Type} {R R' : α → β → Prop} {as : List α} {bs : List β} (h : All2 R as bs) (f : ∀ a b, R a b → R' a b) : All2 R' as bs := by
  induction h with
  | nil => exact .nil
  | cons h _ ih => exact .cons (f _ _ h) ih
theorem All2.snoc {α β : Type} {R : α → β → Prop} {as : List α} {bs : List β} {a : α} {b : β} (h : All2 R as bs) (hb : R a b) : All2 R (as ++ [a]) (bs ++ [b]) := by
  induction h with
  | nil => exact .cons hb .nil
  | cons h _ ih => exact .cons h ih
theorem All2.length {α β : Type} {R : α → β → Prop} {as : List α} {bs : List β} (h : All2 R as bs) : as.length = bs.length := by
  induction h with
  | nil => rfl
  | cons h _ ih => rw [List.length_cons, List.length_cons, ih]

def TriIt (led : Led) (v : Value) (t : RN × RN × RN) : Prop :=
  ∃ x n, v = .ref x ∧ (x, ({ cls := .type "tuple", data := .seq #[.ref t.1.pt, .ref t.2.1.pt, .ref t.2.2.pt] n } : Obj)) ∈ led

structure EcSt where
  led : Led
  ring : List RN
  t : Nat
  T : List (RN × RN × RN)
  items : List Value
  n : Nat

structure EcP (P : Params) (led0 : Led) (ring0 : List RN) (told : Addr) (c : EcSt) : Prop where
  ring : RingIn P c.led c.ring
  pos : 0 < c.ring.length
  lt : c.t < c.ring.length
  no : ∀ j, c.ring.length - c.t ≤ j → j < c.ring.length → ¬ Ear (rotN j c.ring)
  steps : Steps ring0 c.T c.ring
  tl : (told, listOf c.items.toArray c.n) ∈ c.led
  tri : All2 (TriIt c.led) c.items c.T
  keep : ∀ p ∈ led0, p.1 ≠ told → (∀ r ∈ ring0, p.1 ≠ r.d) → p ∈ c.led

theorem ne_cls {o o' : Obj} {a b : String} (h1 : o.cls = .type a) (h2 : o'.cls = .type b) (h : a ≠ b) : o ≠ o' := fun e => h (Value.type.inj (h1.symm.trans ((congrArg Obj.cls e).trans h2)))
theorem NodeAt.keep {P : Params} {led led' : Led} {a : Addr} {r : NodeR} (h : NodeAt P led a r) (k : ∀ p ∈ led, (p.1 = a ∨ p.1 = r.d) → p ∈ led') : NodeAt P led' a r :=
  ⟨k _ h.1 (.inl rfl), k _ h.2.1 (.inr rfl), h.2.2⟩

theorem kp_of {h₀ h : Heap} {L told D : Addr} {OL tup : Obj} {led : Led} (_N : News h₀ L h (upd told OL ((D, tup) :: led))) : ∀ p ∈ led, p.1 ≠ told → p ∈ upd told OL ((D, tup) :: led) :=
  fun _ hp hn => upd_ne (List.mem_cons_of_mem _ hp) hn
theorem kT_of {h₀ h : Heap} {L told D : Addr} {OL tup o : Obj} {led : Led} (_N : News h₀ L h (upd told OL ((D, tup) :: led))) (ht : (told, o) ∈ led) : (told, OL) ∈ upd told OL ((D, tup) :: led) :=
  upd_self (List.mem_cons_of_mem _ ht)
theorem kD_of {h₀ h : Heap} {L told D : Addr} {OL tup o : Obj} {led : Led} (_N : News h₀ L h (upd told OL ((D, tup) :: led))) (l : ∀ p ∈ led, p.1 < D) (ht : (told, o) ∈ led) : (D, tup) ∈ upd told OL ((D, tup) :: led) ∧ ∀ p ∈ led, p.1 ≠ D :=
  ⟨upd_ne List.mem_cons_self (Nat.ne_of_gt (l _ ht)), fun p hp => Nat.ne_of_lt (l p hp)⟩

theorem upd2_keep {d1 d2 : Addr} {o1 o2 : Obj} {led led' : Led} (e : led' = upd d1 o1 (upd d2 o2 led)) : ∀ p ∈ led, p.1 ≠ d2 → p.1 ≠ d1 → p ∈ led' :=
  fun p hp h2 h1 => by rw [e]; exact upd_ne (upd_ne hp h2) h1

theorem kstB_off {rest : Str → Option Value} {z : Str} : ∀ {ps : List (Str × Value)}, (∀ p ∈ ps, z ≠ p.1) → kstB rest ps z = rest z
  | [], _ => rfl
  | p :: r, h => by
    show (if z = p.1 then some p.2 else kstB rest r z) = rest z
    rw [if_neg (h p List.mem_cons_self)]
    exact kstB_off fun q hq => h q (List.mem_cons_of_mem _ hq)

theorem cyc_one_eq {ring : List RN} {t : Nat} (hn : (ring.map (·.a)).Nodup) (h3 : 3 ≤ ring.length) (ht : t < ring.length) (e : (cyc ring 1).a = (cyc ring (ring.length - t)).a) : t + 1 = ring.length := by
  by_cases h0 : t = 0
  · subst h0
    rw [show ring.length - 0 = 0 + ring.length by omega, cyc_add] at e
    exact absurd e (cyc_ne hn (by omega) (by omega) (by omega))
  · refine Classical.byContradiction fun hc => ?_
    exact absurd e (cyc_ne hn (by omega) (by omega) (by omega))

theorem ec_stop {P : Params} {led0 : Led} {ring0 : List RN} {told : Addr} {c : EcSt} (h : EcP P led0 ring0 told c) (hne : ¬ Ear c.ring) (h3 : 3 ≤ c.ring.length) (e : (cyc c.ring 1).a = (cyc c.ring (c.ring.length - c.t)).a) :
    ∀ j, j < c.ring.length → ¬ Ear (rotN j c.ring) := by
  have ht := cyc_one_eq h.ring.nodupa h3 h.lt e
  intro j hj
  by_cases h0 : j = 0
  · subst h0; exact hne
  · exact h.no j (by omega) hj

theorem ec_next {P : Params} {led0 : Led} {ring0 : List RN} {told : Addr} {c : EcSt} (h : EcP P led0 ring0 told c) (hne : ¬ Ear c.ring) (h3 : 3 ≤ c.ring.length) (e : (cyc c.ring 1).a ≠ (cyc c.ring (c.ring.length - c.t)).a) :
    EcP P led0 ring0 told ⟨c.led, rot c.ring, c.t + 1, c.T, c.items, c.n⟩ ∧ c.t + 1 < c.ring.length := by
  have hlt := h.lt
  have ht : c.t + 1 < c.ring.length := by
    refine Classical.byContradiction fun hc => e ?_
    rw [show c.ring.length - c.t = 1 by omega]
  refine ⟨⟨h.ring.rot, by rw [rot_length]; exact h.pos, by rw [rot_length]; exact ht, ?_, h.steps.rot, h.tl, h.tri, h.keep⟩, ht⟩
  dsimp only
  rw [rot_length]
  intro j h1 h2
  rw [show rotN j (rot c.ring) = rotN (j + 1) c.ring from rfl]
  by_cases hj : j + 1 = c.ring.length
  · rw [hj, rotN_len]; exact hne
  · exact h.no (j + 1) (by omega) (by omega)

theorem ec_cut {P : Params} {led0 led' : Led} {ring0 : List RN} {told : Addr} {c : EcSt} {D : Addr} {kk : Nat} (h : EcP P led0 ring0 told c) (hE : Ear c.ring) (h3 : 3 ≤ c.ring.length)
    (hk : ∀ p ∈ c.led, p.1 ≠ told → (∀ j, p.1 ≠ (cyc c.ring j).d) → p ∈ led') (hr : RingIn P led' c.ring.tail)
    (ht : (told, listOf (c.items.toArray.push (.ref D)) (c.n + 1)) ∈ led')
    (hD : (D, ({ cls := .type "tuple", data := .seq #[.ref (cyc c.ring (c.ring.length - 1)).pt, .ref (cyc c.ring 0).pt, .ref (cyc c.ring 1).pt] kk } : Obj)) ∈ led')
    (nt : ∀ x vs k, (x, ({ cls := .type "tuple", data := .seq vs k } : Obj)) ∈ c.led → x ≠ told ∧ ∀ j, x ≠ (cyc c.ring j).d) :
    EcP P led0 ring0 told ⟨led', rot c.ring.tail, 0, c.T ++ [(cyc c.ring (c.ring.length - 1), cyc c.ring 0, cyc c.ring 1)], c.items ++ [.ref D], c.n + 1⟩ := by
  have hl : c.ring.tail.length = c.ring.length - 1 := List.length_tail
  refine ⟨hr.rot, by rw [rot_length]; omega, by rw [rot_length]; show 0 < _; omega, fun j h1 h2 => ?_, (h.steps.cut h3 hE).rot, ?_, ?_, fun p hp h1 h2 => ?_⟩
  · exact absurd h2 (Nat.not_lt.mpr h1)
  · have e : c.items.toArray.push (Value.ref D) = (c.items ++ [Value.ref D]).toArray := by simp
    show (told, listOf ((c.items ++ [Value.ref D]).toArray) (c.n + 1)) ∈ led'
    rw [← e]; exact ht
  · refine (h.tri.mono fun v t hv => ?_).snoc ⟨D, kk, rfl, hD⟩
    obtain ⟨x, k, e, hm⟩ := hv
    exact ⟨x, k, e, hk _ hm (nt x _ _ hm).1 (nt x _ _ hm).2⟩
  · exact hk p (h.keep p hp h1 h2) h1 fun j e => h2 _ (h.steps.sub _ (cyc_mem h.pos j)) e

theorem earcut_spec (w : World) (led : Led) (ring0 : List RN) (told : Addr) (n0 : Nat) (ta tb tc td : Tok) (hR : RingIn w.params led ring0) (h1 : 1 ≤ ring0.length) (h100 : ring0.length ≤ 100) (ht : (told, listOf (([] : List Value).toArray) n0) ∈ led) :
    Spec w 8 80 (.ref 134) [.ref (cyc ring0 0).a, .ref told, .int 0 ta, .int 0 tb, .int 0 tc, .int 2 td] led (fun v led' => v = .none ∧ ∃ c : EcSt, c.led = led' ∧ EcP w.params led ring0 told c ∧
      (c.ring.length ≤ 2 ∨ ∀ j, j < c.ring.length → ¬ Ear (rotN j c.ring))) := by
  unfold Spec
  k_fill
  intro loose mean mg mb dp un gd cn cs a ccd cl outer A₀ base h₀ L m s Q E B F X N T hk hd9 hu9 hret
  have hb := hR.node 0
  rw [Nat.zero_add, Nat.zero_add] at hb
  obtain ⟨hb1, hb2, hb3, hb4⟩ := hb
  k_with_none
  refine wpAny_call ?_
  k_dflt ktr_enter
  k_steps
  refine id (α := wpAny _ _ _ _ _ _) ?_
  (rename Fr _ _ _ _ => F1); (rename News _ _ _ _ => N1)
  have EP0 : EcP w.params led ring0 told ⟨led, ring0, 0, [], [], n0⟩ := by
    refine ⟨hR, h1, h1, fun j h2 h3 => absurd h3 (Nat.not_lt.mpr h2), .refl _, ht, .nil, fun p hp _ _ => hp⟩
  with_unfolding_all refine ksw_while (σ := EcSt) (fun c => c.led) (fun c => [(Str.ofString "ear", .ref (cyc c.ring 0).a), (Str.ofString "stop", .ref (cyc c.ring (c.ring.length - c.t)).a)]) (fun _ => True) [Str.ofString "prev", Str.ofString "next", Str.ofString "_is_ear"] (EcP w.params led ring0 told) (fun c => c.ring.length * 200 + (c.ring.length - c.t)) ⟨led, ring0, 0, [], [], n0⟩ F1 N1 trivial ?kk EP0 ?_
  case kk =>
    intro p hp
    rcases List.mem_cons.mp hp with rfl | hp
    · rfl
    · rcases List.mem_singleton.mp hp with rfl
      have e : cyc ring0 (ring0.length - 0) = cyc ring0 0 := by rw [show ring0.length - 0 = 0 + ring0.length by omega, cyc_add]
      show _ = some (Value.ref (cyc ring0 (ring0.length - 0)).a)
      rw [e]
      rfl
  intro c u h tk _ hP F2 N2
  obtain ⟨ledc, ring, t, Tc, items, n⟩ := c
  dsimp only at F2 N2
  have hR' := hP.ring
  have hpos := hP.pos
  have hlt := hP.lt
  dsimp only at hR' hpos hlt
  have hlen := hP.steps.len
  dsimp only at hlen
  have q0 := hR'.node 0
  rw [Nat.zero_add, Nat.zero_add] at q0
  have q1 := hR'.at (j := 1) (Nat.le_refl _)
  have qm := hR'.node (ring.length - 1)
  have qs := (hR'.node (ring.length - t)).1
  have i0 := q0
  obtain ⟨i01, i02, _, _⟩ := i0
  have i1 := q1
  obtain ⟨i11, i12, _, _⟩ := i1
  have im := qm
  obtain ⟨im1, im2, _, _⟩ := im
  have htold := hP.tl
  have hsz : items.toArray.size ≤ sizeLine := by
    rw [List.size_toArray, hP.tri.length, PySem.sizeLine_eq]
    show Tc.length ≤ _
    omega
  have nd : ∀ j, (cyc ring j).d ≠ told := fun j => news_ne N2 (hR'.node j).2.1 htold (ne_cls rfl rfl (by decide))
  have na : ∀ j, (cyc ring j).a ≠ told := fun j => news_ne N2 (hR'.node j).1 htold (by intro h; cases h)
  have nad : ∀ i j, (cyc ring i).a ≠ (cyc ring j).d := fun i j => inst_ne_dict N2 (hR'.node i).1 (hR'.node j).2.1
  have nt : ∀ x vs k, (x, ({ cls := .type "tuple", data := .seq vs k } : Obj)) ∈ ledc → x ≠ told ∧ ∀ j, x ≠ (cyc ring j).d := fun x vs k hm =>
    ⟨news_ne N2 hm htold (ne_cls rfl rfl (by decide)), fun j => news_ne N2 hm (hR'.node j).2.1 (ne_cls rfl rfl (by decide))⟩
  clear F1 N1
  try k_fold
  k_steps
  · refine id (α := wpAny _ _ _ _ _ _) ?_
    have h3 : 3 ≤ ring.length := by
      have hne : (cyc ring (ring.length - 1)).a ≠ (cyc ring 1).a := by assumption
      refine Classical.byContradiction fun hc => hne ?_
      have h12 : ring.length = 1 ∨ ring.length = 2 := by omega
      rcases h12 with e | e
      · rw [e]
        have := cyc_add ring 0
        rw [e] at this
        rw [show (1 : Nat) - 1 = 0 from rfl, ← this]
      · rw [e]
    refine' Spec.use (is_ear_spec w ledc ring hR' h3) ?k1 ?k2 ?k3 ?k4 ?k5 ?kK ?kd ?ku ?_
    case k1 => k_asm
    case k2 => k_asm
    case k3 => k_asm
    case k4 => k_asm
    case k5 => k_asm
    case kK => exact rfl
    case kd => ktr_room
    case ku => ktr_units
    intro r9 led9 h9 tk9 F9 N9 ho9
    obtain ⟨e9, b, e9', hb⟩ := ho9
    have e9 := e9.symm
    subst e9 e9'
    try k_sweep
    try k_fold
    k_steps
    · refine id (α := wpAny _ _ _ _ _ _) ?_
      have hbt : b = true := by assumption
      have hE : Ear ring := hb.mp hbt
      (rename News _ _ _ _ => N5)
      (rename ∀ p ∈ ledc, p.1 < _ => lD)
      have kp := kp_of N5
      have kD := kD_of N5 lD htold
      have kT := kT_of N5 htold
      have p0 := q0.keep fun p hp hn => kp p hp (hn.elim (fun e => e ▸ na 0) fun e => e ▸ nd 0)
      have p1 := q1.keep fun p hp hn => kp p hp (hn.elim (fun e => e ▸ na 1) fun e => e ▸ nd 1)
      have pm := (hR'.at (j := ring.length - 1) (by omega)).keep fun p hp hn => kp p hp (hn.elim (fun e => e ▸ na _) fun e => e ▸ nd _)
      have d1m : (cyc ring (ring.length - 1)).d ≠ (cyc ring 1).d := d_ne hR'.nodup (by omega) (by omega) (by omega)
      have d0m : (cyc ring 0).d ≠ (cyc ring (ring.length - 1)).d := d_ne hR'.nodup (by omega) (by omega) (by omega)
      have d01 : (cyc ring 0).d ≠ (cyc ring 1).d := d_ne hR'.nodup (by omega) (by omega) (by omega)
      refine' Spec.use (remove_spec3 w _ _ _ _ _ p0 pm p1 d1m d0m d01) ?k1 ?k2 ?k3 ?k4 ?k5 ?kK ?kd ?ku ?_
      case k1 => k_asm
      case k2 => k_asm
      case k3 => k_asm
      case k4 => k_asm
      case k5 => k_asm
      case kK => exact rfl
      case kd => ktr_room
      case ku => ktr_units
      intro r9 led9 h9 tk9 F9 N9 ho9
      obtain ⟨e8, e9⟩ := ho9
      subst e8
      have e0 : cyc ring (ring.length - 1 + 1) = cyc ring 0 := by rw [show ring.length - 1 + 1 = 0 + ring.length by omega, cyc_add]
      have kk : ∀ p ∈ ledc, p.1 ≠ told → p.1 ≠ (cyc ring 1).d → p.1 ≠ (cyc ring (ring.length - 1)).d → p ∈ led9 := fun p hp h1 h2 h3 => by
        rw [e9]; exact upd_ne (upd_ne (kp p hp h1) h2) h3
      have hRt : RingIn w.params led9 ring.tail := by
        refine ring_cut (led := ledc.filter (fun p => decide (p.1 ≠ told))) ?_ h3 ?_ ?_ ?_ nad
        · exact ⟨fun j => (hR'.node j).keep fun p hp hn => List.mem_filter.mpr ⟨hp, by simpa using (hn.elim (fun e => e ▸ na _) fun e => e ▸ nd _ : p.1 ≠ told)⟩, hR'.nodup, hR'.nodupa⟩
        · intro p hp h1 h2
          obtain ⟨hp1, hp2⟩ := List.mem_filter.mp hp
          exact kk p hp1 (by simpa using hp2) h1 h2
        · rw [e9]; exact upd_ne (upd_self p1.2.1) d1m.symm
        · rw [e9]; exact upd_self (upd_ne pm.2.1 d1m)
      have kk0 := upd2_keep e9
      have ht9 := kk0 _ kT (nd 1).symm (nd _).symm
      have hD9 := kk0 _ kD.1 (kD.2 _ (hR'.node 1).2.1).symm (kD.2 _ (hR'.node _).2.1).symm
      have EP := ec_cut hP hE h3 (fun p hp h1 h2 => kk p hp h1 (h2 1) (h2 _)) hRt ht9 hD9 nt
      have i2 := hRt.node 0
      have et1 : cyc ring.tail 0 = cyc ring 1 := cyc_tail (by omega)
      have et2 : cyc ring.tail 1 = cyc ring 2 := cyc_tail (by omega)
      rw [Nat.zero_add, Nat.zero_add, et1, et2] at i2
      obtain ⟨i21, i22, _, _⟩ := i2
      clear e9
      k_steps
      · unfold Hold
        (rename Fr _ _ _ _ => F3); (rename News _ _ _ _ => N3)
        refine ksw_end _ F3 N3 (fun _ h => h) trivial ?_ ?_ EP ?_
        · intro p hp
          rcases List.mem_cons.mp hp with rfl | hp
          · show _ = some (Value.ref (cyc (rot ring.tail) 0).a)
            rw [cyc_rot, et2]
            rfl
          · rcases List.mem_singleton.mp hp with rfl
            show _ = some (Value.ref (cyc (rot ring.tail) ((rot ring.tail).length - 0)).a)
            rw [show (rot ring.tail).length - 0 = 0 + (rot ring.tail).length by omega, cyc_add, cyc_rot, et2]
            rfl
        · intro z h5 h6
          have z1 : z ≠ Str.ofString "ear" := h5 _ List.mem_cons_self
          have z2 : z ≠ Str.ofString "stop" := h5 _ (List.mem_cons_of_mem _ List.mem_cons_self)
          have h7 := h6
          simp only [List.contains_cons, List.contains_nil, Bool.or_false, Bool.or_eq_false_iff, beq_eq_false_iff_ne, ne_eq] at h7
          obtain ⟨z3, z4, z5⟩ := h7
          simp only [if_neg z1, if_neg z2, if_neg z3, if_neg z4, if_neg z5]
          refine Eq.trans (kstB_off ?_) ?_
          · intro p hp
            rcases List.mem_cons.mp hp with rfl | hp
            · exact z1
            · rcases List.mem_singleton.mp hp with rfl
              exact z2
          simp only [h6, Bool.false_eq_true, if_false, if_neg z1, if_neg z2]
        · show (rot ring.tail).length * 200 + ((rot ring.tail).length - 0) < ring.length * 200 + (ring.length - t)
          rw [rot_length, List.length_tail]
          omega
    · have hne : ¬ Ear ring := fun h => by
        have hbf : b = false := by assumption
        rw [hb.mpr h] at hbf
        cases hbf
      have he : (cyc ring 1).a = (cyc ring (ring.length - t)).a := by assumption
      exact hret _ _ _ _ (by k_asm) (by k_asm) ⟨rfl, _, rfl, hP, .inr (ec_stop hP hne h3 he)⟩
    · have hne : ¬ Ear ring := fun h => by
        have hbf : b = false := by assumption
        rw [hb.mpr h] at hbf
        cases hbf
      have he : ¬ (cyc ring 1).a = (cyc ring (ring.length - t)).a := by assumption
      obtain ⟨EP, hlt2⟩ := ec_next hP hne h3 he
      unfold Hold
      (rename Fr _ _ _ _ => F3); (rename News _ _ _ _ => N3)
      refine ksw_end _ F3 N3 (fun _ h => h) trivial ?_ ?_ EP ?_
      · intro p hp
        rcases List.mem_cons.mp hp with rfl | hp
        · show _ = some (Value.ref (cyc (rot ring) 0).a)
          rw [cyc_rot]
          rfl
        · rcases List.mem_singleton.mp hp with rfl
          show _ = some (Value.ref (cyc (rot ring) ((rot ring).length - (t + 1))).a)
          rw [cyc_rot, rot_length, show ring.length - (t + 1) + 1 = ring.length - t by omega]
          rfl
      · intro z h5 h6
        have z1 : z ≠ Str.ofString "ear" := h5 _ List.mem_cons_self
        have z2 : z ≠ Str.ofString "stop" := h5 _ (List.mem_cons_of_mem _ List.mem_cons_self)
        have h7 := h6
        simp only [List.contains_cons, List.contains_nil, Bool.or_false, Bool.or_eq_false_iff, beq_eq_false_iff_ne, ne_eq] at h7
        obtain ⟨z3, z4, z5⟩ := h7
        simp only [if_neg z1, if_neg z2, if_neg z3, if_neg z4, if_neg z5]
        refine Eq.trans (kstB_off ?_) ?_
        · intro p hp
          rcases List.mem_cons.mp hp with rfl | hp
          · exact z1
          · rcases List.mem_singleton.mp hp with rfl
            exact z2
        simp only [h6, Bool.false_eq_true, if_false, if_neg z1, if_neg z2]
      · show (rot ring).length * 200 + ((rot ring).length - (t + 1)) < ring.length * 200 + (ring.length - t)
        rw [rot_length]
        omega
  · have he : (cyc ring (ring.length - 1)).a = (cyc ring 1).a := by first | assumption | exact Classical.not_not.mp (by assumption)
    refine hret _ _ _ _ (by k_asm) (by k_asm) ⟨rfl, _, rfl, hP, .inl ?_⟩
    refine Classical.byContradiction fun hc => ?_
    have hc2 : ¬ ring.length ≤ 2 := hc
    exact absurd he (cyc_ne hR'.nodupa (by omega) (by omega) (by omega))
end Mine
end

namespace Mine
theorem fresh_G4 : True := by w_top off; first | walk1 | trivial
end Mine

section
open PySem PySem.W PyProof.Rows PySem.Calls PySem.Spec
set_option maxRecDepth 100000
set_option maxHeartbeats 1000000
namespace Mine
local macro_rules | `(tactic| k_mem) => `(tactic| first | assumption | exact upd_self (by assumption) | (refine upd_ne ?_ (by first | assumption | (apply Ne.symm; assumption)); k_mem))
local macro_rules | `(tactic| walk_at "call ref") => `(tactic| (k_here; k_dflt (refine' call_cls ?k1 ?k2 ?k3 ?k4 ?k5 ?k6 ?_; (case k1 => k_asm); (case k2 => k_asm); (case k3 => k_asm); (case k4 => k_is); (case k5 => k_is); (case k6 => k_is); k_whole; intro x' d' h' F' N' l1 l2; (try k_lt l1); (try k_lt2 l2); (try k_sweep); (refine' code_def ?k1 ?k2 ?k3 ?k4 ?k5 ?kA ?kF ?kK ?k6 ?k7 ?k8 ?k9 ?kB ?_ ?c2 ?c3 ?c4 ?c5; (case kA => exact rfl); (case kF => exact rfl); (case kK => first | exact rfl | assumption); (case k1 => k_asm); (case k2 => k_asm); (case k3 => k_asm); (case k4 => k_asm); (case k5 => k_asm); (case k6 => k_is); (case k7 => k_is); (case k8 => ktr_room); (case k9 => exact BindsTo.of_eq rfl); (case c5 => decide); (case kB => exact locs rfl); (case c2 => exact rfl); (case c3 => exact rfl); (case c4 => exact rfl); k_whole; intro g' L' h' FG' F' N' B' X' T'; (try dsimp only); (try k_fold)))))

abbrev ptEs (P : Params) (t : Nat → Tok) (x y : Int) (tx ty : Tok) : List DictEntry :=
  [⟨PyData.keyHash P "x", .str "x" (t 0), .int x tx⟩, ⟨PyData.keyHash P "y", .str "y" (t 1), .int y ty⟩]
structure PtR where
  a : Addr
  d : Addr
  t : Nat → Tok
  x : Int
  y : Int
  tx : Tok
  ty : Tok
abbrev PtR.o (P : Params) (r : PtR) : Obj := dictOf (ptEs P r.t r.x r.y r.tx r.ty) 2
def PtAt (P : Params) (led : Led) (r : PtR) : Prop :=
  (r.a, instObj pointCls r.d) ∈ led ∧ (r.d, r.o P) ∈ led ∧ 0 ≤ r.x ∧ r.x ≤ 4

local macro_rules | `(tactic| walk_at "call ref") => `(tactic| k_extra "my call")
local macro_rules | `(tactic| walk_at "setAttr ref") => `(tactic| (k_here; k_dflt (first
  | (refine' set_dict ?k1 ?k2 ?k3 ?k4 ?k5 ?k6 ?k7 ?k8 ?k9 ?k10 ?k11 ?k12 ?k13 ?_; (case k1 => k_asm); (case k2 => k_asm); (case k3 => k_asm); (case k4 => k_inst); (case k5 => exact rfl); (case k6 => k_is); (case k7 => k_is); (case k8 => k_is); (case k9 => k_is); (case k10 => k_get); (case k11 => k_put); (case k12 => k_upd); (case k13 => exact Nat.le_of_ble_eq_true rfl); k_whole; intro h' F' N'; (try k_sweep))
  | (refine' set_dictU ?k1 ?k2 ?k3 ?k4 ?k5 ?k6 ?k7 ?k8 ?k9 ?k10 ?k11 ?k12 ?_; (case k1 => k_asm); (case k2 => k_asm); (case k3 => k_asm); (case k4 => k_mem); (case k5 => k_mem); (case k6 => k_is); (case k7 => k_is); (case k8 => k_is); (case k9 => k_is); (case k10 => k_get); (case k11 => k_put); (case k12 => exact Nat.le_of_ble_eq_true rfl); k_whole; intro h' F' N'; (try k_sweep)))))
abbrev nodeEsV (P : Params) (t : Nat → Tok) (i : Value) (pt : Addr) (x y : Int) (tx ty : Tok) (pv nx : Value) (tz : Tok) : List DictEntry :=
  [⟨PyData.keyHash P "i", .str "i" (t 0), i⟩, ⟨PyData.keyHash P "point", .str "point" (t 1), .ref pt⟩,
   ⟨PyData.keyHash P "x", .str "x" (t 2), .int x tx⟩, ⟨PyData.keyHash P "y", .str "y" (t 3), .int y ty⟩,
   ⟨PyData.keyHash P "prev", .str "prev" (t 4), pv⟩, ⟨PyData.keyHash P "next", .str "next" (t 5), nx⟩,
   ⟨PyData.keyHash P "z", .str "z" (t 6), .int 0 tz⟩, ⟨PyData.keyHash P "prev_z", .str "prev_z" (t 7), .none⟩,
   ⟨PyData.keyHash P "next_z", .str "next_z" (t 8), .none⟩, ⟨PyData.keyHash P "steiner", .str "steiner" (t 9), .bool false⟩]

theorem node_pack {P : Params} {led : Led} {h₀ h : Heap} {L x d : Addr} {i pv nx : Value} {pt : Addr} {X Y : Int} {tx ty tz t0 t1 t2 t3 t4 t5 t6 t7 t8 t9 : Tok}
    (_N : News h₀ L h ((x, instObj 59 d) :: (d, dictOf [⟨PyData.keyHash P "i", .str "i" t0, i⟩, ⟨PyData.keyHash P "point", .str "point" t1, .ref pt⟩,
   ⟨PyData.keyHash P "x", .str "x" t2, .int X tx⟩, ⟨PyData.keyHash P "y", .str "y" t3, .int Y ty⟩,
   ⟨PyData.keyHash P "prev", .str "prev" t4, pv⟩, ⟨PyData.keyHash P "next", .str "next" t5, nx⟩,
   ⟨PyData.keyHash P "z", .str "z" t6, .int 0 tz⟩, ⟨PyData.keyHash P "prev_z", .str "prev_z" t7, .none⟩,
   ⟨PyData.keyHash P "next_z", .str "next_z" t8, .none⟩, ⟨PyData.keyHash P "steiner", .str "steiner" t9, .bool false⟩] 10) :: led)) :
    ∃ t tz', ((x, instObj 59 d) :: (d, dictOf [⟨PyData.keyHash P "i", .str "i" t0, i⟩, ⟨PyData.keyHash P "point", .str "point" t1, .ref pt⟩,
   ⟨PyData.keyHash P "x", .str "x" t2, .int X tx⟩, ⟨PyData.keyHash P "y", .str "y" t3, .int Y ty⟩,
   ⟨PyData.keyHash P "prev", .str "prev" t4, pv⟩, ⟨PyData.keyHash P "next", .str "next" t5, nx⟩,
   ⟨PyData.keyHash P "z", .str "z" t6, .int 0 tz⟩, ⟨PyData.keyHash P "prev_z", .str "prev_z" t7, .none⟩,
   ⟨PyData.keyHash P "next_z", .str "next_z" t8, .none⟩, ⟨PyData.keyHash P "steiner", .str "steiner" t9, .bool false⟩] 10) :: led) = (x, instObj 59 d) :: (d, dictOf (nodeEsV P t i pt X Y tx ty pv nx tz') 10) :: led :=
  ⟨fun k => [t0, t1, t2, t3, t4, t5, t6, t7, t8, t9].getD k 0, tz, rfl⟩

theorem node_new (w : World) (led : Led) (p : PtR) (k : Int) (kt : Tok) (hp : PtAt w.params led p) :
    Spec w 5 50 (.ref 59) [.int k kt, .ref p.a] led (fun v led' => ∃ x d t tz, v = .ref x ∧ d < x ∧ (∀ q ∈ led, q.1 < d) ∧ led' = (x, instObj 59 d) :: (d, dictOf (nodeEsV w.params t (.int k kt) p.a p.x p.y p.tx p.ty .none .none tz) 10) :: led) := by
  unfold Spec
  k_fill
  intro loose mean mg mb dp un gd cn cs a ccd cl outer A₀ base h₀ L m s Q E B F X N T hk hd9 hu9 hret
  obtain ⟨hp1, hp2, hp3, hp4⟩ := hp
  k_with_none
  walk1
  k_steps
  (rename News _ _ _ _ => N9); (rename Fr _ _ _ _ => F9)
  refine hret _ _ _ _ F9 N9 ?_
  obtain ⟨t, tz', e⟩ := node_pack N9
  exact ⟨_, _, t, tz', rfl, by assumption, by assumption, e⟩

theorem ring_one {P : Params} {led : Led} {r : RN} (h : NodeAt P led r.a (r.r r.a r.a)) : RingIn P led [r] := by
  have hc : ∀ j, cyc [r] j = r := fun j => by unfold cyc; rw [List.length_singleton, Nat.mod_one]; rfl
  refine ⟨fun j => ?_, by simp, by simp⟩
  rw [hc, hc, hc]; exact h

theorem ring_one_at {P : Params} {led : Led} {r : RN} (h : RingIn P led [r]) : NodeAt P led r.a (r.r r.a r.a) := by
  have hc : ∀ j, cyc [r] j = r := fun j => by unfold cyc; rw [List.length_singleton, Nat.mod_one]; rfl
  have := h.node 0
  rwa [hc, hc, hc] at this

theorem mem_cyc {r : List RN} {x : RN} (h : x ∈ r) : ∃ j, j < r.length ∧ x = cyc r j := by
  obtain ⟨j, hj, e⟩ := List.mem_iff_getElem.mp h
  exact ⟨j, hj, by rw [cyc_lt hj, e]⟩

theorem ring_snoc {P : Params} {led led' : Led} {ring : List RN} {r : RN} (h : RingIn P led ring) (h0 : 0 < ring.length)
    (hk : ∀ p ∈ led, p.1 ≠ (cyc ring 0).d → p.1 ≠ (cyc ring (ring.length - 1)).d → p ∈ led')
    (hr : NodeAt P led' r.a (r.r (cyc ring (ring.length - 1)).a (cyc ring 0).a))
    (h1 : 2 ≤ ring.length → ((cyc ring 0).d, ((cyc ring 0).r r.a (cyc ring 1).a).o P) ∈ led' ∧ ((cyc ring (ring.length - 1)).d, ((cyc ring (ring.length - 1)).r (cyc ring (ring.length - 2)).a r.a).o P) ∈ led')
    (h2 : ring.length = 1 → ((cyc ring 0).d, ((cyc ring 0).r r.a r.a).o P) ∈ led')
    (hn : ∀ i j, (cyc ring i).a ≠ (cyc ring j).d) (fd : ∀ s ∈ led, s.1 < r.d) (hda : @LT.lt Nat _ r.d r.a) : RingIn P led' (ring ++ [r]) := by
  have hl : (ring ++ [r]).length = ring.length + 1 := by simp
  have ca : ∀ j, j < ring.length → cyc (ring ++ [r]) j = cyc ring j := fun j hj => by
    rw [cyc_lt (by rw [hl]; omega), cyc_lt hj, List.getElem_append_left hj]
  have cb : cyc (ring ++ [r]) ring.length = r := by
    rw [cyc_lt (by rw [hl]; omega)]; simp
  have c0 : cyc (ring ++ [r]) (ring.length + 1) = cyc ring 0 := by
    have := cyc_add (ring ++ [r]) 0
    rw [hl, Nat.zero_add] at this
    rw [this, ca 0 h0]
  have dlt : ∀ x ∈ ring, x.d < r.d ∧ x.a < r.d := fun x hx => by
    obtain ⟨j, hj, rfl⟩ := mem_cyc hx
    exact ⟨fd _ (h.node j).2.1, fd _ (h.node j).1⟩
  refine RingIn.mk' (by omega) (fun j hj => ?_) ?_ ?_
  · rw [hl] at hj
    have hp : cyc (ring ++ [r]) (j + (ring ++ [r]).length - 1) = if j = 0 then r else cyc ring (j - 1) := by
      by_cases hj0 : j = 0
      · subst hj0
        rw [hl, if_pos rfl, show 0 + (ring.length + 1) - 1 = ring.length by omega, cb]
      · rw [if_neg hj0, show j + (ring ++ [r]).length - 1 = (j - 1) + (ring ++ [r]).length by omega, cyc_add, ca _ (by omega)]
    rw [hp]
    by_cases hjl : j = ring.length
    · subst hjl
      rw [if_neg (by omega), cb, c0]
      exact hr
    · have hjlt : j < ring.length := by omega
      rw [ca j hjlt]
      have old := h.node j
      have hinst := hk _ old.1 (hn _ _) (hn _ _)
      by_cases hj0 : j = 0
      · subst hj0
        rw [if_pos rfl]
        by_cases h1l : ring.length = 1
        · rw [show 0 + 1 = ring.length by omega, cb]
          exact ⟨hinst, h2 h1l, old.2.2⟩
        · rw [ca (0 + 1) (by omega)]
          exact ⟨hinst, (h1 (by omega)).1, old.2.2⟩
      · rw [if_neg hj0]
        have old' := h.at (j := j) (by omega)
        by_cases hj1 : j + 1 = ring.length
        · rw [hj1, cb]
          have ej : j = ring.length - 1 := by omega
          rw [ej] at hinst old' ⊢
          rw [show ring.length - 1 - 1 = ring.length - 2 by omega]
          exact ⟨hinst, (h1 (by omega)).2, old'.2.2⟩
        · rw [ca (j + 1) (by omega)]
          exact ⟨hinst, hk _ old'.2.1 (d_ne h.nodup hjlt h0 hj0) (d_ne h.nodup hjlt (by omega) (by omega)), old'.2.2⟩
  · rw [List.map_append, List.nodup_append]
    refine ⟨h.nodup, by simp, fun a ha b hb => ?_⟩
    obtain ⟨x, hx, rfl⟩ := List.mem_map.mp ha
    simp only [List.map_cons, List.map_nil, List.mem_singleton] at hb
    subst hb
    exact Nat.ne_of_lt (dlt x hx).1
  · rw [List.map_append, List.nodup_append]
    refine ⟨h.nodupa, by simp, fun a ha b hb => ?_⟩
    obtain ⟨x, hx, rfl⟩ := List.mem_map.mp ha
    simp only [List.map_cons, List.map_nil, List.mem_singleton] at hb
    subst hb
    exact Nat.ne_of_lt (Nat.lt_trans (dlt x hx).2 hda)

theorem upd_keep2 {d1 d2 x d : Addr} {o1 o2 ox od : Obj} {led : Led} : ∀ p ∈ led, p.1 ≠ d2 → p.1 ≠ d1 → p ∈ upd d1 o1 (upd d2 o2 ((x, ox) :: (d, od) :: led)) :=
  fun p hp h2 h1 => upd_ne (upd_ne (List.mem_cons_of_mem _ (List.mem_cons_of_mem _ hp)) h2) h1

theorem insert_nil (w : World) (led : Led) (p : PtR) (k : Int) (kt : Tok) (hp : PtAt w.params led p) :
    Spec w 7 70 (.ref 112) [.int k kt, .ref p.a, .none] led (fun v led' => ∃ r : RN, v = .ref r.a ∧ r.pt = p.a ∧ r.x = p.x ∧ r.y = p.y ∧ RingIn w.params led' [r] ∧ (∀ q ∈ led, q ∈ led') ∧ (∀ q ∈ led, q.1 < r.d) ∧ @LT.lt Nat _ r.d r.a) := by
  unfold Spec
  k_fill
  intro loose mean mg mb dp un gd cn cs a ccd cl outer A₀ base h₀ L m s Q E B F X N T hk hd9 hu9 hret
  k_with_none
  k_with "my call" => k_dflt (refine' Spec.use (node_new w led p k kt hp) ?k1 ?k2 ?k3 ?k4 ?k5 ?kK ?kd ?ku ?_; (case k1 => k_asm); (case k2 => k_asm); (case k3 => k_asm); (case k4 => k_asm); (case k5 => k_asm); (case kK => exact rfl); (case kd => ktr_room); (case ku => ktr_units); intro r9 led9 h9 tk9 F9 N9 ho9; obtain ⟨x9, d9, t9, tz9, e9, l2, l1, e9'⟩ := ho9; have a1 := allLt_of l1; replace l2 := ltN l2; subst e9 e9'; (try k_sweep); (try k_fold))
  refine wpAny_call ?_
  k_dflt ktr_enter
  k_steps
  (rename News _ _ _ _ => N9); (rename Fr _ _ _ _ => F9)
  obtain ⟨hp1, hp2, hp3, hp4⟩ := hp
  refine hret _ _ _ _ F9 N9 ⟨⟨x9, d9, t9, .int k kt, p.a, p.x, p.y, p.tx, p.ty, tz9⟩, rfl, rfl, rfl, rfl, ring_one ⟨List.mem_cons_self, List.mem_cons_of_mem _ List.mem_cons_self, hp3, hp4⟩, fun q hq => List.mem_cons_of_mem _ (List.mem_cons_of_mem _ hq), l1, l2⟩

theorem insert_one (w : World) (led : Led) (p : PtR) (k : Int) (kt : Tok) (q : RN) (hp : PtAt w.params led p) (hR : RingIn w.params led [q]) :
    Spec w 7 70 (.ref 112) [.int k kt, .ref p.a, .ref q.a] led (fun v led' => ∃ r : RN, v = .ref r.a ∧ r.pt = p.a ∧ r.x = p.x ∧ r.y = p.y ∧ RingIn w.params led' [q, r] ∧ (∀ s ∈ led, s.1 ≠ q.d → s ∈ led') ∧ (∀ s ∈ led, s.1 < r.d) ∧ @LT.lt Nat _ r.d r.a) := by
  unfold Spec
  k_fill
  intro loose mean mg mb dp un gd cn cs a ccd cl outer A₀ base h₀ L m s Q E B F X N T hk hd9 hu9 hret
  have q0 := ring_one_at hR
  have i0 := q0
  obtain ⟨i01, i02, _, _⟩ := i0
  have nad := inst_ne_dict N i01 i02
  k_with_none
  k_with "my call" => k_dflt (refine' Spec.use (node_new w led p k kt hp) ?k1 ?k2 ?k3 ?k4 ?k5 ?kK ?kd ?ku ?_; (case k1 => k_asm); (case k2 => k_asm); (case k3 => k_asm); (case k4 => k_asm); (case k5 => k_asm); (case kK => exact rfl); (case kd => ktr_room); (case ku => ktr_units); intro r9 led9 h9 tk9 F9 N9 ho9; obtain ⟨x9, d9, t9, tz9, e9, l2, l1, e9'⟩ := ho9; have a1 := allLt_of l1; replace l2 := ltN l2; subst e9 e9'; have xq := Nat.ne_of_gt (Nat.lt_trans (l1 _ i02) l2); have dq := Nat.ne_of_gt (l1 _ i02); (try k_sweep); (try k_fold))
  refine wpAny_call ?_
  k_dflt ktr_enter
  k_steps
  (rename News _ _ _ _ => N9); (rename Fr _ _ _ _ => F9)
  obtain ⟨hp1, hp2, hp3, hp4⟩ := hp
  have hc : ∀ j, cyc [q] j = q := fun j => by unfold cyc; rw [List.length_singleton, Nat.mod_one]; rfl
  refine hret _ _ _ _ F9 N9 ⟨⟨x9, d9, t9, .int k kt, p.a, p.x, p.y, p.tx, p.ty, tz9⟩, rfl, rfl, rfl, rfl, ring_snoc hR (by simp) ?_ ?_ ?_ ?_ ?_ l1 l2, fun s hs hn => upd_keep2 s hs hn hn, l1, l2⟩
  · intro s hs h1 h2
    rw [hc] at h1 h2
    exact upd_keep2 s hs h1 h1
  · rw [hc, hc]
    exact ⟨upd_ne (upd_ne List.mem_cons_self xq) xq, upd_ne (upd_ne (List.mem_cons_of_mem _ List.mem_cons_self) dq) dq, hp3, hp4⟩
  · intro h; simp at h
  · intro _
    rw [hc]
    exact upd_self (upd_self (List.mem_cons_of_mem _ (List.mem_cons_of_mem _ i02)))
  · intro i j
    rw [hc, hc]
    exact nad

theorem insert_more (w : World) (led : Led) (p : PtR) (k : Int) (kt : Tok) (ring : List RN) (hp : PtAt w.params led p) (hR : RingIn w.params led ring) (hlen : 2 ≤ ring.length) :
    Spec w 7 70 (.ref 112) [.int k kt, .ref p.a, .ref (cyc ring (ring.length - 1)).a] led (fun v led' => ∃ r : RN, v = .ref r.a ∧ r.pt = p.a ∧ r.x = p.x ∧ r.y = p.y ∧ RingIn w.params led' (ring ++ [r]) ∧ (∀ s ∈ led, (∀ q ∈ ring, s.1 ≠ q.d) → s ∈ led') ∧ (∀ s ∈ led, s.1 < r.d) ∧ @LT.lt Nat _ r.d r.a) := by
  unfold Spec
  k_fill
  intro loose mean mg mb dp un gd cn cs a ccd cl outer A₀ base h₀ L m s Q E B F X N T hk hd9 hu9 hret
  have q0 := hR.node 0
  rw [Nat.zero_add, Nat.zero_add] at q0
  have i0 := q0
  obtain ⟨i01, i02, _, _⟩ := i0
  have qm := hR.at (j := ring.length - 1) (by omega)
  have e0 : cyc ring (ring.length - 1 + 1) = cyc ring 0 := by rw [show ring.length - 1 + 1 = 0 + ring.length by omega, cyc_add]
  rw [e0] at qm
  have im := qm
  obtain ⟨im1, im2, _, _⟩ := im
  have nad : ∀ i j, (cyc ring i).a ≠ (cyc ring j).d := fun i j => inst_ne_dict N (hR.node i).1 (hR.node j).2.1
  have n1 := nad 0 0
  have n2 := nad 0 (ring.length - 1)
  have n3 := nad (ring.length - 1) 0
  have n4 := nad (ring.length - 1) (ring.length - 1)
  have d0m : (cyc ring 0).d ≠ (cyc ring (ring.length - 1)).d := d_ne hR.nodup (by omega) (by omega) (by omega)
  k_with_none
  k_with "my call" => k_dflt (refine' Spec.use (node_new w led p k kt hp) ?k1 ?k2 ?k3 ?k4 ?k5 ?kK ?kd ?ku ?_; (case k1 => k_asm); (case k2 => k_asm); (case k3 => k_asm); (case k4 => k_asm); (case k5 => k_asm); (case kK => exact rfl); (case kd => ktr_room); (case ku => ktr_units); intro r9 led9 h9 tk9 F9 N9 ho9; obtain ⟨x9, d9, t9, tz9, e9, l2, l1, e9'⟩ := ho9; have a1 := allLt_of l1; replace l2 := ltN l2; subst e9 e9'; have xq := Nat.ne_of_gt (Nat.lt_trans (l1 _ i02) l2); have dq := Nat.ne_of_gt (l1 _ i02); have xm := Nat.ne_of_gt (Nat.lt_trans (l1 _ im2) l2); have dm := Nat.ne_of_gt (l1 _ im2); (try k_sweep); (try k_fold))
  refine wpAny_call ?_
  k_dflt ktr_enter
  k_steps
  (rename News _ _ _ _ => N9); (rename Fr _ _ _ _ => F9)
  obtain ⟨hp1, hp2, hp3, hp4⟩ := hp
  refine hret _ _ _ _ F9 N9 ⟨⟨x9, d9, t9, .int k kt, p.a, p.x, p.y, p.tx, p.ty, tz9⟩, rfl, rfl, rfl, rfl, ring_snoc hR (by omega) ?_ ?_ ?_ ?_ nad l1 l2, fun s hs hn => upd_keep2 s hs (hn _ (cyc_mem (by omega) 0)) (hn _ (cyc_mem (by omega) _)), l1, l2⟩
  · intro s hs h1 h2
    exact upd_keep2 s hs h1 h2
  · exact ⟨upd_ne (upd_ne List.mem_cons_self xq) xm, upd_ne (upd_ne (List.mem_cons_of_mem _ List.mem_cons_self) dq) dm, hp3, hp4⟩
  · intro _
    exact ⟨upd_ne (upd_self (List.mem_cons_of_mem _ (List.mem_cons_of_mem _ i02))) d0m, upd_self (upd_ne (List.mem_cons_of_mem _ (List.mem_cons_of_mem _ im2)) d0m.symm)⟩
  · intro h; omega
end Mine
end

namespace Mine
theorem fresh_GF : True := by w_top off; first | walk1 | trivial
end Mine

section
open PySem PySem.W PyProof.Rows PySem.Calls PySem.Spec
set_option maxRecDepth 100000
set_option maxHeartbeats 1000000
namespace Mine
def FlEnd {σ : Type} (h₀ : Heap) (L : Addr) (s : Shared) (I : Addr) (oI : Obj) (Lg : σ → Led) (J : σ → (Str → Option Value) → Prop) (s₂ : Shared) : Prop :=
  ∃ (c' : σ) (h' : Heap) (tk : Nat) (m' : Str → Option Value) (led' : Led), s₂ = { s with heap := h', toks := tk } ∧ Fr h₀ L h' m' ∧ News h₀ L h' led' ∧ (I, oI) ∈ led' ∧ (∀ p ∈ Lg c', p ∈ led') ∧ (∀ p ∈ Lg c', p.1 ≠ I) ∧ J c' m'
def FlPost {σ : Type} (h₀ : Heap) (L : Addr) (s : Shared) (I : Addr) (oI : Obj) (Lg : σ → Led) (J : σ → (Str → Option Value) → Prop) (Q : Flow → Shared → Prop) (f : Flow) (s₂ : Shared) : Prop :=
  match f with
  | .ret v => Q (.ret v) s₂
  | .brk => Q .next s₂
  | _ => FlEnd h₀ L s I oI Lg J s₂
theorem fl_end {σ : Type} {h₀ : Heap} {L : Addr} {s : Shared} {I : Addr} {oI : Obj} {Lg : σ → Led} {J : σ → (Str → Option Value) → Prop} {h' : Heap} {tk : Nat} {m' : Str → Option Value} {led' : Led} (c' : σ)
    (F : Fr h₀ L h' m') (N : News h₀ L h' led') (hI : (I, oI) ∈ led') (hl : ∀ p ∈ Lg c', p ∈ led') (off : ∀ p ∈ Lg c', p.1 ≠ I) (hJ : J c' m') :
    FlEnd h₀ L s I oI Lg J { s with heap := h', toks := tk } := ⟨c', h', tk, m', led', rfl, F, N, hI, hl, off, hJ⟩

abbrev ForBack (prog : Program) (w : World) (A : Around) (env : Env) (Q : Flow → Shared → Prop) (E : Value → Shared → Prop) : Result → Shared → Prop :=
  fun r s' => match r with | .ok f => Q f s' | .error e => cameBackBy (model prog w) A env E e s'

section
variable {prog : Program} {w : World} {A : Around} {E : Value → Shared → Prop} {Q : Flow → Shared → Prop} {s : Shared} {env : Env} {h₀ : Heap} {L : Addr} {m : Str → Option Value}
theorem for_walk {σ : Type} {target : Expr} {body : List Stmt} {I : Addr} {fp : List Addr} {n : Nat} {P : Nat → Value → Prop} {St : Nat → Heap → Prop} (W : Walks prog w A I fp [I] n P St)
    (Lg : σ → Led) (J : Nat → σ → (Str → Option Value) → Prop) (c₀ : σ) (hIL : L ≠ I) (hI0 : h₀.get? I = none) (hIo : ∀ i h, St i h → ∃ o, h.get? I = some o)
    (hSt : ∀ i h h' o c k m, St i h → h.get? I = some o → h'.get? I = some o → (∀ b ob, h₀.get? b = some ob → h'.get? b = some ob) → News h₀ L h' (Lg c) → J k c m → St i h')
    (hst : St 0 s.heap) (F : Fr h₀ L s.heap m) (N : News h₀ L s.heap (Lg c₀)) (off : ∀ p ∈ Lg c₀, p.1 ≠ I) (hj : J 0 c₀ m)
    (turn : ∀ i v c m₁ h tk oI, i < n → P i v → J i c m₁ → Fr h₀ L h m₁ → News h₀ L h ((I, oI) :: Lg c) → (∀ p ∈ Lg c, p.1 ≠ I) →
      wpAny (model prog w) A (assign target env v) (fun _ s₂ => wpAny (model prog w) A (execs body env) (FlPost h₀ L s I oI Lg (J (i + 1)) Q) E s₂) E { s with heap := h, toks := tk })
    (done : ∀ c m₁ h tk, J n c m₁ → Fr h₀ L h m₁ → News h₀ L h (Lg c) → Q .next { s with heap := h, toks := tk })
    (ht : ∀ v, letOwnedTupleGo target (.ref I) v = pure ()) (hE : PassesOwn (model prog w) A env E) :
    codeAny (model prog w) A (.forLoop target (.ref I) body [] env) (ForBack prog w A env Q E) s := by
  refine codeAny_forLoop (I := fun k s' => ∃ h' tk i c m', s' = { s with heap := h', toks := tk } ∧ i ≤ n ∧ k = n + 1 - i ∧ St i h' ∧ Fr h₀ L h' m' ∧ News h₀ L h' (Lg c) ∧ (∀ p ∈ Lg c, p.1 ≠ I) ∧ J i c m') ?_ (n + 1)
    ⟨s.heap, s.toks, 0, c₀, m, rfl, Nat.zero_le _, rfl, hst, F, N, off, hj⟩ ht
  rintro k s' ⟨h', tk, i, c, m', rfl, hi, rfl, hst', F', N', off', hJ⟩
  by_cases hlt : i < n
  · refine W.item i _ _ _ hlt hst' fun v h₂ tk₂ hPv hst₂ hk₂ => ?_
    have F₂ := LCg.fr_but F' hk₂ hIL hI0
    have N₂ := LCg.news_but N' hk₂ off'
    obtain ⟨oI, heI⟩ := hIo _ _ hst₂
    have N₃ : News h₀ L h₂ ((I, oI) :: Lg c) := fun p hp => by
      rcases List.mem_cons.mp hp with rfl | hp
      · exact ⟨heI, Ne.symm hIL, hI0⟩
      · exact N₂ p hp
    refine wpAny_passesOwn hE (wpAny_mono (turn i v c m' h₂ tk₂ oI hlt hPv hJ F₂ N₃ off') (fun _ s₃ h₃ => wpAny_passesOwn hE (wpAny_mono h₃ (fun f s₄ h₄ => ?_) fun _ _ e => e)) fun _ _ e => e)
    have fin : FlEnd h₀ L s I oI Lg (J (i + 1)) s₄ → ∃ m, m < n + 1 - i ∧ ∃ h' tk i c m', s₄ = { s with heap := h', toks := tk } ∧ i ≤ n ∧ m = n + 1 - i ∧ St i h' ∧ Fr h₀ L h' m' ∧ News h₀ L h' (Lg c) ∧ (∀ p ∈ Lg c, p.1 ≠ I) ∧ J i c m' := by
      rintro ⟨c', h₅, tk₅, m₅, led₅, rfl, F₅, N₅, hI₅, hl₅, off₅, hJ₅⟩
      have N₆ : News h₀ L h₅ (Lg c') := fun p hp => N₅ p (hl₅ p hp)
      exact ⟨n + 1 - (i + 1), by omega, h₅, tk₅, i + 1, c', m₅, rfl, hlt, rfl, hSt _ _ _ _ _ _ _ hst₂ heI (N₅ _ hI₅).1 F₅.keep N₆ hJ₅, F₅, N₆, off₅, hJ₅⟩
    cases f with
    | ret v => exact h₄
    | brk => exact h₄
    | next => exact fin h₄
    | cont => exact fin h₄
  · obtain rfl : i = n := Nat.le_antisymm hi (Nat.not_lt.mp hlt)
    refine W.done _ _ _ hst' fun h₂ tk₂ hk₂ => wpAny_execs_nil ?_
    exact done c m' h₂ tk₂ hJ (LCg.fr_but F' hk₂ hIL hI0) (LCg.news_but N' hk₂ off')

/-- a for over a list of the ledger's -/
theorem for_list {σ : Type} {target : Expr} {body : List Stmt} {ax : Addr} {items : Array Value} {n0 : Nat} (Lg : σ → Led) (J : Nat → σ → (Str → Option Value) → Prop) (c₀ : σ)
    (hh : A.handled = none) (F : Fr h₀ L s.heap m) (N : News h₀ L s.heap (Lg c₀)) (hsrc : ∀ k c m, J k c m → (ax, listOf items n0) ∈ Lg c) (hj : J 0 c₀ m)
    (turn : ∀ i v c m₁ h tk I oI, items[i]? = some v → J i c m₁ → Fr h₀ L h m₁ → News h₀ L h ((I, oI) :: Lg c) → (∀ p ∈ Lg c, p.1 ≠ I) →
      wpAny (model prog w) A (assign target env v) (fun _ s₂ => wpAny (model prog w) A (execs body env) (FlPost h₀ L s I oI Lg (J (i + 1)) Q) E s₂) E { s with heap := h, toks := tk })
    (done : ∀ c m₁ h tk, J items.size c m₁ → Fr h₀ L h m₁ → News h₀ L h (Lg c) → Q .next { s with heap := h, toks := tk })
    (ht : ∀ I v, letOwnedTupleGo target (.ref I) v = pure ()) (hE : PassesOwn (model prog w) A env E) :
    wpAny (model prog w) A (pyIter (.ref ax)) (fun it s₂ => codeAny (model prog w) A (.forLoop target it body [] env) (ForBack prog w A env Q E) s₂) E s := by
  have hax := hsrc _ _ _ hj
  have hls : s.heap.IsList ax items := ⟨_, (N _ hax).1, rfl, _, rfl⟩
  refine wpAny_pyIter_list hls ?_
  have hlt : ax < s.heap.objs.size := Heap.lt_size (N _ hax).1
  have hI0 : h₀.get? s.heap.objs.size = none := by
    cases e : h₀.get? s.heap.objs.size with
    | none => rfl
    | some o => exact absurd (Heap.lt_size (F.keep _ _ e)) (Nat.lt_irrefl _)
  have W := Walks.list (prog := prog) (w := w) hh s.heap.objs.size ax (Nat.ne_of_lt hlt) items
  have up := fun (b : Addr) (o : Obj) (e : s.heap.get? b = some o) => Heap.get?_push_of_some ({ cls := .type "list_iterator", data := .fields #[.ref ax, .int 0 0] } : Obj) e
  refine for_walk (s := { s with heap := s.heap.push { cls := .type "list_iterator", data := .fields #[.ref ax, .int 0 0] } }) W Lg J c₀ (Nat.ne_of_lt F.ns.lt) hI0 (fun i h st => ?_) (fun i h h' o c k m st e e' k0 N' hJ => ?_)
    ⟨⟨_, Heap.get?_push_size _ rfl, rfl, rfl⟩, hls.push _⟩ (F.push _) (fun p hp => ⟨up _ _ (N p hp).1, (N p hp).2⟩) (fun p hp => Nat.ne_of_lt (Heap.lt_size (N p hp).1)) hj
    (fun i v c m₁ h tk oI _ hP hJ F₁ N₁ o₁ => turn i v c m₁ h tk _ oI hP hJ F₁ N₁ o₁) (fun c m₁ h tk hJ F₁ N₁ => done c m₁ h tk hJ F₁ N₁) (ht _) hE
  · obtain ⟨o, ho, _⟩ := st.1
    exact ⟨o, ho⟩
  · refine ⟨st.1.at fun o' e'' => by rw [e] at e''; rw [← Option.some.inj e'']; exact e', ?_⟩
    exact ⟨_, (N' _ (hsrc _ _ _ hJ)).1, rfl, _, rfl⟩

/-- a for over a range made right here -/
theorem for_range {σ : Type} {target : Expr} {body : List Stmt} {r : Addr} {a b : Int} {t u v : Tok} {n : Nat} (Lg : σ → Led) (J : Nat → σ → (Str → Option Value) → Prop) (c₀ : σ)
    (hh : A.handled = none) (hr : IsRange s.heap r a b 1 t u v) (hsm : Builtin.Range.small a b 1 = true) (hn : Builtin.Range.rangeSize a b 1 = ((n : Nat) : Int)) (F : Fr h₀ L s.heap m) (N : News h₀ L s.heap (Lg c₀)) (hj : J 0 c₀ m)
    (turn : ∀ i tk' c m₁ h tk I oI, i < n → J i c m₁ → Fr h₀ L h m₁ → News h₀ L h ((I, oI) :: Lg c) → (∀ p ∈ Lg c, p.1 ≠ I) →
      wpAny (model prog w) A (assign target env (.int (a + (i : Int)) tk')) (fun _ s₂ => wpAny (model prog w) A (execs body env) (FlPost h₀ L s I oI Lg (J (i + 1)) Q) E s₂) E { s with heap := h, toks := tk })
    (done : ∀ c m₁ h tk, J n c m₁ → Fr h₀ L h m₁ → News h₀ L h (Lg c) → Q .next { s with heap := h, toks := tk })
    (ht : ∀ I v, letOwnedTupleGo target (.ref I) v = pure ()) (hE : PassesOwn (model prog w) A env E) :
    wpAny (model prog w) A (pyIter (.ref r)) (fun it s₂ => codeAny (model prog w) A (.forLoop target it body [] env) (ForBack prog w A env Q E) s₂) E s := by
  refine wpAny_pyIter_range hr hsm ?_
  have hI0 : h₀.get? s.heap.objs.size = none := by
    cases e : h₀.get? s.heap.objs.size with
    | none => rfl
    | some o => exact absurd (Heap.lt_size (F.keep _ _ e)) (Nat.lt_irrefl _)
  have W := LCg.range_walks (prog := prog) (w := w) (I := s.heap.objs.size) hh a n
  rw [hn]
  refine for_walk (s := { s with heap := _ }) W Lg J c₀ (Nat.ne_of_lt F.ns.lt) hI0 (fun i h st => ⟨_, st⟩) (fun i h h' o c k m st e e' k0 N' hJ => ?_)
    (by show IsRangeIter _ _ _ _ _; simpa using Heap.get?_push_size _ rfl) (F.push _) (fun p hp => ⟨Heap.get?_push_of_some _ (N p hp).1, (N p hp).2⟩) (fun p hp => Nat.ne_of_lt (Heap.lt_size (N p hp).1)) hj
    (fun i v c m₁ h tk oI hi hP hJ F₁ N₁ o₁ => ?_) (fun c m₁ h tk hJ F₁ N₁ => done c m₁ h tk hJ F₁ N₁) (ht _) hE
  · have st' : h.get? s.heap.objs.size = some _ := st
    rw [e] at st'
    rw [Option.some.inj st'] at e'
    exact e'
  · obtain ⟨t', rfl⟩ := hP
    exact turn i t' c m₁ h tk _ oI hi hJ F₁ N₁ o₁
end
end Mine
end

namespace Mine
theorem fresh_G5 : True := by w_top off; first | walk1 | trivial
end Mine

section
open PySem PySem.W PyProof.Rows PySem.Calls PySem.Spec
set_option maxRecDepth 100000
set_option maxHeartbeats 1000000
namespace Mine
section
variable {prog : Program} {w : World} {A : Around} {E : Value → Shared → Prop} {s : Shared} {h₀ : Heap} {L l : Addr} {led : Led} {items : Array Value} {n0 : Nat} {k : Int} {u : Tok} {v : Value} {value slice : Expr} {Q : Value → Shared → Prop}
theorem isListL (N : News h₀ L s.heap led) (hm : (l, listOf items n0) ∈ led) : s.heap.IsList l items := ⟨_, (N _ hm).1, rfl, _, rfl⟩
theorem itemL (N : News h₀ L s.heap led) (hm : (l, listOf items n0) ∈ led) (h0 : 0 ≤ k) (hfit : k < 2 ^ 63) (hx : items[k.toNat]? = some v) (h : Q v s)
    (hs : subscripted slice false (.ref l) (.int k u) = operate [.ref l, .int k u] (getItem (.ref l) (.int k u)) := by with_unfolding_all rfl) :
    wpAny (model prog w) A (subscriptTail value slice (.ref l) (.int k u)) Q E s :=
  tail_any (isListL N hm).typeIs slot_list_getitem.lookup (wpAny_getItem_list (isListL N hm) h0 hfit hx h) hs
theorem itemLneg (N : News h₀ L s.heap led) (hm : (l, listOf items n0) ∈ led) (h0 : k < 0) (h1 : -(items.size : Int) ≤ k) (hfit : -(2 ^ 63) ≤ k) (hx : items[(k + (items.size : Int)).toNat]? = some v) (h : Q v s)
    (hs : subscripted slice false (.ref l) (.int k u) = operate [.ref l, .int k u] (getItem (.ref l) (.int k u)) := by with_unfolding_all rfl) :
    wpAny (model prog w) A (subscriptTail value slice (.ref l) (.int k u)) Q E s :=
  tail_any (isListL N hm).typeIs slot_list_getitem.lookup (wpAny_getItem_list_neg (isListL N hm) h0 h1 hfit hx h) hs
theorem lenL {Q : Value → Shared → Prop} (N : News h₀ L s.heap led) (hm : (l, listOf items n0) ∈ led) (hfit : (items.size : Int) < 2 ^ 63)
    (h : ∀ t, Q (.int items.size t) { s with toks := s.toks + 1 + 1 }) : wpAny (model prog w) A (call (.builtin "len") [.ref l]) Q E s :=
  call_len_list (isListL N hm) hfit (h _)
end
local macro_rules | `(tactic| k_mem) => `(tactic| first | assumption | exact upd_self (by assumption) | (refine upd_ne ?_ (by first | assumption | (apply Ne.symm; assumption)); k_mem))
local macro_rules | `(tactic| walk_at "call builtin:len") => `(tactic| (k_here; k_dflt (refine' lenL ?N ?m ?f ?_; (case N => k_asm); (case m => k_mem); (case f => with_reducible assumption); intro _)))
local macro_rules | `(tactic| walk_at "subscriptTail Name UnaryOp ref int") => `(tactic| (k_here; k_dflt (refine' itemLneg ?N ?m ?a ?b ?c ?d ?_ ?e; (case N => k_asm); (case m => k_mem); (case a => decide); (case b => omega); (case c => decide); (case d => assumption); (case e => with_unfolding_all rfl))))
local macro_rules | `(tactic| walk_at "exec For Name Name cons nil") => `(tactic| (refine Hold.out ?_))
local macro_rules | `(tactic| walk_at "pyIter ref") => `(tactic| (refine Hold.out ?_))
local macro_rules | `(tactic| walk_at "FlPost") => `(tactic| (dsimp only [FlPost]))
local macro_rules | `(tactic| walk_at "FlEnd") => `(tactic| (refine Hold.out ?_))

def Has (ps : List (Str × Value)) (m : Str → Option Value) : Prop := ∀ p ∈ ps, m p.1 = some p.2
theorem Has.nil {m : Str → Option Value} : Has [] m := fun _ h => nomatch h
theorem Has.cons {m : Str → Option Value} {k : Str} {v : Value} {ps : List (Str × Value)} (h1 : m k = some v) (h : Has ps m) : Has ((k, v) :: ps) m := fun p hp => by
  rcases List.mem_cons.mp hp with rfl | hp
  · exact h1
  · exact h p hp
theorem fr_kstB {h₀ h : Heap} {L : Addr} {m₁ : Str → Option Value} {ps : List (Str × Value)} (hm : Has ps m₁) (F : Fr h₀ L h m₁) : Fr h₀ L h (kstB m₁ ps) := by
  have e : kstB m₁ ps = m₁ := funext fun z => kstB_eq hm fun _ => rfl
  rw [e]; exact F

def saStep (acc : Int × PtR) (p : PtR) : Int × PtR := (acc.1 + (p.x - acc.2.x) * (p.y + acc.2.y), p)
/-- signed_area of these points -/
def sarea (pts : List PtR) : Int := match pts.getLast? with
  | none => 0
  | some l => (pts.foldl saStep (0, l)).1
abbrev ptItems (pts : List PtR) : Array Value := (pts.map fun p => Value.ref p.a).toArray

theorem sa_mem (ps : List PtR) : ∀ (a : Int) (l : PtR), (ps.foldl saStep (a, l)).2 = l ∨ (ps.foldl saStep (a, l)).2 ∈ ps := by
  induction ps with
  | nil => intro a l; exact .inl rfl
  | cons p r ih =>
    intro a l
    rw [List.foldl_cons]
    rcases ih _ p with h | h
    · right; show (r.foldl saStep (_, p)).2 ∈ p :: r; rw [h]; exact List.mem_cons_self
    · right; exact List.mem_cons_of_mem _ h

theorem signed_area_spec (w : World) (led : Led) (lst : Addr) (n0 : Nat) (pts : List PtR) (hl : (lst, listOf (ptItems pts) n0) ∈ led) (hp : ∀ p ∈ pts, PtAt w.params led p) (h100 : pts.length ≤ 100) :
    Spec w 3 30 (.ref 77) [.ref lst] led (fun v led' => led' = led ∧ ∃ t, v = .int (sarea pts) t) := by
  unfold Spec
  k_fill
  intro loose mean mg mb dp un gd cn cs a ccd cl outer A₀ base h₀ L m s Q E B F X N T hk hd9 hu9 hret
  have hsz : (ptItems pts).size = pts.length := by simp
  have hfit : ((ptItems pts).size : Int) < 2 ^ 63 := by rw [hsz]; omega
  have hlast : ∀ l, pts.getLast? = some l → (ptItems pts)[((-1 : Int) + ((ptItems pts).size : Int)).toNat]? = some (.ref l.a) := fun l e => by
    rw [hsz, show ((-1 : Int) + (pts.length : Int)).toNat = pts.length - 1 by omega]
    rw [List.getLast?_eq_getElem?] at e
    simp [e]
  k_with_none
  cases hgl : pts.getLast? with
  | none =>
    have hnil : pts = [] := by simpa using hgl
    have hz : (ptItems pts).size = 0 := by rw [hsz, hnil]; rfl
    refine wpAny_call ?_
    k_dflt ktr_enter
    k_steps
    all_goals first
      | exact hret _ _ _ _ (by k_asm) (by k_asm) ⟨rfl, _, by rw [sarea, hgl]⟩
      | (exfalso; omega)
  | some l =>
    have hz : 0 < (ptItems pts).size := by
      rw [hsz]
      cases pts with
      | nil => cases hgl
      | cons => simp
    have hlast := hlast l hgl
    refine wpAny_call ?_
    k_dflt ktr_enter
    k_steps
    · refine id (α := wpAny _ _ _ _ _ _) ?_
      with_unfolding_all refine wpAny_For ?_ (by intro _; rfl)
      try k_fold
      k_steps
      refine id (α := wpAny _ _ _ _ _ _) ?_
      (rename Fr _ _ _ _ => F1); (rename News _ _ _ _ => N1)
      with_unfolding_all refine for_list (σ := Int × PtR) (fun _ => led) (fun i c m => ∃ t, Has [(Str.ofString "s", Value.int c.1 t), (Str.ofString "prev", .ref c.2.a)] m ∧ c = (pts.take i).foldl saStep (0, l)) (0, l) rfl F1 N1 (fun _ _ _ _ => hl) ?hj ?turn ?done (by intro _ _; rfl) (by passes_own)
      case hj =>
        exact ⟨_, Has.cons rfl (Has.cons rfl Has.nil), by simp⟩
      case done =>
        rintro ⟨sum, pv⟩ m₁ h tk ⟨st, hm, hf⟩ F2 N2
        have F3 := fr_kstB hm F2
        clear F1 N1
        k_steps
        rw [hsz, List.take_length] at hf
        exact hret _ _ _ _ (by k_asm) (by k_asm) ⟨rfl, st, by
          have e : sarea pts = sum := by
            unfold sarea
            rw [hgl]
            show (List.foldl saStep (0, l) pts).1 = sum
            rw [← hf]
          rw [e]⟩
      case turn =>
        rintro i v ⟨sum, pv⟩ m₁ h tk I oI hv ⟨st, hm, hf⟩ F2 N2 off2
        have hi : i < pts.length := by
          have := (Array.getElem?_eq_some_iff.mp hv).1
          rwa [hsz] at this
        have hv' : v = .ref pts[i].a := by
          have : (ptItems pts)[i]? = some (.ref pts[i].a) := by simp [hi]
          rw [hv] at this
          exact Option.some.inj this
        subst hv'
        have F3 := fr_kstB hm F2
        have hpi := hp pts[i] (List.getElem_mem hi)
        have hlm : l ∈ pts := List.mem_of_getLast? hgl
        have hpv : PtAt w.params led pv := by
          have h2 := sa_mem (pts.take i) 0 l
          rw [← hf] at h2
          rcases h2 with h2 | h2
          · have h2 : pv = l := h2
            rw [h2]; exact hp l hlm
          · exact hp _ (List.mem_of_mem_take h2)
        obtain ⟨a1, a2, a3, a4⟩ := hpi
        obtain ⟨b1, b2, b3, b4⟩ := hpv
        clear F1 N1 F2
        refine wpAny_assign_Name ?_
        try k_fold
        k_steps
        unfold Hold
        (rename Fr _ _ _ _ => F4); (rename News _ _ _ _ => N4)
        refine fl_end (saStep (sum, pv) pts[i]) F4 N4 List.mem_cons_self (fun p hp => List.mem_cons_of_mem _ hp) off2 ⟨_, Has.cons rfl (Has.cons rfl Has.nil), ?_⟩
        rw [List.take_add_one, List.getElem?_eq_getElem hi, Option.toList_some, List.foldl_append, ← hf]
        rfl
    · exfalso; omega
end Mine
end

namespace Mine
theorem fresh_G6 : True := by w_top off; first | walk1 | trivial
end Mine

section
open PySem PySem.W PyProof.Rows PySem.Calls PySem.Spec
set_option maxRecDepth 100000
set_option maxHeartbeats 1000000
namespace Mine
section
variable {prog : Program} {w : World} {A : Around} {E : Value → Shared → Prop} {Q : Flow → Shared → Prop} {s : Shared} {env : Env} {h₀ : Heap} {L : Addr} {m : Str → Option Value}
/-- a for over a reverse iterator made right here -/
theorem for_rev {σ : Type} {target : Expr} {body : List Stmt} {ax I : Addr} {items : Array Value} {n0 : Nat} {j : Int} (Lg : σ → Led) (J : Nat → σ → (Str → Option Value) → Prop) (c₀ : σ)
    (hh : A.handled = none) (F : Fr h₀ L s.heap m) (hjj : j = (items.size : Int) - 1) (N : News h₀ L s.heap ((I, revObj ax j) :: Lg c₀)) (off : ∀ p ∈ Lg c₀, p.1 ≠ I) (hsrc : ∀ k c m, J k c m → (ax, listOf items n0) ∈ Lg c) (hj : J 0 c₀ m)
    (turn : ∀ i v c m₁ h tk oI, i < items.size → items[items.size - 1 - i]? = some v → J i c m₁ → Fr h₀ L h m₁ → News h₀ L h ((I, oI) :: Lg c) → (∀ p ∈ Lg c, p.1 ≠ I) →
      wpAny (model prog w) A (assign target env v) (fun _ s₂ => wpAny (model prog w) A (execs body env) (FlPost h₀ L s I oI Lg (J (i + 1)) Q) E s₂) E { s with heap := h, toks := tk })
    (done : ∀ c m₁ h tk, J items.size c m₁ → Fr h₀ L h m₁ → News h₀ L h (Lg c) → Q .next { s with heap := h, toks := tk })
    (ht : ∀ I v, letOwnedTupleGo target (.ref I) v = pure ()) (hE : PassesOwn (model prog w) A env E) :
    wpAny (model prog w) A (pyIter (.ref I)) (fun it s₂ => codeAny (model prog w) A (.forLoop target it body [] env) (ForBack prog w A env Q E) s₂) E s := by
  subst hjj
  have hI := N _ List.mem_cons_self
  have N' : News h₀ L s.heap (Lg c₀) := fun p hp => N p (List.mem_cons_of_mem _ hp)
  have hax := hsrc _ _ _ hj
  have hls : s.heap.IsList ax items := ⟨_, (N' _ hax).1, rfl, _, rfl⟩
  have hit : s.heap.IsRevIter I ax ((items.size : Int) - 1) := ⟨_, hI.1, rfl, rfl⟩
  refine wpAny_pyIter_revIter hit ?_
  have hne : ax ≠ I := off _ hax
  have W := Walks.listRev (prog := prog) (w := w) hh I ax hne items
  refine for_walk W Lg J c₀ (Ne.symm hI.2.1) hI.2.2 (fun i h st => ?_) (fun i h h' o c k m st e e' k0 N'' hJ => ?_)
    ⟨Nat.zero_le _, by simpa using hit, hls⟩ F N' off hj (fun i v c m₁ h tk oI hi hP hJ F₁ N₁ o₁ => turn i v c m₁ h tk oI hi hP hJ F₁ N₁ o₁) (fun c m₁ h tk hJ F₁ N₁ => done c m₁ h tk hJ F₁ N₁) (ht _) hE
  · obtain ⟨o, ho, _⟩ := st.2.1
    exact ⟨o, ho⟩
  · refine ⟨st.1, st.2.1.at fun o' e'' => by rw [e] at e''; rw [← Option.some.inj e'']; exact e', ?_⟩
    exact ⟨_, (N'' _ (hsrc _ _ _ hJ)).1, rfl, _, rfl⟩
end

def NP (n : RN) (p : PtR) : Prop := n.pt = p.a ∧ n.x = p.x ∧ n.y = p.y
def lastOf (ns : List RN) : Value := match ns with
  | [] => .none
  | _ => .ref (cyc ns (ns.length - 1)).a
theorem lastOf_snoc (ns : List RN) (r : RN) : lastOf (ns ++ [r]) = .ref r.a := by
  have hl : (ns ++ [r]).length - 1 = ns.length := by simp
  have : cyc (ns ++ [r]) ns.length = r := by rw [cyc_lt (by simp)]; simp
  cases ns with
  | nil => show Value.ref _ = _; rw [hl, this]
  | cons a b => show Value.ref _ = _; rw [hl, this]

theorem insert_any (w : World) (led : Led) (p : PtR) (k : Int) (kt : Tok) (ns : List RN) (hp : PtAt w.params led p) (hR : ns ≠ [] → RingIn w.params led ns) :
    Spec w 7 70 (.ref 112) [.int k kt, .ref p.a, lastOf ns] led (fun v led' => ∃ r : RN, v = .ref r.a ∧ NP r p ∧ RingIn w.params led' (ns ++ [r]) ∧ (∀ s ∈ led, (∀ q ∈ ns, s.1 ≠ q.d) → s ∈ led') ∧ (∀ s ∈ led, s.1 < r.d) ∧ @LT.lt Nat _ r.d r.a) := by
  match ns, hR with
  | [], _ =>
    intro loose mean mg mb dp un gd cn cs a ccd cl outer A₀ base h₀ L m s Q E B F X N T hk hd9 hu9 hret
    refine insert_nil w led p k kt hp _ _ _ _ _ _ _ _ _ _ _ _ _ _ _ _ _ _ _ _ _ B F X N T hk hd9 hu9 fun r led' h' tk' F' N' ho => ?_
    obtain ⟨r, e, e1, e2, e3, hr, h1, h2, h3⟩ := ho
    exact hret _ _ _ _ F' N' ⟨r, e, ⟨e1, e2, e3⟩, hr, fun s hs _ => h1 s hs, h2, h3⟩
  | [q], hR =>
    intro loose mean mg mb dp un gd cn cs a ccd cl outer A₀ base h₀ L m s Q E B F X N T hk hd9 hu9 hret
    refine insert_one w led p k kt q hp (hR (by simp)) _ _ _ _ _ _ _ _ _ _ _ _ _ _ _ _ _ _ _ _ _ B F X N T hk hd9 hu9 fun r led' h' tk' F' N' ho => ?_
    obtain ⟨r, e, e1, e2, e3, hr, h1, h2, h3⟩ := ho
    exact hret _ _ _ _ F' N' ⟨r, e, ⟨e1, e2, e3⟩, hr, fun s hs hn => h1 s hs (hn q (by simp)), h2, h3⟩
  | a' :: b' :: ns', hR =>
    intro loose mean mg mb dp un gd cn cs a ccd cl outer A₀ base h₀ L m s Q E B F X N T hk hd9 hu9 hret
    refine insert_more w led p k kt (a' :: b' :: ns') hp (hR (by simp)) (by simp) _ _ _ _ _ _ _ _ _ _ _ _ _ _ _ _ _ _ _ _ _ B F X N T hk hd9 hu9 fun r led' h' tk' F' N' ho => ?_
    obtain ⟨r, e, e1, e2, e3, hr, h1, h2, h3⟩ := ho
    exact hret _ _ _ _ F' N' ⟨r, e, ⟨e1, e2, e3⟩, hr, h1, h2, h3⟩
end Mine
end

namespace Mine
theorem fresh_G7 : True := by w_top off; first | walk1 | trivial
end Mine

section
open PySem PySem.W PyProof.Rows PySem.Calls PySem.Spec
set_option maxRecDepth 100000
set_option maxHeartbeats 1000000
namespace Mine
local macro_rules | `(tactic| k_mem) => `(tactic| first | assumption | exact upd_self (by assumption) | (refine upd_ne ?_ (by first | assumption | (apply Ne.symm; assumption)); k_mem))
local macro_rules | `(tactic| walk_at "call builtin:len") => `(tactic| (k_here; k_dflt (refine' lenL ?N ?m ?f ?_; (case N => k_asm); (case m => k_mem); (case f => with_reducible assumption); intro _)))
local macro_rules | `(tactic| walk_at "call type:reversed") => `(tactic| k_extra "my rev")
local macro_rules | `(tactic| walk_at "exec For Name Name cons nil") => `(tactic| (refine Hold.out ?_))
local macro_rules | `(tactic| walk_at "exec For Name Call cons nil") => `(tactic| (refine Hold.out ?_))
local macro_rules | `(tactic| walk_at "pyIter ref") => `(tactic| (refine Hold.out ?_))
local macro_rules | `(tactic| walk_at "FlPost") => `(tactic| (dsimp only [FlPost]))
local macro_rules | `(tactic| walk_at "FlEnd") => `(tactic| (refine Hold.out ?_))
local macro_rules | `(tactic| walk_at "call ref") => `(tactic| first | k_extra "my call" | k_dflt (refine Hold.out ?_))

local macro_rules | `(tactic| walk_at "compareOp Eq ref") => `(tactic| (k_here; (refine cmp_ofEq ?_); k_dflt (refine' cmp_K ?k1 ?k2 ?k3 ?k4 ?k5 ?k6 ?k7 ?k8 ?_; (case k1 => ktr_units); (case k2 => k_asm); (case k3 => k_asm); (case k4 => k_inst); (case k5 => k_typeOf); (case k6 => k_is); (case k7 => k_is); (case k8 => k_is); k_whole)))

theorem eq_spec (w : World) (led : Led) (p q : Addr) (np nq : NodeR) (hp : NodeAt w.params led p np) (hq : NodeAt w.params led q nq) :
    Spec w 2 20 (.ref 56) [.ref p, .ref q] led (fun v led' => led' = led ∧ v = .bool (decide (np.x = nq.x ∧ np.y = nq.y))) := by
  unfold Spec
  k_fill
  intro loose mean mg mb dp un gd cn cs a ccd cl outer A₀ base h₀ L m s Q E B F X N T hk hd9 hu9 hret
  obtain ⟨hp1, hp2, hp3, hp4⟩ := hp
  obtain ⟨hq1, hq2, hq3, hq4⟩ := hq
  k_with_none
  refine wpAny_call ?_
  k_dflt ktr_enter
  k_steps
  all_goals refine hret _ _ _ _ (by k_asm) (by k_asm) ⟨rfl, congrArg Value.bool ?_⟩
  · have hx : np.x = nq.x := by assumption
    rw [Bool.eq_iff_iff]
    simp [hx]
  · have hx : np.x ≠ nq.x := by assumption
    rw [Bool.eq_iff_iff]
    simp [hx]

structure LLP (P : Params) (led0 : Led) (qs : List PtR) (i : Nat) (c : Led × List RN) : Prop where
  len : c.2.length = i
  ring : c.2 ≠ [] → RingIn P c.1 c.2
  np : All2 NP c.2 (qs.take i)
  keep : ∀ q ∈ led0, q ∈ c.1
  apart : ∀ q ∈ led0, ∀ r ∈ c.2, q.1 ≠ r.d

theorem RingIn.off {P : Params} {led : Led} {ring : List RN} {I : Addr} (h : RingIn P led ring) (ha : ∀ j, (cyc ring j).a ≠ I) (hd : ∀ j, (cyc ring j).d ≠ I) : RingIn P (led.filter (fun p => decide (p.1 ≠ I))) ring :=
  ⟨fun j => (h.node j).keep fun p hp hn => List.mem_filter.mpr ⟨hp, by simpa using (hn.elim (fun e => e ▸ ha j) fun e => e ▸ hd j : p.1 ≠ I)⟩, h.nodup, h.nodupa⟩

theorem ll_step {P : Params} {led0 led' : Led} {qs : List PtR} {i : Nat} {c : Led × List RN} {I : Addr} {oI : Obj} {r : RN} (h : LLP P led0 qs i c) (hi : i < qs.length) (hnp : NP r qs[i]) (hr : RingIn P led' (c.2 ++ [r]))
    (hk : ∀ s ∈ (I, oI) :: c.1, (∀ q ∈ c.2, s.1 ≠ q.d) → s ∈ led') (hf : ∀ s ∈ (I, oI) :: c.1, s.1 < r.d) (hda : @LT.lt Nat _ r.d r.a) (off : ∀ p ∈ c.1, p.1 ≠ I) :
    LLP P led0 qs (i + 1) (led'.filter (fun p => decide (p.1 ≠ I)), c.2 ++ [r]) ∧ (I, oI) ∈ led' := by
  have hold : ∀ q ∈ c.2, q.a ≠ I ∧ q.d ≠ I := fun q hq => by
    obtain ⟨j, hj, rfl⟩ := mem_cyc hq
    have hR := h.ring (fun e => by rw [e] at hq; cases hq)
    exact ⟨off _ (hR.node j).1, off _ (hR.node j).2.1⟩
  have hrI : r.d ≠ I := Nat.ne_of_gt (hf _ List.mem_cons_self)
  have hrA : r.a ≠ I := Nat.ne_of_gt (Nat.lt_trans (hf _ List.mem_cons_self) hda)
  have hall : ∀ j, (cyc (c.2 ++ [r]) j).a ≠ I ∧ (cyc (c.2 ++ [r]) j).d ≠ I := fun j => by
    have hm := cyc_mem (r := c.2 ++ [r]) (by simp) j
    rcases List.mem_append.mp hm with hm | hm
    · exact hold _ hm
    · rw [List.mem_singleton.mp hm]; exact ⟨hrA, hrI⟩
  refine ⟨⟨by simp [h.len], fun _ => hr.off (fun j => (hall j).1) fun j => (hall j).2, ?_, fun q hq => ?_, fun q hq r' hr' => ?_⟩, hk _ List.mem_cons_self fun q hq => Ne.symm (hold q hq).2⟩
  · rw [List.take_add_one, List.getElem?_eq_getElem hi, Option.toList_some]
    exact h.np.snoc hnp
  · have hq1 := h.keep q hq
    exact List.mem_filter.mpr ⟨hk _ (List.mem_cons_of_mem _ hq1) (fun x hx => h.apart q hq x hx), by simpa using off _ hq1⟩
  · rcases List.mem_append.mp hr' with hm | hm
    · exact h.apart q hq r' hm
    · rw [List.mem_singleton.mp hm]; exact Nat.ne_of_lt (hf _ (List.mem_cons_of_mem _ (h.keep q hq)))

theorem RingIn.rotN' {P : Params} {led : Led} (n : Nat) : ∀ {ring : List RN}, RingIn P led ring → RingIn P led (rotN n ring) := by
  induction n with
  | zero => intro ring h; exact h
  | succ n ih => intro ring h; exact ih h.rot
theorem ring_unsnoc {P : Params} {led : Led} {ds : List RN} {z : RN} (h : RingIn P led (ds ++ [z])) : RingIn P led (z :: ds) := by
  have e : rotN ds.length (ds ++ [z]) = z :: ds := rotN_len (z :: ds)
  rw [← e]
  exact h.rotN' _
theorem cyc_zero (z : RN) (ds : List RN) : cyc (z :: ds) 0 = z := by
  rw [cyc_lt (by simp)]; rfl
theorem cyc_one (z q : RN) (ds : List RN) : cyc (z :: q :: ds) 1 = q := by
  rw [cyc_lt (by simp)]; rfl
theorem cyc_last1 (z q : RN) (ds : List RN) : cyc (z :: q :: ds) 2 = cyc (z :: q :: ds) 2 := rfl

def LLPost (P : Params) (led0 led' : Led) (qs : List PtR) (v : Value) : Prop :=
  (qs = [] ∧ v = .none ∧ ∀ q ∈ led0, q ∈ led') ∨
  ∃ q ds z, All2 NP (q :: ds ++ [z]) qs ∧ (∀ s ∈ led0, s ∈ led') ∧ (∀ s ∈ led0, ∀ r ∈ q :: ds ++ [z], s.1 ≠ r.d) ∧
    ((z.x = q.x ∧ z.y = q.y ∧ v = .ref q.a ∧ RingIn P led' (q :: ds)) ∨ (¬ (z.x = q.x ∧ z.y = q.y) ∧ v = .ref z.a ∧ RingIn P led' (z :: q :: ds)))

theorem ll_drop2 {P : Params} {led : Led} {z q : RN} (hR : RingIn P led [z, q]) : NodeAt P led z.a (z.r q.a q.a) ∧ NodeAt P led q.a (q.r z.a z.a) := by
  have c0 : ∀ j, cyc [z, q] (j + 2) = cyc [z, q] j := fun j => cyc_add [z, q] j
  have e0 := cyc_zero z [q]
  have e1 := cyc_one z q []
  have h0 := hR.node 0
  have h1 := hR.node 1
  rw [show (0 : Nat) + [z, q].length - 1 = 1 from rfl, show (0 : Nat) + 1 = 1 from rfl, e0, e1] at h0
  rw [show (1 : Nat) + [z, q].length - 1 = 0 + 2 from rfl, show (1 : Nat) + 1 = 0 + 2 from rfl, c0, e0, e1] at h1
  exact ⟨h0, h1⟩

theorem drop_spec (w : World) (led : Led) (z q : RN) (ds : List RN) (hR : RingIn w.params led (z :: q :: ds)) :
    Spec w 2 20 (.ref 119) [.ref z.a] led (fun v led' => v = .none ∧ RingIn w.params led' (q :: ds) ∧ (z.a, instObj nodeCls z.d) ∈ led' ∧ (∃ pv, (z.d, (z.r pv q.a).o w.params) ∈ led') ∧ ∀ s ∈ led, (∀ r ∈ q :: ds, s.1 ≠ r.d) → s ∈ led') := by
  intro loose mean mg mb dp un gd cn cs a ccd cl outer A₀ base h₀ L m s Q E B F X N T hk hd9 hu9 hret
  have nad : ∀ i j, (cyc (z :: q :: ds) i).a ≠ (cyc (z :: q :: ds) j).d := fun i j => inst_ne_dict N (hR.node i).1 (hR.node j).2.1
  have hz : z.d ∉ (q :: ds).map (·.d) := (List.nodup_cons.mp hR.nodup).1
  have q0 := hR.node 0
  rw [cyc_zero, Nat.zero_add, Nat.zero_add, cyc_one] at q0
  have zr : ∀ r ∈ q :: ds, z.d ≠ r.d ∧ z.a ≠ r.d := fun r hr => by
    refine ⟨fun e => hz (List.mem_map.mpr ⟨r, hr, e.symm⟩), ?_⟩
    obtain ⟨j, hj, rfl⟩ := mem_cyc (List.mem_cons_of_mem z hr)
    have := nad 0 j
    rwa [cyc_zero] at this
  cases ds with
  | nil =>
    obtain ⟨p0, p1⟩ := ll_drop2 hR
    have dd : (z.r q.a q.a).d ≠ (q.r z.a z.a).d := (zr q (by simp)).1
    refine remove_spec2 w led z.a q.a _ _ p0 p1 rfl rfl dd _ _ _ _ _ _ _ _ _ _ _ _ _ _ _ _ _ _ _ _ _ B F X N T hk hd9 hu9 fun r led' h' tk' F' N' ho => ?_
    obtain ⟨e1, e2⟩ := ho
    have kp : ∀ s ∈ led, s.1 ≠ q.d → s ∈ led' := fun s hs hn => by rw [e2]; exact upd_ne (upd_ne hs hn) hn
    refine hret _ _ _ _ F' N' ⟨e1, ring_one ⟨kp _ p1.1 ?_, ?_, p1.2.2⟩, kp _ p0.1 (zr q (by simp)).2, ⟨_, kp _ p0.2.1 (zr q (by simp)).1⟩, fun s hs hn => kp s hs (hn q (by simp))⟩
    · have := nad 1 1
      rwa [cyc_one] at this
    · rw [e2]; exact upd_self (upd_self p1.2.1)
  | cons b ds =>
    have hl3 : 3 ≤ (z :: q :: b :: ds).length := by simp
    have pm := hR.at (j := (z :: q :: b :: ds).length - 1) (by omega)
    have e0 : cyc (z :: q :: b :: ds) ((z :: q :: b :: ds).length - 1 + 1) = z := by
      rw [show (z :: q :: b :: ds).length - 1 + 1 = 0 + (z :: q :: b :: ds).length by omega, cyc_add, cyc_zero]
    rw [e0] at pm
    have p1 := hR.at (j := 1) (by omega)
    rw [show (1 : Nat) - 1 = 0 from rfl, cyc_zero, cyc_one, show (1 : Nat) + 1 = 2 from rfl] at p1
    have d1m : (cyc (z :: q :: b :: ds) ((z :: q :: b :: ds).length - 1)).d ≠ q.d := by
      have := d_ne hR.nodup (i := (z :: q :: b :: ds).length - 1) (j := 1) (by omega) (by omega) (by omega)
      rwa [cyc_one] at this
    have hmm : cyc (z :: q :: b :: ds) ((z :: q :: b :: ds).length - 1) ∈ q :: b :: ds := by
      rw [show (z :: q :: b :: ds).length - 1 = ds.length + 2 by simp, cyc_lt (by simp)]
      exact List.getElem_mem (l := q :: b :: ds) (n := ds.length + 1) (by simp)
    refine remove_spec3 w led z.a _ _ _ q0 pm p1 d1m (zr _ hmm).1 (zr q (by simp)).1 _ _ _ _ _ _ _ _ _ _ _ _ _ _ _ _ _ _ _ _ _ B F X N T hk hd9 hu9 fun r led' h' tk' F' N' ho => ?_
    obtain ⟨e1, e2⟩ := ho
    have kp := upd2_keep e2
    refine hret _ _ _ _ F' N' ⟨e1, ?_, kp _ q0.1 (zr q (by simp)).2 (zr _ hmm).2, ⟨_, kp _ q0.2.1 (zr q (by simp)).1 (zr _ hmm).1⟩, fun s hs hn => kp s hs (hn q (by simp)) (hn _ hmm)⟩
    refine ring_cut (ring := z :: q :: b :: ds) hR hl3 (fun p hp h1 h2 => kp p hp (by rwa [cyc_one] at h1) h2) ?_ ?_ nad
    · rw [cyc_one, e2]; exact upd_ne (upd_self p1.2.1) d1m.symm
    · rw [cyc_one, e2]; exact upd_self (upd_ne pm.2.1 d1m)

theorem rev_off {h₀ h : Heap} {L D : Addr} {o : Obj} {led : Led} (_N : News h₀ L h ((D, o) :: led)) (l : ∀ p ∈ led, p.1 < D) : ∀ p ∈ led, p.1 ≠ D := fun p hp => Nat.ne_of_lt (l p hp)

theorem linked_list_spec (w : World) (led : Led) (lst : Addr) (n0 : Nat) (kt : Tok) (pts : List PtR) (hl : (lst, listOf (ptItems pts) n0) ∈ led) (hp : ∀ p ∈ pts, PtAt w.params led p) (h100 : pts.length ≤ 100) (h1 : pts.length ≠ 1) :
    Spec w 10 100 (.ref 70) [.ref lst, .int 0 kt, .bool true] led (fun v led' => LLPost w.params led led' (if sarea pts < 0 then pts else pts.reverse) v) := by
  unfold Spec
  k_fill
  intro loose mean mg mb dp un gd cn cs a ccd cl outer A₀ base h₀ L m s Q E B F X N T hk hd9 hu9 hret
  have hsz : (ptItems pts).size = pts.length := by simp
  have hfit : ((ptItems pts).size : Int) < 2 ^ 63 := by rw [hsz]; omega
  k_with_none
  k_with "my call" => k_dflt (refine' Spec.use (signed_area_spec w led lst n0 pts hl hp h100) ?k1 ?k2 ?k3 ?k4 ?k5 ?kK ?kd ?ku ?_; (case k1 => k_asm); (case k2 => k_asm); (case k3 => k_asm); (case k4 => k_asm); (case k5 => k_asm); (case kK => exact rfl); (case kd => ktr_room); (case ku => ktr_units); intro r9 led9 h9 tk9 F9 N9 ho9; obtain ⟨e9, t9, e9'⟩ := ho9; have e9 := e9.symm; subst e9 e9'; (try k_sweep); (try k_fold))
  refine wpAny_call ?_
  k_dflt ktr_enter
  k_steps
  · refine id (α := wpAny _ _ _ _ _ _) ?_
    have hneg : sarea pts < 0 := by
      have h9 : (true == decide (sarea pts < 0)) = true := by assumption
      simpa using h9
    rw [if_pos hneg] at hret
    with_unfolding_all refine wpAny_For ?_ (by intro _; rfl)
    try k_fold
    k_steps
    refine id (α := wpAny _ _ _ _ _ _) ?_
    (rename Fr _ _ _ _ => F1); (rename News _ _ _ _ => N1)
    with_unfolding_all refine for_list (σ := Led × List RN) (fun c => c.1) (fun i c m => (∃ z t, Has [(Str.ofString "start", Value.int z t), (Str.ofString "last", lastOf c.2)] m) ∧ LLP w.params led pts i c) (led, []) rfl F1 N1 (fun _ c _ hJ => hJ.2.keep _ hl) ?hj ?turn ?done (by intro _ _; rfl) (by passes_own)
    case hj =>
      exact ⟨⟨_, _, Has.cons rfl (Has.cons rfl Has.nil)⟩, rfl, fun h => absurd rfl h, .nil, fun _ h => h, fun _ _ _ h => nomatch h⟩
    case done =>
      rintro ⟨ledc, ns⟩ m₁ h tk ⟨⟨z, zt, hm⟩, hP⟩ F2 N2
      have hlen := hP.len
      have hnp := hP.np
      have hring := hP.ring
      have hkeep := hP.keep
      have hap := hP.apart
      dsimp only at hlen hnp hring hkeep hap hm F2 N2
      rw [hsz] at hlen hnp
      rw [List.take_of_length_le (by simp)] at hnp
      clear F1 N1
      rcases List.eq_nil_or_concat ns with rfl | ⟨ds, zz, rfl⟩
      · have hm' : Has [(Str.ofString "start", Value.int z zt), (Str.ofString "last", Value.none)] m₁ := hm
        have F3 := fr_kstB hm' F2
        clear F2
        k_steps
        have hnil : pts = [] := by
          cases pts with
          | nil => rfl
          | cons => simp at hlen
        exact hret _ _ _ _ (by k_asm) (by k_asm) (.inl ⟨by simp [hnil], rfl, hkeep⟩)
      · rw [List.concat_eq_append] at *
        rw [lastOf_snoc] at hm
        have F3 := fr_kstB hm F2
        clear F2
        cases ds with
        | nil => exact absurd hlen.symm (by simpa using h1)
        | cons q ds =>
          have hR := ring_unsnoc (hring (by simp))
          have q0 := hR.node 0
          have q1 := hR.node 1
          rw [cyc_zero, Nat.zero_add, Nat.zero_add, cyc_one] at q0
          rw [cyc_one] at q1
          have i0 := q0
          have i1 := q1
          obtain ⟨i01, i02, _, _⟩ := i0
          obtain ⟨i11, i12, _, _⟩ := i1
          k_with_none
          k_with "my call" => k_dflt (refine' Spec.use (eq_spec w ledc _ _ _ _ ?a1 ?a2) ?k1 ?k2 ?k3 ?k4 ?k5 ?kK ?kd ?ku ?_; (case a1 => assumption); (case a2 => assumption); (case k1 => k_asm); (case k2 => k_asm); (case k3 => k_asm); (case k4 => k_asm); (case k5 => k_asm); (case kK => exact rfl); (case kd => ktr_room); (case ku => ktr_units); intro r9 led9 h9 tk9 F9 N9 ho9; obtain ⟨e9, e9'⟩ := ho9; have e9 := e9.symm; subst e9 e9'; (try k_sweep); (try dsimp only [PySem.W.CmpBack]); (try k_fold))
          k_steps
          · refine id (α := wpAny _ _ _ _ _ _) ?_
            have heq : zz.x = q.x ∧ zz.y = q.y := by assumption
            refine' Spec.use (drop_spec w ledc zz q ds hR) ?k1 ?k2 ?k3 ?k4 ?k5 ?kK ?kd ?ku ?_
            case k1 => k_asm
            case k2 => k_asm
            case k3 => k_asm
            case k4 => k_asm
            case k5 => k_asm
            case kK => exact rfl
            case kd => ktr_room
            case ku => ktr_units
            intro r9 led9 h9 tk9 F9 N9 ho9
            obtain ⟨e9, hrr, z1, ⟨pv, z2⟩, kp9⟩ := ho9
            subst e9
            try k_sweep
            try k_fold
            k_steps
            exact hret _ _ _ _ (by k_asm) (by k_asm) (.inr ⟨q, ds, zz, hnp, fun s hs => kp9 s (hkeep s hs) (fun r hr => hap s hs r (List.mem_append_left _ hr)), hap, .inl ⟨heq.1, heq.2, rfl, hrr⟩⟩)
          · have hneq : ¬ (zz.x = q.x ∧ zz.y = q.y) := by assumption
            exact hret _ _ _ _ (by k_asm) (by k_asm) (.inr ⟨q, ds, zz, hnp, hkeep, hap, .inr ⟨hneq, rfl, hR⟩⟩)
    case turn =>
      rintro i v ⟨ledc, ns⟩ m₁ h tk I oI hv ⟨⟨z, zt, hm⟩, hP⟩ F2 N2 off2
      have hi : i < pts.length := by
        have := (Array.getElem?_eq_some_iff.mp hv).1
        rwa [hsz] at this
      have hv' : v = .ref pts[i].a := by
        have : (ptItems pts)[i]? = some (.ref pts[i].a) := by simp [hi]
        rw [hv] at this
        exact Option.some.inj this
      subst hv'
      have hpi0 := hp pts[i] (List.getElem_mem hi)
      have F3 := fr_kstB hm F2
      have hpi : PtAt w.params ((I, oI) :: ledc) pts[i] :=
        ⟨List.mem_cons_of_mem _ (hP.keep _ hpi0.1), List.mem_cons_of_mem _ (hP.keep _ hpi0.2.1), hpi0.2.2⟩
      have hRi : ns ≠ [] → RingIn w.params ((I, oI) :: ledc) ns := fun hne => by
        have := hP.ring hne
        exact ⟨fun j => (this.node j).keep fun p hp _ => List.mem_cons_of_mem _ hp, this.nodup, this.nodupa⟩
      clear F1 N1 F2
      k_with_none
      k_with "my call" => k_dflt (refine' Spec.use (insert_any w ((I, oI) :: ledc) pts[i] _ _ ns hpi hRi) ?k1 ?k2 ?k3 ?k4 ?k5 ?kK ?kd ?ku ?_; (case k1 => k_asm); (case k2 => k_asm); (case k3 => k_asm); (case k4 => k_asm); (case k5 => k_asm); (case kK => exact rfl); (case kd => ktr_room); (case ku => ktr_units); intro r9 led9 h9 tk9 F9 N9 ho9; obtain ⟨rn, e9, hnp, hrr, hkk, hff, hda⟩ := ho9; subst e9; (try k_sweep); (try k_fold))
      refine wpAny_assign_Name ?_
      try k_fold
      k_steps
      unfold Hold
      (rename Fr _ _ _ _ => F4); (rename News _ _ _ _ => N4)
      obtain ⟨LP, hI⟩ := ll_step hP hi hnp hrr hkk hff hda off2
      exact fl_end _ F4 N4 hI (fun p hp => (List.mem_filter.mp hp).1) (fun p hp => by simpa using (List.mem_filter.mp hp).2) ⟨⟨_, _, Has.cons rfl (Has.cons (congrArg some (lastOf_snoc ns rn).symm) Has.nil)⟩, LP⟩
  · refine id (α := wpAny _ _ _ _ _ _) ?_
    have hneg : ¬ sarea pts < 0 := by
      have h9 : (true == decide (sarea pts < 0)) = false := by assumption
      simpa using h9
    rw [if_neg hneg] at hret
    with_unfolding_all refine wpAny_For ?_ (by intro _; rfl)
    try k_fold
    k_with "my rev" => k_dflt (refine' krv_reversed ?F ?N ?l ?_; (case F => k_asm); (case N => k_asm); (case l => exact isListL (by k_asm) hl); intro DR hR9 FR9 NR9 lR; (try k_sweep))
    k_steps
    refine id (α := wpAny _ _ _ _ _ _) ?_
    (rename Fr _ _ _ _ => F1); (rename News _ _ _ _ => N1)
    have off1 := rev_off N1 lR
    with_unfolding_all refine for_rev (σ := Led × List RN) (fun c => c.1) (fun i c m => (∃ z t, Has [(Str.ofString "end", Value.int z t), (Str.ofString "last", lastOf c.2)] m) ∧ LLP w.params led pts.reverse i c) (led, []) rfl F1 rfl N1 off1 (fun _ c _ hJ => hJ.2.keep _ hl) ?hj ?turn ?done (by intro _ _; rfl) (by passes_own)
    case hj =>
      exact ⟨⟨_, _, Has.cons rfl (Has.cons rfl Has.nil)⟩, rfl, fun h => absurd rfl h, .nil, fun _ h => h, fun _ _ _ h => nomatch h⟩
    case done =>
      rintro ⟨ledc, ns⟩ m₁ h tk ⟨⟨z, zt, hm⟩, hP⟩ F2 N2
      have hlen := hP.len
      have hnp := hP.np
      have hring := hP.ring
      have hkeep := hP.keep
      have hap := hP.apart
      dsimp only at hlen hnp hring hkeep hap hm F2 N2
      rw [hsz] at hlen hnp
      rw [List.take_of_length_le (by simp)] at hnp
      clear F1 N1
      rcases List.eq_nil_or_concat ns with rfl | ⟨ds, zz, rfl⟩
      · have hm' : Has [(Str.ofString "end", Value.int z zt), (Str.ofString "last", Value.none)] m₁ := hm
        have F3 := fr_kstB hm' F2
        clear F2
        k_steps
        have hnil : pts = [] := by
          cases pts with
          | nil => rfl
          | cons => simp at hlen
        exact hret _ _ _ _ (by k_asm) (by k_asm) (.inl ⟨by simp [hnil], rfl, hkeep⟩)
      · rw [List.concat_eq_append] at *
        rw [lastOf_snoc] at hm
        have F3 := fr_kstB hm F2
        clear F2
        cases ds with
        | nil => exact absurd hlen.symm (by simpa using h1)
        | cons q ds =>
          have hR := ring_unsnoc (hring (by simp))
          have q0 := hR.node 0
          have q1 := hR.node 1
          rw [cyc_zero, Nat.zero_add, Nat.zero_add, cyc_one] at q0
          rw [cyc_one] at q1
          have i0 := q0
          have i1 := q1
          obtain ⟨i01, i02, _, _⟩ := i0
          obtain ⟨i11, i12, _, _⟩ := i1
          k_with_none
          k_with "my call" => k_dflt (refine' Spec.use (eq_spec w ledc _ _ _ _ ?a1 ?a2) ?k1 ?k2 ?k3 ?k4 ?k5 ?kK ?kd ?ku ?_; (case a1 => assumption); (case a2 => assumption); (case k1 => k_asm); (case k2 => k_asm); (case k3 => k_asm); (case k4 => k_asm); (case k5 => k_asm); (case kK => exact rfl); (case kd => ktr_room); (case ku => ktr_units); intro r9 led9 h9 tk9 F9 N9 ho9; obtain ⟨e9, e9'⟩ := ho9; have e9 := e9.symm; subst e9 e9'; (try k_sweep); (try dsimp only [PySem.W.CmpBack]); (try k_fold))
          k_steps
          · refine id (α := wpAny _ _ _ _ _ _) ?_
            have heq : zz.x = q.x ∧ zz.y = q.y := by assumption
            refine' Spec.use (drop_spec w ledc zz q ds hR) ?k1 ?k2 ?k3 ?k4 ?k5 ?kK ?kd ?ku ?_
            case k1 => k_asm
            case k2 => k_asm
            case k3 => k_asm
            case k4 => k_asm
            case k5 => k_asm
            case kK => exact rfl
            case kd => ktr_room
            case ku => ktr_units
            intro r9 led9 h9 tk9 F9 N9 ho9
            obtain ⟨e9, hrr, z1, ⟨pv, z2⟩, kp9⟩ := ho9
            subst e9
            try k_sweep
            try k_fold
            k_steps
            exact hret _ _ _ _ (by k_asm) (by k_asm) (.inr ⟨q, ds, zz, hnp, fun s hs => kp9 s (hkeep s hs) (fun r hr => hap s hs r (List.mem_append_left _ hr)), hap, .inl ⟨heq.1, heq.2, rfl, hrr⟩⟩)
          · have hneq : ¬ (zz.x = q.x ∧ zz.y = q.y) := by assumption
            exact hret _ _ _ _ (by k_asm) (by k_asm) (.inr ⟨q, ds, zz, hnp, hkeep, hap, .inr ⟨hneq, rfl, hR⟩⟩)
    case turn =>
      rintro i v ⟨ledc, ns⟩ m₁ h tk oI hi hv ⟨⟨z, zt, hm⟩, hP⟩ F2 N2 off2
      rw [hsz] at hi hv
      have hi : i < pts.reverse.length := by rw [List.length_reverse]; exact hi
      have hv' : v = .ref pts.reverse[i].a := by
        have hi' : pts.length - 1 - i < pts.length := by rw [List.length_reverse] at hi; omega
        have : (ptItems pts)[pts.length - 1 - i]? = some (.ref pts.reverse[i].a) := by simp [List.getElem_reverse, hi']
        rw [hv] at this
        exact Option.some.inj this
      subst hv'
      have hpi0 := hp pts.reverse[i] (List.mem_reverse.mp (List.getElem_mem hi))
      have F3 := fr_kstB hm F2
      have hpi : PtAt w.params ((DR, oI) :: ledc) pts.reverse[i] :=
        ⟨List.mem_cons_of_mem _ (hP.keep _ hpi0.1), List.mem_cons_of_mem _ (hP.keep _ hpi0.2.1), hpi0.2.2⟩
      have hRi : ns ≠ [] → RingIn w.params ((DR, oI) :: ledc) ns := fun hne => by
        have := hP.ring hne
        exact ⟨fun j => (this.node j).keep fun p hp _ => List.mem_cons_of_mem _ hp, this.nodup, this.nodupa⟩
      clear F1 N1 F2
      k_with_none
      k_with "my call" => k_dflt (refine' Spec.use (insert_any w ((DR, oI) :: ledc) pts.reverse[i] _ _ ns hpi hRi) ?k1 ?k2 ?k3 ?k4 ?k5 ?kK ?kd ?ku ?_; (case k1 => k_asm); (case k2 => k_asm); (case k3 => k_asm); (case k4 => k_asm); (case k5 => k_asm); (case kK => exact rfl); (case kd => ktr_room); (case ku => ktr_units); intro r9 led9 h9 tk9 F9 N9 ho9; obtain ⟨rn, e9, hnp, hrr, hkk, hff, hda⟩ := ho9; subst e9; (try k_sweep); (try k_fold))
      refine wpAny_assign_Name ?_
      try k_fold
      k_steps
      unfold Hold
      (rename Fr _ _ _ _ => F4); (rename News _ _ _ _ => N4)
      obtain ⟨LP, hI⟩ := ll_step hP hi hnp hrr hkk hff hda off2
      exact fl_end _ F4 N4 hI (fun p hp => (List.mem_filter.mp hp).1) (fun p hp => by simpa using (List.mem_filter.mp hp).2) ⟨⟨_, _, Has.cons rfl (Has.cons (congrArg some (lastOf_snoc ns rn).symm) Has.nil)⟩, LP⟩
end Mine
end

namespace Mine
theorem fresh_G8 : True := by w_top off; first | walk1 | trivial
end Mine

section
open PySem PySem.W PyProof.Rows PySem.Calls PySem.Spec
set_option maxRecDepth 100000
set_option maxHeartbeats 1000000
namespace Mine
local macro_rules | `(tactic| k_mem) => `(tactic| first | assumption | exact upd_self (by assumption) | (refine upd_ne ?_ (by first | assumption | (apply Ne.symm; assumption)); k_mem))
local macro_rules | `(tactic| walk_at "call builtin:len") => `(tactic| (k_here; k_dflt (refine' lenL ?N ?m ?f ?_; (case N => k_asm); (case m => k_mem); (case f => with_reducible assumption); intro _)))
local macro_rules | `(tactic| walk_at "exec For Name Name cons nil") => `(tactic| (refine Hold.out ?_))
local macro_rules | `(tactic| walk_at "exec For Name Call cons nil") => `(tactic| (refine Hold.out ?_))
local macro_rules | `(tactic| walk_at "pyIter ref") => `(tactic| (refine Hold.out ?_))
local macro_rules | `(tactic| walk_at "FlPost") => `(tactic| (dsimp only [FlPost]))
local macro_rules | `(tactic| walk_at "FlEnd") => `(tactic| (refine Hold.out ?_))
local macro_rules | `(tactic| walk_at "call ref") => `(tactic| first | k_extra "my call" | k_dflt (refine Hold.out ?_))

abbrev tupO (x y : Int) (tx ty : Tok) (n : Nat) : Obj := { cls := .type "tuple", data := .seq #[.int x tx, .int y ty] n }
def TupAt (led : Led) (a : Addr) (x y : Int) : Prop := (∃ tx ty n, (a, tupO x y tx ty n) ∈ led) ∧ 0 ≤ x ∧ x ≤ 4

theorem law_turn_spec (w : World) (led : Led) (p q r : Addr) (px py qx qy rx ry : Int) (hp : TupAt led p px py) (hq : TupAt led q qx qy) (hr : TupAt led r rx ry) :
    Spec w 2 20 (.ref 169) [.ref p, .ref q, .ref r] led (fun v led' => led' = led ∧ ∃ t, v = .int ((qx - px) * (ry - qy) - (qy - py) * (rx - qx)) t) := by
  unfold Spec
  k_fill
  intro loose mean mg mb dp un gd cn cs a ccd cl outer A₀ base h₀ L m s Q E B F X N T hk hd9 hu9 hret
  obtain ⟨⟨tp1, tp2, np, hp1⟩, hp2, hp3⟩ := hp
  obtain ⟨⟨tq1, tq2, nq, hq1⟩, hq2, hq3⟩ := hq
  obtain ⟨⟨tr1, tr2, nr, hr1⟩, hr2, hr3⟩ := hr
  k_with_none
  refine wpAny_call ?_
  k_dflt ktr_enter
  k_steps
  all_goals exact hret _ _ _ _ (by k_asm) (by k_asm) ⟨rfl, _, rfl⟩

section
variable {prog : Program} {w : World} {A : Around} {E : Value → Shared → Prop} {s : Shared} {h₀ : Heap} {L l : Addr} {led : Led} {items : Array Value} {n0 : Nat} {k : Int} {u : Tok} {v : Value} {value slice : Expr} {Q : Value → Shared → Prop}
theorem itemC (N : News h₀ L s.heap led) (hm : (l, listOf items n0) ∈ led) (h0 : -(items.size : Int) ≤ k) (h1 : k < items.size) (hfit : (items.size : Int) < 2 ^ 63) (hx : items[(k % (items.size : Int)).toNat]? = some v) (h : Q v s)
    (hs : subscripted slice false (.ref l) (.int k u) = operate [.ref l, .int k u] (getItem (.ref l) (.int k u)) := by with_unfolding_all rfl) :
    wpAny (model prog w) A (subscriptTail value slice (.ref l) (.int k u)) Q E s := by
  by_cases hk : 0 ≤ k
  · exact itemL N hm hk (by omega) (by rwa [Int.emod_eq_of_lt hk h1] at hx) h hs
  · refine itemLneg N hm (by omega) h0 (by omega) ?_ h hs
    rwa [show k % (items.size : Int) = k + items.size by rw [← Int.add_emod_right, Int.emod_eq_of_lt (by omega) (by omega)]] at hx
end

theorem ix1 {a n : Int} (h : 0 < n) : -n ≤ Int.fmod a n := by have := fmod_lo a h; omega
theorem ix2 {a n : Int} (h : 0 < n) : -n ≤ Int.fmod a n - 1 := by have := fmod_lo a h; omega
theorem ix3 {a n : Int} (h : 0 < n) : Int.fmod a n - 1 < n := by have := fmod_hi a h; omega

theorem news_tail {h₀ h : Heap} {L : Addr} {p : Addr × Obj} {led : Led} (N : News h₀ L h (p :: led)) : News h₀ L h led := fun q hq => N q (List.mem_cons_of_mem _ hq)

/-- the corners of a ring, as a list of pairs -/
structure CornersAt (led : Led) (items : Array Value) (ring : List RN) : Prop where
  size : items.size = ring.length
  at' : ∀ j, j < ring.length → ∃ a, items[j]? = some (.ref a) ∧ TupAt led a (cyc ring j).x (cyc ring j).y

def lturn (a b c : RN) : Int := (b.x - a.x) * (c.y - b.y) - (b.y - a.y) * (c.x - b.x)
/-- the place k + t forbids the ear at k -/
def LBad (ring : List RN) (k t : Nat) : Prop :=
  0 ≤ min (min (lturn (cyc ring (k + ring.length - 1)) (cyc ring k) (cyc ring (k + t))) (lturn (cyc ring k) (cyc ring (k + 1)) (cyc ring (k + t)))) (lturn (cyc ring (k + 1)) (cyc ring (k + ring.length - 1)) (cyc ring (k + t))) ∧
    lturn (cyc ring (k + t + ring.length - 1)) (cyc ring (k + t)) (cyc ring (k + t + 1)) ≤ 0
/-- what the law asks of the place k -/
def LEar (ring : List RN) (k : Nat) : Prop :=
  0 < lturn (cyc ring (k + ring.length - 1)) (cyc ring k) (cyc ring (k + 1)) ∧ ∀ t, 2 ≤ t → t < ring.length - 1 → ¬ LBad ring k t

theorem cycI {ring : List RN} {n j : Int} {d : Nat} (hn : n = (ring.length : Int)) (h0 : 0 < n) (h : j % n = (d : Int) % n) : cyc ring (j % n).toNat = cyc ring d := by
  subst hn
  rw [h, ← cyc_mod ring d]
  congr 1
theorem fmod_mod (a : Int) {n : Int} (h : 0 < n) : Int.fmod a n % n = a % n := by
  rw [Int.fmod_eq_emod_of_nonneg a (by omega), Int.emod_emod]

local macro_rules | `(tactic| walk_at "call builtin:min") => `(tactic| (k_here; (with_reducible show wpAny _ _ (call (Value.builtin _) [Value.int _ _, Value.int _ _, Value.int _ _]) _ _ _); k_dflt (refine' min_three_N ?k0 ?k1 ?k2 ?_; (case k0 => with_unfolding_all rfl); (case k1 => k_asm); (case k2 => k_asm)); intro h' tk' x' F' N'; (try k_sweep)))
local macro_rules | `(tactic| walk_at "subscriptTail Name Name ref int") => `(tactic| k_extra "my item")
local macro_rules | `(tactic| walk_at "subscriptTail Name BinOp ref int") => `(tactic| k_extra "my item")

theorem law_ear_spec (w : World) (led : Led) (lst : Addr) (n0 : Nat) (items : Array Value) (ring : List RN) (k : Nat) (kt : Tok) (hl : (lst, listOf items n0) ∈ led) (hC : CornersAt led items ring) (h3 : 3 ≤ ring.length) (h100 : ring.length ≤ 100) (hk : k < ring.length) :
    Spec w 4 40 (.ref 176) [.ref lst, .int k kt] led (fun v led' => led' = led ∧ ∃ b, v = .bool b ∧ (b = true ↔ LEar ring k)) := by
  unfold Spec
  k_fill
  intro loose mean mg mb dp un gd cn cs a ccd cl outer A₀ base h₀ L m s Q E B F X N T hk' hd9 hu9 hret
  have hsz := hC.size
  have hpos : 0 < (items.size : Int) := by omega
  have hfit : (items.size : Int) < 2 ^ 63 := by omega
  have hkl : (k : Int) < items.size := by omega
  have hk0 : (0 : Int) ≤ k := by omega
  have hca : ∃ ca : Nat → Addr, ∀ j, j < ring.length → items[j]? = some (.ref (ca j)) ∧ TupAt led (ca j) (cyc ring j).x (cyc ring j).y := by
    have := Classical.axiomOfChoice (fun j => show ∃ a, j < ring.length → items[j]? = some (.ref a) ∧ TupAt led a (cyc ring j).x (cyc ring j).y from
      if hj : j < ring.length then (hC.at' j hj).imp fun a ha _ => ha else ⟨0, fun h => absurd h hj⟩)
    exact this
  obtain ⟨ca, hca⟩ := hca
  have hit : ∀ j : Int, items[(j % (items.size : Int)).toNat]? = some (.ref (ca (j % (items.size : Int)).toNat)) := fun j => by
    have h1 := Int.emod_nonneg j (Int.ne_of_gt hpos)
    have h2 := Int.emod_lt_of_pos j hpos
    exact (hca _ (by omega)).1
  have htu : ∀ j : Int, TupAt led (ca (j % (items.size : Int)).toNat) (cyc ring (j % (items.size : Int)).toNat).x (cyc ring (j % (items.size : Int)).toNat).y := fun j => by
    have h1 := Int.emod_nonneg j (Int.ne_of_gt hpos)
    have h2 := Int.emod_lt_of_pos j hpos
    exact (hca _ (by omega)).2
  k_with_none
  k_with "my item" => k_dflt (refine' itemC ?ziN ?zim ?zia ?zib ?zic ?zid ?_ ?zie; (case ziN => k_asm); (case zim => exact hl); (case zia => first | exact ix1 hpos | exact ix2 hpos | l_fact); (case zib => first | exact fmod_hi _ hpos | exact ix3 hpos | l_fact); (case zic => exact hfit); (case zid => exact hit _); (case zie => with_unfolding_all rfl))
  k_with "my call" => k_dflt (refine' Spec.use (law_turn_spec w led _ _ _ _ _ _ _ _ _ ?a1 ?a2 ?a3) ?k1 ?k2 ?k3 ?k4 ?k5 ?kK ?kd ?ku ?_; (case a1 => exact htu _); (case a2 => exact htu _); (case a3 => exact htu _); (case k1 => k_asm); (case k2 => k_asm); (case k3 => k_asm); (case k4 => first | k_asm | exact news_tail (by k_asm)); (case k5 => k_asm); (case kK => exact rfl); (case kd => ktr_room); (case ku => ktr_units); intro r9 led9 h9 tk9 F9 N9 ho9; obtain ⟨e9, t9, e9'⟩ := ho9; have e9 := e9.symm; subst e9 e9'; (try k_sweep); (try k_fold))
  refine wpAny_call ?_
  k_dflt ktr_enter
  k_steps
  · refine hret _ _ _ _ (by k_asm) (by k_asm) ⟨rfl, false, rfl, ?_⟩
    simp only [Bool.false_eq_true, false_iff]
    have ea : cyc ring (((k : Int) - 1) % (items.size : Int)).toNat = cyc ring (k + ring.length - 1) := cycI (by omega) hpos (by rw [← Int.add_emod_right]; congr 1; omega)
    have eb : cyc ring ((k : Int) % (items.size : Int)).toNat = cyc ring k := cycI (by omega) hpos rfl
    have ec : cyc ring (Int.fmod ((k : Int) + 1) (items.size : Int) % (items.size : Int)).toNat = cyc ring (k + 1) := cycI (by omega) hpos (by rw [fmod_mod _ hpos]; congr 1)
    rintro ⟨h1, _⟩
    unfold lturn at h1
    rw [← ea, ← eb, ← ec] at h1
    exact absurd (by assumption) (Int.not_le.mpr h1)
  · refine id (α := wpAny _ _ _ _ _ _) ?_
    have hpos2 : 0 < lturn (cyc ring (k + ring.length - 1)) (cyc ring k) (cyc ring (k + 1)) := by
      have ea : cyc ring (((k : Int) - 1) % (items.size : Int)).toNat = cyc ring (k + ring.length - 1) := cycI (by omega) hpos (by rw [← Int.add_emod_right]; congr 1; omega)
      have eb : cyc ring ((k : Int) % (items.size : Int)).toNat = cyc ring k := cycI (by omega) hpos rfl
      have ec : cyc ring (Int.fmod ((k : Int) + 1) (items.size : Int) % (items.size : Int)).toNat = cyc ring (k + 1) := cycI (by omega) hpos (by rw [fmod_mod _ hpos]; congr 1)
      unfold lturn
      rw [← ea, ← eb, ← ec]
      exact Int.not_le.mp (by assumption)
    with_unfolding_all refine wpAny_For ?_ (by intro _; rfl)
    try k_fold
    k_steps
    refine id (α := wpAny _ _ _ _ _ _) ?_
    (rename Fr _ _ _ _ => F1); (rename News _ _ _ _ => N1); (rename IsRange _ _ _ _ _ _ _ _ => R1)
    with_unfolding_all refine for_range (σ := Unit) (n := ((items.size : Int) - 1 - 2).toNat) (fun _ => led) (fun i _ m => (∃ t1 t2, Has [(Str.ofString "corners", Value.ref lst), (Str.ofString "k", Value.int k t1), (Str.ofString "many", Value.int items.size t2), (Str.ofString "a", .ref (ca (((k : Int) - 1) % (items.size : Int)).toNat)), (Str.ofString "b", .ref (ca ((k : Int) % (items.size : Int)).toNat)), (Str.ofString "c", .ref (ca (Int.fmod ((k : Int) + 1) (items.size : Int) % (items.size : Int)).toNat))] m) ∧ ∀ t, 2 ≤ t → t < 2 + i → ¬ LBad ring k t) () rfl R1 (small_one (by omega) (by omega) (by omega) (by omega)) (rangeSize_nat _ _) F1 N1 ?hj ?turn ?done (by intro _ _; rfl) (by passes_own)
    case hj =>
      exact ⟨⟨_, _, Has.cons rfl (Has.cons rfl (Has.cons rfl (Has.cons rfl (Has.cons rfl (Has.cons rfl Has.nil)))))⟩, fun t h1 h2 => absurd h1 (by omega)⟩
    case done =>
      rintro _ m₁ h tk ⟨_, hno⟩ F2 N2
      clear F1 N1
      k_steps
      refine hret _ _ _ _ (by k_asm) (by k_asm) ⟨rfl, true, rfl, ?_⟩
      simp only [true_iff]
      exact ⟨hpos2, fun t h1 h2 => hno t h1 (by omega)⟩
    case turn =>
      rintro i tk' c m₁ h tk I oI hi ⟨⟨t1, t2, hm⟩, hno⟩ F2 N2 off2
      have F3 := fr_kstB hm F2
      dsimp only [kstB, List.foldr] at F3
      have htu2 : ∀ j : Int, TupAt ((I, oI) :: led) (ca (j % (items.size : Int)).toNat) (cyc ring (j % (items.size : Int)).toNat).x (cyc ring (j % (items.size : Int)).toNat).y := fun j => by
        obtain ⟨⟨x, y, n, hm⟩, hb⟩ := htu j
        exact ⟨⟨x, y, n, List.mem_cons_of_mem _ hm⟩, hb⟩
      clear F1 N1 F2
      k_with_none
      k_with "my item" => k_dflt (refine' itemC ?ziN ?zim ?zia ?zib ?zic ?zid ?_ ?zie; (case ziN => k_asm); (case zim => exact List.mem_cons_of_mem _ hl); (case zia => first | exact ix1 hpos | exact ix2 hpos | l_fact); (case zib => first | exact fmod_hi _ hpos | exact ix3 hpos | l_fact); (case zic => exact hfit); (case zid => exact hit _); (case zie => with_unfolding_all rfl))
      k_with "my call" => k_dflt (refine' Spec.use (law_turn_spec w ((I, oI) :: led) _ _ _ _ _ _ _ _ _ ?a1 ?a2 ?a3) ?k1 ?k2 ?k3 ?k4 ?k5 ?kK ?kd ?ku ?_; (case a1 => exact htu2 _); (case a2 => exact htu2 _); (case a3 => exact htu2 _); (case k1 => k_asm); (case k2 => k_asm); (case k3 => k_asm); (case k4 => k_asm); (case k5 => k_asm); (case kK => exact rfl); (case kd => ktr_room); (case ku => ktr_units); intro r9 led9 h9 tk9 F9 N9 ho9; obtain ⟨e9, t9, e9'⟩ := ho9; subst e9 e9'; (try k_sweep); (try k_fold))
      refine wpAny_assign_Name ?_
      try k_fold
      k_steps
      all_goals (
        have ea : cyc ring (((k : Int) - 1) % (items.size : Int)).toNat = cyc ring (k + ring.length - 1) := cycI (by omega) hpos (by rw [← Int.add_emod_right]; congr 1; omega)
        have eb : cyc ring ((k : Int) % (items.size : Int)).toNat = cyc ring k := cycI (by omega) hpos rfl
        have ec : cyc ring (Int.fmod ((k : Int) + 1) (items.size : Int) % (items.size : Int)).toNat = cyc ring (k + 1) := cycI (by omega) hpos (by rw [fmod_mod _ hpos]; congr 1)
        have ez : cyc ring (Int.fmod ((k : Int) + (2 + (i : Int))) (items.size : Int) % (items.size : Int)).toNat = cyc ring (k + (2 + i)) := cycI (by omega) hpos (by rw [fmod_mod _ hpos]; congr 1)
        have ezp : cyc ring ((Int.fmod ((k : Int) + (2 + (i : Int))) (items.size : Int) - 1) % (items.size : Int)).toNat = cyc ring (k + (2 + i) + ring.length - 1) := cycI (by omega) hpos (by
          rw [Int.sub_emod, fmod_mod _ hpos, ← Int.sub_emod, ← Int.add_emod_right]; congr 1; omega)
        have ezn : cyc ring (Int.fmod (Int.fmod ((k : Int) + (2 + (i : Int))) (items.size : Int) + 1) (items.size : Int) % (items.size : Int)).toNat = cyc ring (k + (2 + i) + 1) := cycI (by omega) hpos (by
          rw [fmod_mod _ hpos, Int.add_emod, fmod_mod _ hpos, ← Int.add_emod]; congr 1)
        first
          | (refine hret _ _ _ _ (by k_asm) (news_tail (by k_asm)) ⟨rfl, false, rfl, ?_⟩
             simp only [Bool.false_eq_true, false_iff]
             rintro ⟨_, h2⟩
             refine h2 (2 + i) (by omega) (by omega) ?_
             unfold LBad lturn
             rw [← ea, ← eb, ← ec, ← ez, ← ezp, ← ezn]
             exact ⟨by assumption, by assumption⟩)
          | (unfold Hold
             (rename Fr _ _ _ _ => F4); (rename News _ _ _ _ => N4)
             refine fl_end () F4 N4 List.mem_cons_self (fun p hp => List.mem_cons_of_mem _ hp) off2 ⟨⟨_, _, Has.cons rfl (Has.cons rfl (Has.cons rfl (Has.cons rfl (Has.cons rfl (Has.cons rfl Has.nil)))))⟩, fun t h1 h2 => ?_⟩
             by_cases ht : t = 2 + i
             · subst ht
               unfold LBad lturn
               rw [← ea, ← eb, ← ec, ← ez, ← ezp, ← ezn]
               rintro ⟨g1, g2⟩
               first | exact absurd g1 (by assumption) | exact absurd g2 (by assumption)
             · exact hno t h1 (by omega)))
end Mine
end

namespace Mine
theorem fresh_GC : True := by w_top off; first | walk1 | trivial
end Mine

section
open PySem PySem.W PyProof.Rows PySem.Calls PySem.Spec
set_option maxRecDepth 100000
set_option maxHeartbeats 1000000
namespace Mine
open LCg
def Cel (led : Led) (c : Addr) (v : Option Value) : Prop := ∃ o, (c, o) ∈ led ∧ o.data = .cell v
structure Kp (c : Addr) (led led' : Led) : Prop where
  obj : ∀ p ∈ led, (∀ v, p.2.data ≠ .cell v) → p ∈ led'
  cel : ∀ c' v, c' ≠ c → Cel led c' v → Cel led' c' v
theorem Kp.sub {c : Addr} {led led' : Led} (k : ∀ p ∈ led, p ∈ led') : Kp c led led' := ⟨fun p hp _ => k p hp, fun _ _ _ ⟨o, hm, hd⟩ => ⟨o, k _ hm, hd⟩⟩
theorem Kp.of_upd {h₀ h : Heap} {L : Addr} {c : Addr} {o : Obj} {v : Option Value} {led led1 : Led} (N : News h₀ L h led1) (hm : (c, o) ∈ led1) (hd : o.data = .cell v) (k : ∀ p ∈ led, p ∈ led1) (o' : Obj) : Kp c led (upd c o' led1) :=
  ⟨fun p hp hn => upd_ne (k p hp) (fun e => hn v (by
    have : (c, p.2) ∈ led1 := by rw [← e]; exact k p hp
    rw [news_eq N this hm]; exact hd)), fun c' v' hne ⟨o2, hm2, hd2⟩ => ⟨o2, upd_ne (k _ hm2) hne, hd2⟩⟩
theorem Kp.trans {c : Addr} {l1 l2 l3 : Led} (h : Kp c l1 l2) (h' : Kp c l2 l3) : Kp c l1 l3 :=
  ⟨fun p hp hn => h'.obj p (h.obj p hp hn) hn, fun c' v hc hp => h'.cel c' v hc (h.cel c' v hc hp)⟩

section
variable {prog : Program} {w : World} {A : Around} {E : Value → Shared → Prop} {s : Shared} {h₀ : Heap} {L : Addr} {m : Str → Option Value} {env : Env}

theorem store_cellU {M : Model} {name : Str} {c : Addr} {o : Obj} {v₀ : Option Value} {v : Value} {led : Led} {Q : Unit → Shared → Prop} (F : Fr h₀ L s.heap m) (N : News h₀ L s.heap led)
    (hc : env.cells.lookup name = some c) (hm : (c, o) ∈ led) (hd : o.data = .cell v₀) (hk : env.scope.kind = .function) (hl : env.kindOf name = some .cell)
    (h : ∀ h' o', Fr h₀ L h' m → News h₀ L h' (upd c o' led) → o'.data = .cell (some v) → Kp c led (upd c o' led) → Q () { s with heap := h' }) :
    wpAny M A (storeName env name v) Q E s := by
  have hmem := N _ hm
  refine wpAny_storeName_cell hk hl hc ⟨o, hmem.1, hd⟩ fun h' hv hs => ?_
  obtain ⟨o', ho', hd'⟩ := hv
  refine h h' o' ⟨F.ns.sameBut hs (Ne.symm hmem.2.1), fun b ob e => hs.extBut b ob (fun q => ?_) (F.keep b ob e), F.above⟩ (fun p hp => ?_) hd' (Kp.of_upd N hm hd (fun p hp => hp) o')
  · rw [q, hmem.2.2] at e; cases e
  · rcases upd_mem hp with rfl | ⟨hp, hn⟩
    · exact ⟨ho', hmem.2⟩
    · exact ⟨hs.extBut _ _ hn (N p hp).1, (N p hp).2⟩

theorem Off1.mem {D : Addr} : ∀ {l : Led}, Off1 D l → ∀ p ∈ l, p.1 ≠ D
  | [], _, _, h => nomatch h
  | _ :: _, x, p, h => by
    rcases List.mem_cons.mp h with rfl | h
    · exact x.1
    · exact Off1.mem x.2 p h

/-- the end of a comprehension's turn -/
def CT {σ : Type} (h₀ : Heap) (L : Addr) (m : Str → Option Value) (s : Shared) (I : Addr) (oI : Obj) (C : Addr) (oC : Obj) (D : Addr) (oD : Obj) (S : Led → Prop) (Lg : σ → Led) (J : Value → σ → Prop) (y : Value) (s₂ : Shared) : Prop :=
  ∃ c' h' tk all, s₂ = { s with heap := h', toks := tk } ∧ Fr h₀ L h' m ∧ News h₀ L h' all ∧ (∀ p ∈ (I, oI) :: (C, oC) :: (D, oD) :: Lg c', p ∈ all) ∧ (∀ p ∈ Lg c', p.1 ≠ I ∧ p.1 ≠ C ∧ p.1 ≠ D) ∧ S (Lg c') ∧ J y c'
theorem ct_end {σ : Type} {s : Shared} {I : Addr} {oI : Obj} {C : Addr} {oC : Obj} {D : Addr} {oD : Obj} {S : Led → Prop} {Lg : σ → Led} {J : Value → σ → Prop} {y : Value} {h' : Heap} {tk : Nat} {all : Led} (c' : σ)
    (F : Fr h₀ L h' m) (N : News h₀ L h' all) (sub : ∀ p ∈ (I, oI) :: (C, oC) :: (D, oD) :: Lg c', p ∈ all) (off : ∀ p ∈ Lg c', p.1 ≠ I ∧ p.1 ≠ C ∧ p.1 ≠ D) (hS : S (Lg c')) (hJ : J y c') :
    CT h₀ L m s I oI C oC D oD S Lg J y { s with heap := h', toks := tk } := ⟨c', h', tk, all, rfl, F, N, sub, off, hS, hJ⟩

/-- a turn that made one object -/
theorem ct_new {s : Shared} {I : Addr} {oI : Obj} {C : Addr} {oC : Obj} {D : Addr} {oD : Obj} {S : Led → Prop} {J : Value → Led → Prop} {y : Value} {h' : Heap} {tk : Nat} {a : Addr} {o : Obj} {c : Led}
    (F : Fr h₀ L h' m) (N : News h₀ L h' ((a, o) :: (I, oI) :: (C, oC) :: (D, oD) :: c)) (lt : ∀ p ∈ (I, oI) :: (C, oC) :: (D, oD) :: c, p.1 < a) (off : ∀ p ∈ c, p.1 ≠ I ∧ p.1 ≠ C ∧ p.1 ≠ D) (hS : S ((a, o) :: c)) (hJ : J y ((a, o) :: c)) :
    CT h₀ L m s I oI C oC D oD S (fun c => c) J y { s with heap := h', toks := tk } := by
  refine ct_end ((a, o) :: c) F N (fun p hp => ?_) (fun p hp => ?_) hS hJ
  · rcases List.mem_cons.mp hp with rfl | hp
    · exact .tail _ (.head _)
    · rcases List.mem_cons.mp hp with rfl | hp
      · exact .tail _ (.tail _ (.head _))
      · rcases List.mem_cons.mp hp with rfl | hp
        · exact .tail _ (.tail _ (.tail _ (.head _)))
        · rcases List.mem_cons.mp hp with rfl | hp
          · exact .head _
          · exact .tail _ (.tail _ (.tail _ (.tail _ hp)))
  · rcases List.mem_cons.mp hp with rfl | hp
    · exact ⟨Nat.ne_of_gt (lt _ (.head _)), Nat.ne_of_gt (lt _ (.tail _ (.head _))), Nat.ne_of_gt (lt _ (.tail _ (.tail _ (.head _))))⟩
    · exact off p hp
theorem SrcAt.tail' {ax : Addr} {its : Array Value} {c : Led} {p : Addr × Obj} (h : SrcAt h₀ ax its c) : SrcAt h₀ ax its (p :: c) := by
  rcases h with h | ⟨o, hm, r⟩
  · exact .inl h
  · exact .inr ⟨o, .tail _ hm, r⟩

theorem rest_ind {σ : Type} {elt : Expr} {x : Str} {scope : Scope} {cl : List (Str × Addr)} {S : Led → Prop} {P : Nat → Value → Prop} {Fin : List Value → Led → Prop} (n : Nat) (Lg : σ → Led) (J : Nat → σ → List Value → Prop)
    (turn : ∀ i c ys v I oI C oC D m₂ h tk (E' : Value → Shared → Prop), i < n → P i v → J i c ys → NsObj oC m₂ → m₂ x = some v → Fr h₀ L h m → News h₀ L h ((I, oI) :: (C, oC) :: (D, lst ys) :: Lg c) → (∀ p ∈ Lg c, p.1 ≠ I ∧ p.1 ≠ C ∧ p.1 ≠ D) → ((@Ne Nat I C) ∧ (@Ne Nat I D) ∧ (@Ne Nat C D)) →
      wpAny (model prog w) A (eval elt (compEnvC scope cl C env)) (CT h₀ L m { s with heap := h, toks := tk } I oI C oC D (lst ys) S Lg (fun y c' => J (i + 1) c' (ys ++ [y]))) E' { s with heap := h, toks := tk })
    (fin : ∀ c ys, J n c ys → Fin ys (Lg c)) : ∀ (k i : Nat) (c : σ) (ys : List Value), i + k = n → J i c ys → CompRest prog w A h₀ L m env elt x scope cl s S P Fin k i ys (Lg c) := by
  intro k
  induction k with
  | zero => intro i c ys hi hJ; exact CompRest.zero (fin c ys (by rw [show n = i by omega]; exact hJ))
  | succ k ih =>
    intro i c ys hi hJ
    refine CompRest.succ fun v I oI C oC D m₂ h tk E' hP hC hx F N off ne => ?_
    refine wpAny_mono (turn i c ys v I oI C oC D m₂ h tk E' (by omega) hP hJ hC hx F N off.mem ne) (fun y s₂ h₂ => ?_) fun _ _ e => e
    obtain ⟨c', h', tk', all, rfl, F', N', sub, off', hS, hJ'⟩ := h₂
    exact CompEnd.intro F' N' (Lg c') sub (Off3.of off') hS (ih (i + 1) c' _ (by omega) hJ')

theorem rest_indT {σ : Type} {ct elt : Expr} {x : Str} {scope : Scope} {cl : List (Str × Addr)} {S : Led → Prop} {P : Nat → Value → Prop} {Fin : List Value → Led → Prop} (n : Nat) (Lg : σ → Led) (J : Nat → σ → List Value → Prop)
    (turn : ∀ i c ys v I oI C oC D m₂ h tk (E' : Value → Shared → Prop), i < n → P i v → J i c ys → NsObj oC m₂ → m₂ x = some v → Fr h₀ L h m → News h₀ L h ((I, oI) :: (C, oC) :: (D, lst ys) :: Lg c) → (∀ p ∈ Lg c, p.1 ≠ I ∧ p.1 ≠ C ∧ p.1 ≠ D) → ((@Ne Nat I C) ∧ (@Ne Nat I D) ∧ (@Ne Nat C D)) →
      wpAny (model prog w) A (isTrue ct (compEnvC scope cl C env) (eval ct (compEnvC scope cl C env))) (fun ok s' => if ok = true then
        wpAny (model prog w) A (eval elt (compEnvC scope cl C env)) (CT h₀ L m { s with heap := h, toks := tk } I oI C oC D (lst ys) S Lg (fun y c' => J (i + 1) c' (ys ++ [y]))) E' s'
        else CT h₀ L m { s with heap := h, toks := tk } I oI C oC D (lst ys) S Lg (fun _ c' => J (i + 1) c' ys) Value.none s') E' { s with heap := h, toks := tk })
    (fin : ∀ c ys, J n c ys → Fin ys (Lg c)) : ∀ (k i : Nat) (c : σ) (ys : List Value), i + k = n → J i c ys → LCt.CompRestT prog w A h₀ L m env ct elt x scope cl s S P Fin k i ys (Lg c) := by
  intro k
  induction k with
  | zero => intro i c ys hi hJ; exact LCt.CompRestT.zero (fin c ys (by rw [show n = i by omega]; exact hJ))
  | succ k ih =>
    intro i c ys hi hJ
    refine LCt.CompRestT.succ fun v I oI C oC D m₂ h tk E' hP hC hx F N off ne => ?_
    refine wpAny_mono (turn i c ys v I oI C oC D m₂ h tk E' (by omega) hP hJ hC hx F N off.mem ne) (fun ok s₂ h₂ => ?_) fun _ _ e => e
    cases ok with
    | true =>
      simp only [if_true] at h₂ ⊢
      refine wpAny_mono h₂ (fun y s₃ h₃ => ?_) fun _ _ e => e
      obtain ⟨c', h', tk', all, rfl, F', N', sub, off', hS, hJ'⟩ := h₃
      exact CompEnd.intro F' N' (Lg c') sub (Off3.of off') hS (ih (i + 1) c' _ (by omega) hJ')
    | false =>
      simp only [Bool.false_eq_true, if_false] at h₂ ⊢
      obtain ⟨c', h', tk', all, rfl, F', N', sub, off', hS, hJ'⟩ := h₂
      exact CompEnd.intro F' N' (Lg c') sub (Off3.of off') hS (ih (i + 1) c' _ (by omega) hJ')
end

theorem pick_upto (vs : List Value) {y : Int} (h : 0 ≤ y) : (slicePick vs.toArray none (some y) none).toList = vs.take y.toNat := by
  have e : sliceBounds none (some y) none vs.toArray.size = (((0 : Nat) : Int), ((min y.toNat vs.toArray.size : Nat) : Int), 1) := by
    simp only [sliceBounds, Option.getD_none, show (1 : Int) > 0 by decide, if_true, if_neg (show ¬ (y < 0) by omega)]
    congr 1
    congr 1
    omega
  rw [kmk_pick_nat _ e]
  show (vs.drop 0).take (min y.toNat vs.toArray.size - 0) = _
  rw [List.drop_zero, Nat.sub_zero, List.size_toArray, kmk_take_min]
theorem pick_from (vs : List Value) {x : Int} (h : 0 ≤ x) : (slicePick vs.toArray (some x) none none).toList = vs.drop x.toNat := by
  have e : sliceBounds (some x) none none vs.toArray.size = (((min x.toNat vs.toArray.size : Nat) : Int), ((vs.toArray.size : Nat) : Int), 1) := by
    simp only [sliceBounds, Option.getD_none, show (1 : Int) > 0 by decide, if_true, if_neg (show ¬ (x < 0) by omega)]
    congr 1
    omega
  rw [kmk_pick_nat _ e]
  show (vs.drop (min x.toNat vs.toArray.size)).take (vs.toArray.size - min x.toNat vs.toArray.size) = _
  rw [List.size_toArray, kmk_drop_min, List.take_of_length_le (by rw [List.length_drop]; omega)]
theorem pick_neg (vs : List Value) {y : Int} (h : y < 0) : (slicePick vs.toArray none (some y) none).toList = vs.take (vs.length - (-y).toNat) := by
  have e : sliceBounds none (some y) none vs.toArray.size = (((0 : Nat) : Int), ((vs.toArray.size - (-y).toNat : Nat) : Int), 1) := by
    simp only [sliceBounds, Option.getD_none, show (1 : Int) > 0 by decide, if_true, if_pos h]
    congr 1
    congr 1
    omega
  rw [kmk_pick_nat _ e]
  show (vs.drop 0).take (vs.toArray.size - (-y).toNat - 0) = _
  rw [List.drop_zero, Nat.sub_zero, List.size_toArray]
theorem szL {vs : List Value} (h : vs.length ≤ 200) : vs.toArray.size ≤ sizeLine := by
  rw [List.size_toArray]; exact Nat.le_trans h (Nat.le_of_ble_eq_true rfl)

theorem fitL {vs : List Value} (h : vs.length ≤ 200) : (vs.toArray.size : Int) < 2 ^ 63 := by rw [List.size_toArray]; omega
theorem szLL {vs ws : List Value} (h : vs.length + ws.length ≤ 200) : vs.toArray.toList.length + ws.toArray.toList.length ≤ sizeLine :=
  Nat.le_trans h (Nat.le_of_ble_eq_true rfl)
theorem catL (vs ws : List Value) : vs.toArray.toList ++ ws.toArray.toList = vs ++ ws := rfl
theorem All2.append {α β : Type} {R : α → β → Prop} {as as' : List α} {bs bs' : List β} (h : All2 R as bs) (h' : All2 R as' bs') : All2 R (as ++ as') (bs ++ bs') := by
  induction h with
  | nil => exact h'
  | cons h _ ih => exact .cons h ih
theorem All2.take {α β : Type} {R : α → β → Prop} {as : List α} {bs : List β} (h : All2 R as bs) : ∀ n, All2 R (as.take n) (bs.take n) := by
  induction h with
  | nil => intro n; rw [List.take_nil, List.take_nil]; exact .nil
  | cons h _ ih => intro n; cases n with
    | zero => exact .nil
    | succ n => exact .cons h (ih n)
theorem All2.drop {α β : Type} {R : α → β → Prop} {as : List α} {bs : List β} (h : All2 R as bs) : ∀ n, All2 R (as.drop n) (bs.drop n) := by
  induction h with
  | nil => intro n; rw [List.drop_nil, List.drop_nil]; exact .nil
  | cons h h' ih => intro n; cases n with
    | zero => exact .cons h h'
    | succ n => exact ih n

/-- a pair of whole numbers -/
def PlV (led : Led) (v : Value) (p : Int × Int) : Prop := ∃ a, v = .ref a ∧ TupAt led a p.1 p.2
theorem TupAt.mono {led led' : Led} {a : Addr} {x y : Int} (h : TupAt led a x y) (k : ∀ q ∈ led, q ∈ led') : TupAt led' a x y := by
  obtain ⟨⟨tx, ty, n, hm⟩, hb⟩ := h
  exact ⟨⟨tx, ty, n, k _ hm⟩, hb⟩
theorem TupAt.kp {c : Addr} {led led' : Led} {a : Addr} {x y : Int} (h : TupAt led a x y) (k : Kp c led led') : TupAt led' a x y := by
  obtain ⟨⟨tx, ty, n, hm⟩, hb⟩ := h
  exact ⟨⟨tx, ty, n, k.obj _ hm (fun v h => by cases h)⟩, hb⟩
theorem PlV.mono {led led' : Led} {v : Value} {p : Int × Int} (h : PlV led v p) (k : ∀ q ∈ led, q ∈ led') : PlV led' v p := by
  obtain ⟨a, e, ht⟩ := h
  exact ⟨a, e, ht.mono k⟩
theorem PlV.kp {c : Addr} {led led' : Led} {v : Value} {p : Int × Int} (h : PlV led v p) (k : Kp c led led') : PlV led' v p := by
  obtain ⟨a, e, ht⟩ := h
  exact ⟨a, e, ht.kp k⟩
theorem ints_get : ∀ {vs : List Value} {ns : List Int}, IntsAre vs ns → ∀ {i : Nat} {v : Value}, vs[i]? = some v → ∃ n t, ns[i]? = some n ∧ v = .int n t
  | _, _, .nil, _, _, e => by cases e
  | _, _, .cons n t _, 0, _, e => ⟨n, t, rfl, (Option.some.inj e).symm⟩
  | _, _, .cons _ _ h, i + 1, v, e => ints_get h (i := i) (v := v) e
theorem take_snoc {α : Type} {l : List α} {i : Nat} {a : α} (h : l[i]? = some a) : l.take (i + 1) = l.take i ++ [a] := by
  rw [List.take_add_one, h]; rfl

def lawScope : Scope := match PySem.Challenge.rw_fy0008_01.prog.main.body.getLast? with
  | some (.FunctionDef _ _ _ _ _ _ scope _ _ _) => scope
  | _ => default
def lawBody : List Stmt := match PySem.Challenge.rw_fy0008_01.prog.main.body.getLast? with
  | some (.FunctionDef _ _ body _ _ _ _ _ _ _) => body
  | _ => []
def lawStmt (k : Nat) : Stmt := lawBody.getD k default

abbrev LawEnv (cn : Str) (L a : Addr) (ccd : Value) : Env := envOfC cn lawScope L a ccd
/-- one statement of the law -/
def Seg (w : World) (S : Stmt) (pre : Heap → Addr → (Str → Option Value) → Led → Prop) (post : Flow → Addr → Led → (Str → Option Value) → Led → Prop) : Prop :=
  ∀ (loose : List Str) (mean : ExcName → Option Value) (mg mb : Str → Option Value) (dp un : Nat) (gd : Option (List Code)) (cn : Str) (a : Addr) (ccd : Value) (outer : List Env) (A₀ : Around) (base h₀ : Heap) (L : Addr) (m : Str → Option Value) (led : Led) (s : Shared)
    (Q : Flow → Shared → Prop) (E : Value → Shared → Prop),
    Below A₀ base outer h₀ → Fr h₀ L s.heap m → (hd.heap_39 w.params).In h₀ → News h₀ L s.heap led → Top hd.view_39 loose mean mg mb h₀ → dp + 20 < recursionLimit → un + 200 < cLine → pre h₀ L m led → PassesOwn (model PySem.Challenge.rw_fy0008_01.row.prog w) (ktrTop dp un gd cn lawScope L a ccd (cellsFrom (L + 1) lawScope.names []) outer) (envOfC cn lawScope L a ccd) E →
    (∀ f m' led' h' tk', Fr h₀ L h' m' → News h₀ L h' led' → post f L led m' led' → Q f { s with heap := h', toks := tk' }) →
    wpAny (model PySem.Challenge.rw_fy0008_01.row.prog w) (ktrTop dp un gd cn lawScope L a ccd (cellsFrom (L + 1) lawScope.names []) outer) (exec S (envOfC cn lawScope L a ccd)) Q E s
end Mine
end

namespace Mine
theorem fresh_GD : True := by w_top off; first | walk1 | trivial
end Mine

section
open PySem PySem.W PyProof.Rows PySem.Calls PySem.Spec
set_option maxRecDepth 100000
set_option maxHeartbeats 1000000
namespace Mine
open LCg

theorem compTurn_out (elt t0 iter0 t1 iter1 : Expr) (ifs : List Expr) (scope : Scope) (pos : Pos) (it acc : Value) (env : Env) :
    compTurn (.ListComp elt [⟨t0, iter0, [], 0⟩, ⟨t1, iter1, ifs, 0⟩] scope pos) 0 it acc env = (do
      standAt iter0.pos
      match ← pyNext it with
      | none => pure (.done .next)
      | some v =>
        letOwnedTupleGo t0 it v
        assign t0 env v
        let x ← eval iter1 env
        standAt iter1.pos
        let x ← foldedSetIterable iter1 env x
        let _ ← runOwn (.compStart (.ListComp elt [⟨t0, iter0, [], 0⟩, ⟨t1, iter1, ifs, 0⟩] scope pos) 1 (← holding [x] (pyIter x)) acc env) env
        again (.compLoop (.ListComp elt [⟨t0, iter0, [], 0⟩, ⟨t1, iter1, ifs, 0⟩] scope pos) 0 it acc env)) := by rfl
theorem compTurn_in (elt t0 iter0 t1 iter1 : Expr) (ifs : List Expr) (scope : Scope) (pos : Pos) (it acc : Value) (env : Env) :
    compTurn (.ListComp elt [⟨t0, iter0, [], 0⟩, ⟨t1, iter1, ifs, 0⟩] scope pos) 1 it acc env = (do
      standAt iter1.pos
      match ← pyNext it with
      | none => pure (.done .next)
      | some v =>
        letOwnedTupleGo t1 it v
        assign t1 env v
        let mut ok := true
        for c in ifs do
          if ok then ok ← isTrue c env (eval c env)
        if ok then
          (do let _ ← call (.builtin "list.append") [acc, ← eval elt env])
        again (.compLoop (.ListComp elt [⟨t0, iter0, [], 0⟩, ⟨t1, iter1, ifs, 0⟩] scope pos) 1 it acc env)) := by rfl

section
variable {prog : Program} {w : World} {A : Around} {E : Value → Shared → Prop} {R : Result → Shared → Prop} {s : Shared}
theorem loop_in {elt t0 iter0 target iter : Expr} {ifs : List Expr} {scope : Scope} {pos : Pos} {it acc : Value} {env : Env} (I : Nat → Shared → Prop)
    (turn : ∀ n s, I n s → wpAny (model prog w) A (pyNext it) (fun r s₁ => match r with
      | none => R (.ok .next) s₁
      | some v => wpAny (model prog w) A (assign target env v) (fun _ s₂ =>
          wpAny (model prog w) A (forIn ifs true fun c r => if r = true then do let ok ← isTrue c env (eval c env); pure (ForInStep.yield ok) else pure (ForInStep.yield r)) (fun ok s₃ =>
            if ok = true then wpAny (model prog w) A (eval elt env) (fun x s₄ =>
              wpAny (model prog w) A (call (.builtin "list.append") [acc, x]) (fun _ s₅ => ∃ m, m < n ∧ I m s₅) (notedBy (model prog w) A env fun e s' => R (.error e) s') s₄) (notedBy (model prog w) A env fun e s' => R (.error e) s') s₃
            else ∃ m, m < n ∧ I m s₃) (notedBy (model prog w) A env fun e s' => R (.error e) s') s₂) (notedBy (model prog w) A env fun e s' => R (.error e) s') s₁) (notedBy (model prog w) A env fun e s' => R (.error e) s') s)
    (n : Nat) (h : I n s) (ht : ∀ v, letOwnedTupleGo target it v = pure () := by intro _; rfl) :
    codeAny (model prog w) A (.compLoop (.ListComp elt [⟨t0, iter0, [], 0⟩, ⟨target, iter, ifs, 0⟩] scope pos) 1 it acc env) R s := by
  refine codeAny_loop rfl I (fun n s hI => ?_) n h
  show wpAny _ A ((compTurn (.ListComp elt [⟨t0, iter0, [], 0⟩, ⟨target, iter, ifs, 0⟩] scope pos) 1 it acc env).onRaise (fun x => do noteFrame x env; theTreesLotGoes x)) _ _ s
  refine wpAny_noted ?_
  rw [compTurn_in]
  refine wpAny_bind (wpAny_standAt (wpAny_bind (wpAny_mono (turn n s hI) (fun r s₁ h₁ => ?_) fun _ _ h' => h')))
  cases r with
  | none => exact wpAny_pure h₁
  | some v =>
    refine wpAny_bind (wpAny_of_eq (ht v) ?_)
    refine wpAny_bind (wpAny_mono h₁ (fun _ s₂ h₂ => wpAny_bind (wpAny_mono h₂ (fun ok s₃ h₃ => ?_) fun _ _ h' => h')) fun _ _ h' => h')
    cases ok with
    | false => exact wpAny_pure ⟨rfl, h₃⟩
    | true =>
      exact wpAny_bind (wpAny_bind (wpAny_mono h₃ (fun x s₄ h₄ => wpAny_bind (wpAny_mono h₄ (fun _ s₅ h₅ => wpAny_pure (wpAny_pure ⟨rfl, h₅⟩)) fun _ _ h' => h')) fun _ _ h' => h'))

theorem loop_out {elt target iter0 t1 iter1 : Expr} {ifs : List Expr} {scope : Scope} {pos : Pos} {it acc : Value} {env : Env} (I : Nat → Shared → Prop)
    (turn : ∀ n s, I n s → wpAny (model prog w) A (pyNext it) (fun r s₁ => match r with
      | none => R (.ok .next) s₁
      | some v => wpAny (model prog w) A (assign target env v) (fun _ s₂ =>
          wpAny (model prog w) A (eval iter1 env) (fun x s₃ => wpAny (model prog w) A (pyIter x) (fun it1 s₄ =>
            codeAny (model prog w) A (.compStart (.ListComp elt [⟨target, iter0, [], 0⟩, ⟨t1, iter1, ifs, 0⟩] scope pos) 1 it1 acc env) (fun r s' => match r with
              | .ok _ => ∃ m, m < n ∧ I m s'
              | .error e => cameBackBy (model prog w) A env (notedBy (model prog w) A env fun e s' => R (.error e) s') e s') s₄) (notedBy (model prog w) A env fun e s' => R (.error e) s') s₃)
            (notedBy (model prog w) A env fun e s' => R (.error e) s') s₂) (notedBy (model prog w) A env fun e s' => R (.error e) s') s₁) (notedBy (model prog w) A env fun e s' => R (.error e) s') s)
    (n : Nat) (h : I n s) (ht : ∀ v, letOwnedTupleGo target it v = pure () := by intro _; rfl) (hs : ∀ x, foldedSetIterable iter1 env x = pure x := by intro _; rfl) :
    codeAny (model prog w) A (.compLoop (.ListComp elt [⟨target, iter0, [], 0⟩, ⟨t1, iter1, ifs, 0⟩] scope pos) 0 it acc env) R s := by
  refine codeAny_loop rfl I (fun n s hI => ?_) n h
  show wpAny _ A ((compTurn (.ListComp elt [⟨target, iter0, [], 0⟩, ⟨t1, iter1, ifs, 0⟩] scope pos) 0 it acc env).onRaise (fun x => do noteFrame x env; theTreesLotGoes x)) _ _ s
  refine wpAny_noted ?_
  rw [compTurn_out]
  refine wpAny_bind (wpAny_standAt (wpAny_bind (wpAny_mono (turn n s hI) (fun r s₁ h₁ => ?_) fun _ _ h' => h')))
  cases r with
  | none => exact wpAny_pure h₁
  | some v =>
    refine wpAny_bind (wpAny_of_eq (ht v) ?_)
    refine wpAny_bind (wpAny_mono h₁ (fun _ s₂ h₂ => wpAny_bind (wpAny_mono h₂ (fun x s₃ h₃ => ?_) fun _ _ h' => h')) fun _ _ h' => h')
    refine wpAny_bind (wpAny_standAt (wpAny_bind (wpAny_of_eq (hs x) (wpAny_bind (wpAny_holding (wpAny_mono h₃ (fun it1 s₄ h₄ => ?_) fun _ _ h' => h'))))))
    exact wpAny_bind (wpAny_runOwn (Q := fun _ s' => wpAny _ _ _ _ _ s') (codeAny_mono h₄ fun r s' hr => by
      cases r with
      | ok f => exact wpAny_pure ⟨rfl, hr⟩
      | error e => exact hr))

theorem start_in {elt t0 iter0 target iter : Expr} {ifs : List Expr} {scope : Scope} {pos : Pos} {it acc : Value} {env : Env}
    (h0 : codeAny (model prog w) A (.compLoop (.ListComp elt [⟨t0, iter0, [], 0⟩, ⟨target, iter, ifs, 0⟩] scope pos) 1 it acc env) R s)
    (h : wpAny (model prog w) A (pyIter it) (fun it' s' => codeAny (model prog w) A (.compLoop (.ListComp elt [⟨t0, iter0, [], 0⟩, ⟨target, iter, ifs, 0⟩] scope pos) 1 it' acc env) R s')
      (notedBy (model prog w) A env fun x s' => R (.error x) s') s) :
    codeAny (model prog w) A (.compStart (.ListComp elt [⟨t0, iter0, [], 0⟩, ⟨target, iter, ifs, 0⟩] scope pos) 1 it acc env) R s := by
  refine codeAny_of_tree ?_
  show wpAny _ _ ((compStart (.ListComp elt [⟨t0, iter0, [], 0⟩, ⟨target, iter, ifs, 0⟩] scope pos) 1 it acc env).onRaise (fun x => do noteFrame x env; standAt theWindowsPlace)) _ _ s
  refine wpAny_notedAt ?_
  unfold compStart
  show wpAny _ _ (ask >>= _) _ _ s
  refine wpAny_bind (wpAny_askSetting (wpAny_ite ?_))
  split
  · first
      | exact wpAny_bind (wpAny_pure (wpAny_pure (And.intro rfl h0)))
      | exact wpAny_pure (And.intro rfl h0)
  · first
      | exact wpAny_bind (wpAny_rule (wpAny_bind (wpAny_standAt (wpAny_bind (wpAny_mono h (fun it' s' h' => wpAny_pure (And.intro rfl h')) fun _ _ x => x)))))
      | (refine wpAny_bind (wpAny_rule ?_); show wpAny _ _ (standAt iter.pos >>= _) _ _ s; exact wpAny_bind (wpAny_standAt (wpAny_bind (wpAny_mono h (fun it' s' h' => wpAny_pure (And.intro rfl h')) fun _ _ x => x))))
end

def NumsV (ys : List Value) (ns : List Nat) : Prop := All2 (fun v (k : Nat) => ∃ t, v = Value.int k t) ys ns
def pick2 (b : Nat → Nat → Bool) (n2 : Nat) : Nat → List Nat
  | 0 => []
  | i + 1 => pick2 b n2 i ++ (List.range n2).filter (b i)
theorem pick2_len (b : Nat → Nat → Bool) (n2 : Nat) : ∀ i, (pick2 b n2 i).length ≤ i * n2
  | 0 => Nat.zero_le _
  | i + 1 => by
    have h1 := pick2_len b n2 i
    have h2 : ((List.range n2).filter (b i)).length ≤ n2 := Nat.le_trans (List.length_filter_le _ _) (by rw [List.length_range]; exact Nat.le_refl _)
    rw [pick2, List.length_append, Nat.add_mul, Nat.one_mul]
    omega
theorem range_filter_succ (b : Nat → Bool) (j : Nat) : (List.range (j + 1)).filter b = (List.range j).filter b ++ (if b j then [j] else []) := by
  rw [List.range_succ, List.filter_append]
  congr 1
  cases h : b j <;> simp [h]

section
variable {prog : Program} {w : World} {A : Around} {E : Value → Shared → Prop} {h₀ : Heap} {L : Addr} {m : Str → Option Value} {env : Env}
theorem block_2 {ct iter0 iter1 : Expr} {x y : Str} {px py py' : Pos} {scope : Scope} {cl : List (Str × Addr)} {pos : Pos} {s₂ : Shared} {I : Addr} {fp : List Addr} {n n2 : Nat} {P : Nat → Value → Prop} {St : Nat → Heap → Prop} {led : Led}
    {RR : Value → Addr → Result → Shared → Prop} {b : Nat → Nat → Bool} (hh : A.handled = none)
    (W : Walks prog w A I fp [I] n P St) (hsz : n * n2 ≤ 200) (hn2 : n2 ≤ 200) (hIo : ∀ i h, St i h → ∃ o, h.get? I = some o)
    (hSt : ∀ i h h' o, St i h → h.get? I = some o → h'.get? I = some o → (∀ b o, h₀.get? b = some o → h'.get? b = some o) → News h₀ L h' led → St i h')
    (hcell : ∀ y ∈ scope.names, y.2 ≠ .cell) (hkind : scope.kind = .function) (hx : scope.names.lookup x = some .local) (hy : scope.names.lookup y = some .local) (hxy : x ≠ y) (hyd : (y == ("__debug__" : Str)) = false) (hst : St 0 s₂.heap) (hfp : ∀ b ∈ fp, b < s₂.heap.objs.size)
    (F : Fr h₀ L s₂.heap m) (N : News h₀ L s₂.heap led) (hIL : L ≠ I) (hI₀ : h₀.get? I = none) (off : ∀ p ∈ led, p.1 ≠ I)
    (hiter : ∀ i v oI C oC D ys m₂ h tk (E' : Value → Shared → Prop), i < n → P i v → NsObj oC m₂ → m₂ x = some v → Fr h₀ L h m → News h₀ L h ((I, oI) :: (C, oC) :: (D, lst ys) :: led) →
      wpAny (model prog w) A (eval iter1 (compEnvC scope cl C env)) (fun xv s' => ∃ r t u v' h' tk', xv = .ref r ∧ s' = { s₂ with heap := h', toks := tk' } ∧ Fr h₀ L h' m ∧ News h₀ L h' ((I, oI) :: (C, oC) :: (D, lst ys) :: led) ∧ IsRange h' r 0 n2 1 t u v') E' { s₂ with heap := h, toks := tk })
    (htest : ∀ i v j tkj I1 oI1 oI C oC D ys m₂ h tk (E' : Value → Shared → Prop), i < n → P i v → j < n2 → NsObj oC m₂ → m₂ x = some v → m₂ y = some (.int (j : Nat) tkj) → Fr h₀ L h m → News h₀ L h ((I1, oI1) :: (I, oI) :: (C, oC) :: (D, lst ys) :: led) →
      wpAny (model prog w) A (isTrue ct (compEnvC scope cl C env) (eval ct (compEnvC scope cl C env))) (fun ok s' => ok = b i j ∧ ∃ h' tk', s' = { s₂ with heap := h', toks := tk' } ∧ Fr h₀ L h' m ∧ News h₀ L h' ((I1, oI1) :: (I, oI) :: (C, oC) :: (D, lst ys) :: led)) E' { s₂ with heap := h, toks := tk })
    (hRR : ∀ D C h tk m' ys, Fr h₀ L h m → News h₀ L h ((D, lst ys) :: led) → (∀ p ∈ led, p.1 ≠ D) → h.Ns C m' → h₀.get? C = none → C ≠ L → C ≠ D → (∀ p ∈ led, p.1 ≠ C) → NumsV ys (pick2 b n2 n) → RR (.ref D) C (.ok .next) { s₂ with heap := h, toks := tk })
    (hs1 : ∀ (e : Env) x, foldedSetIterable iter1 e x = pure x) :
    wpAny (model prog w) A (newList []) (fun acc s₃ => wpAny (model prog w) A (newFunctionEnv scope env.globals cl [] env.qual none .none (some env)) (fun cenv s₄ =>
      codeAny (model prog w) A (.compStart (.ListComp (.Name y py') [⟨.Name x px, iter0, [], 0⟩, ⟨.Name y py, iter1, [ct], 0⟩] scope pos) 0 (.ref I) acc { cenv with scope := relabel scope env }) (RR acc cenv.locals) s₄) E s₃) E s₂ := by
  refine wpAny_newObj_type (wpAny_newFunctionEnv hcell (by intro y hy; simp at hy) (fun h₁ hns₁ hsb₁ => ?_) hkind)
  dsimp only at hns₁ hsb₁ ⊢
  generalize hH2 : s₂.heap.push { cls := .type "list", dict := none, data := .seq ([] : List Value).toArray } = H2 at hns₁ hsb₁ ⊢
  have hC : H2.objs.size = s₂.heap.objs.size + 1 := by rw [← hH2, Heap.size_push]
  have hDC : s₂.heap.objs.size ≠ H2.objs.size := by rw [hC]; exact Nat.ne_of_lt (Nat.lt_succ_self _)
  have below : ∀ b, b < s₂.heap.objs.size → b ≠ H2.objs.size ∧ b ≠ s₂.heap.objs.size := fun b hb => ⟨by rw [hC]; exact Nat.ne_of_lt (Nat.lt_succ_of_lt hb), Nat.ne_of_lt hb⟩
  have hDf : s₂.heap.objs.size ∉ fp := fun hm => Nat.lt_irrefl _ (hfp _ hm)
  have hCf : H2.objs.size ∉ fp := fun hm => by have := hfp _ hm; rw [hC] at this; exact Nat.lt_irrefl _ (Nat.lt_of_succ_lt this)
  have hIf : I ∈ fp := W.sub I (List.mem_singleton.mpr rfl)
  have hIlt : I < s₂.heap.objs.size := hfp I hIf
  have old : ∀ b o, s₂.heap.get? b = some o → h₁.get? b = some o := fun b o e => hsb₁.extBut b o (below b (Heap.lt_size e)).1 (Heap.get?_push_of_some _ (hH2 ▸ Heap.get?_push_of_some _ e))
  have hacc : h₁.get? s₂.heap.objs.size = some (lst []) := hsb₁.extBut _ _ hDC (Heap.get?_push_of_some _ (hH2 ▸ Heap.get?_push_size _ rfl))
  have hst₁ : St 0 h₁ := W.frame _ _ _ hst fun b _ o e => old b o e
  have fresh : ∀ a, s₂.heap.objs.size ≤ a → s₂.heap.get? a = none := fun a ha => by
    cases e : s₂.heap.get? a with
    | none => rfl
    | some o' => exact absurd (Heap.lt_size e) (Nat.not_lt.mpr ha)
  have fresh₀ : ∀ a, s₂.heap.objs.size ≤ a → h₀.get? a = none := fun a ha => by
    cases e : h₀.get? a with
    | none => rfl
    | some o' => have := F.keep a o' e; rw [fresh a ha] at this; cases this
  have hD₀ : h₀.get? s₂.heap.objs.size = none := fresh₀ _ (Nat.le_refl _)
  have hC₀ : h₀.get? H2.objs.size = none := fresh₀ _ (by rw [hC]; exact Nat.le_succ _)
  have hLlt : L < s₂.heap.objs.size := F.ns.lt
  have hDL : s₂.heap.objs.size ≠ L := Ne.symm (below L hLlt).2
  have hCL : H2.objs.size ≠ L := Ne.symm (below L hLlt).1
  have hCI : I ≠ H2.objs.size := (below I hIlt).1
  have hDI : I ≠ s₂.heap.objs.size := (below I hIlt).2
  have off₀ : ∀ p ∈ led, p.1 ≠ H2.objs.size ∧ p.1 ≠ s₂.heap.objs.size := fun p hp => below _ (Heap.lt_size (N p hp).1)
  have hCs : H2.objs.size < h₁.objs.size := hns₁.lt
  generalize hCg : H2.objs.size = C at *
  generalize hDg : s₂.heap.objs.size = D at *
  have loop : ∀ s₃ : Shared, s₃ = { s₂ with heap := h₁, toks := s₂.toks + ([] : List (Str × Value)).length } →
      codeAny (model prog w) A (.compLoop (.ListComp (.Name y py') [⟨.Name x px, iter0, [], 0⟩, ⟨.Name y py, iter1, [ct], 0⟩] scope pos) 0 (.ref I) (.ref D) (compEnvC scope cl C env))
        (RR (.ref D) C) s₃ := by
    rintro s₃ rfl
    refine loop_out
      (fun k s' => ∃ h' tk i ys m', s' = { s₂ with heap := h', toks := tk } ∧ i ≤ n ∧ k = n + 1 - i ∧ St i h' ∧ Fr h₀ L h' m ∧ h'.Ns C m' ∧ News h₀ L h' ((D, lst ys) :: led) ∧ NumsV ys (pick2 b n2 i)) ?_ (n + 1)
      ⟨h₁, _, 0, [], _, rfl, Nat.zero_le _, rfl, hst₁, F.keeps old, hns₁, fun p hp => ?_, .nil⟩ (by intro _; rfl) (hs1 _)
    · rintro k s' ⟨h', tk, i, ys, m', rfl, hi, rfl, hst', F', hn', N', hys⟩
      by_cases hlt : i < n
      · refine W.item i _ _ _ hlt hst' fun v h₂ tk₂ hPv hst₂ hk₂ => ?_
        refine wpAny_assign_Name (wpAny_storeName_local (lookup_relabel_local hx) (hn'.at' fun o e => hk₂ _ o (by simpa using Ne.symm hCI) e) (fun h₃ hn₃ hs₃ => ?_) (by simp [compEnvC, relabel, hkind]))
        have hst₃ : St (i + 1) h₃ := W.frame _ _ _ hst₂ fun b hb o e => hs₃.extBut b o (fun q => hCf (by have q' : b = C := q; rw [← q']; exact hb)) e
        obtain ⟨oI, heI⟩ := hIo _ _ hst₃
        obtain ⟨oC, heC, hoC⟩ := ns_obj hn₃
        have F₃ : Fr h₀ L h₃ m := (fr_but F' hk₂ hIL hI₀).change hs₃ hCL hC₀
        have N₂ : News h₀ L h₂ ((D, lst ys) :: led) := news_but N' hk₂ fun p hp => by
          rcases List.mem_cons.mp hp with rfl | hp
          · exact Ne.symm hDI
          · exact off p hp
        have N₃ : News h₀ L h₃ ((I, oI) :: (C, oC) :: (D, lst ys) :: led) := fun p hp => by
          rcases List.mem_cons.mp hp with rfl | hp
          · exact ⟨heI, Ne.symm hIL, hI₀⟩
          · rcases List.mem_cons.mp hp with rfl | hp
            · exact ⟨heC, hCL, hC₀⟩
            · have z := N₂ p hp
              refine ⟨hs₃.extBut _ _ ?_ z.1, z.2⟩
              rcases List.mem_cons.mp hp with rfl | hp
              · exact hDC
              · exact (off₀ p hp).1
        refine wpAny_mono (hiter i v oI C oC D ys _ h₃ _ _ hlt hPv hoC (by simp) F₃ N₃) (fun xv s₄ h₄ => ?_) fun _ _ e => e
        obtain ⟨r, t, u, v', h₄, tk₄, rfl, rfl, F₄, N₄, hr⟩ := h₄
        refine wpAny_pyIter_range hr (small_one (by omega) (by omega) (by omega) (by omega)) ?_
        have ers : Builtin.Range.rangeSize 0 (n2 : Int) 1 = (n2 : Int) := by
          have := rangeSize_nat 0 (n2 : Int)
          rwa [show ((n2 : Int) - 0).toNat = n2 by omega] at this
        rw [ers]
        have W1 := range_walks (prog := prog) (w := w) (I := h₄.objs.size) hh 0 n2
        have hI1 : ∀ p ∈ (I, oI) :: (C, oC) :: (D, lst ys) :: led, p.1 ≠ h₄.objs.size := fun p hp => Nat.ne_of_lt (Heap.lt_size (N₄ p hp).1)
        have hLI1 : L ≠ h₄.objs.size := Nat.ne_of_lt F₄.ns.lt
        have hI10 : h₀.get? h₄.objs.size = none := next_is_new F₄
        have inner : ∀ s₅ : Shared, (∃ h₅ tk₅, s₅ = { s₂ with heap := h₅, toks := tk₅ } ∧ IsRangeIter h₅ h₄.objs.size (0 + (0 : Nat) * 1) ((n2 : Int) - (0 : Nat)) 1 ∧ Fr h₀ L h₅ m ∧ News h₀ L h₅ ((I, oI) :: (C, oC) :: (D, lst ys) :: led)) →
            codeAny (model prog w) A (.compLoop (.ListComp (.Name y py') [⟨.Name x px, iter0, [], 0⟩, ⟨.Name y py, iter1, [ct], 0⟩] scope pos) 1 (.ref h₄.objs.size) (.ref D) (compEnvC scope cl C env))
              (fun r s' => match r with
              | .ok _ => ∃ k, k < n + 1 - i ∧ ∃ h' tk i ys m', s' = { s₂ with heap := h', toks := tk } ∧ i ≤ n ∧ k = n + 1 - i ∧ St i h' ∧ Fr h₀ L h' m ∧ h'.Ns C m' ∧ News h₀ L h' ((D, lst ys) :: led) ∧ NumsV ys (pick2 b n2 i)
              | .error e => cameBackBy (model prog w) A (compEnvC scope cl C env) (notedBy (model prog w) A (compEnvC scope cl C env) fun e s' => RR (.ref D) C (.error e) s') e s') s₅ := by
          rintro s₅ ⟨h₅, tk₅, rfl, hit₅, F₅, N₅⟩
          refine loop_in (fun k s' => ∃ h' tk j ys' m' oC', s' = { s₂ with heap := h', toks := tk } ∧ j ≤ n2 ∧ k = n2 + 1 - j ∧ IsRangeIter h' h₄.objs.size (0 + (j : Nat) * 1) ((n2 : Int) - (j : Nat)) 1 ∧ Fr h₀ L h' m ∧ NsObj oC' m' ∧ m' x = some v ∧ News h₀ L h' ((I, oI) :: (C, oC') :: (D, lst ys') :: led) ∧ NumsV ys' (pick2 b n2 i ++ (List.range j).filter (b i))) ?_ (n2 + 1)
            ⟨h₅, _, 0, ys, _, oC, rfl, Nat.zero_le _, rfl, hit₅, F₅, hoC, by simp, N₅, by simpa using hys⟩ (by intro _; rfl)
          rintro k s' ⟨h', tk, j, ys', m', oC', rfl, hj, rfl, hit', F', hoC', hm'x, N', hys'⟩
          by_cases hjt : j < n2
          · refine W1.item j _ _ _ hjt hit' fun v1 h₆ tk₆ hPv1 hit₆ hk₆ => ?_
            obtain ⟨tkj, rfl⟩ := hPv1
            have N₆ : News h₀ L h₆ ((I, oI) :: (C, oC') :: (D, lst ys') :: led) := news_but N' hk₆ fun p hp => by
              rcases List.mem_cons.mp hp with rfl | hp
              · exact hI1 _ (.head _)
              · rcases List.mem_cons.mp hp with rfl | hp
                · exact hI1 (C, oC) (.tail _ (.head _))
                · rcases List.mem_cons.mp hp with rfl | hp
                  · exact hI1 (D, lst ys) (.tail _ (.tail _ (.head _)))
                  · exact hI1 _ (.tail _ (.tail _ (.tail _ hp)))
            have F₆ := fr_but F' hk₆ hLI1 hI10
            have hn₆ : h₆.Ns C m' := hoC'.ns (N₆ (C, oC') (.tail _ (.head _))).1
            refine wpAny_assign_Name (wpAny_storeName_local (lookup_relabel_local hy) hn₆ (fun h₇ hn₇ hs₇ => ?_) (by simp [compEnvC, relabel, hkind]))
            refine wpAny_tests_one ?_
            have hCI1 : h₄.objs.size ≠ C := Ne.symm (hI1 (C, oC) (.tail _ (.head _)))
            have hit₇ : IsRangeIter h₇ h₄.objs.size (0 + ((j + 1 : Nat) : Nat) * 1) ((n2 : Int) - ((j + 1 : Nat) : Nat)) 1 := W1.frame _ _ _ hit₆ fun b hb o e => by
              rw [List.mem_singleton.mp hb] at e ⊢
              exact hs₇.extBut _ o hCI1 e
            obtain ⟨oC₇, heC₇, hoC₇⟩ := ns_obj hn₇
            have F₇ : Fr h₀ L h₇ m := F₆.change hs₇ hCL hC₀
            have N₇ : News h₀ L h₇ ((h₄.objs.size, _) :: (I, oI) :: (C, oC₇) :: (D, lst ys') :: led) := fun p hp => by
              rcases List.mem_cons.mp hp with rfl | hp
              · exact ⟨hit₇, Ne.symm hLI1, hI10⟩
              · rcases List.mem_cons.mp hp with rfl | hp
                · exact ⟨hs₇.extBut _ _ hCI (N₆ _ (.head _)).1, (N₆ _ (.head _)).2⟩
                · rcases List.mem_cons.mp hp with rfl | hp
                  · exact ⟨heC₇, hCL, hC₀⟩
                  · have z := N₆ p (.tail _ (.tail _ hp))
                    refine ⟨hs₇.extBut _ _ ?_ z.1, z.2⟩
                    rcases List.mem_cons.mp hp with rfl | hp
                    · exact hDC
                    · exact (off₀ p hp).1
            refine wpAny_mono (htest i v j tkj _ _ oI C oC₇ D ys' _ h₇ _ _ hlt hPv hjt hoC₇ (by simp [hxy, hm'x]) (by simp) F₇ N₇) (fun ok s₈ h₈ => ?_) fun _ _ e => e
            obtain ⟨hok, h₈, tk₈, rfl, F₈, N₈⟩ := h₈
            have hit₈ : IsRangeIter h₈ h₄.objs.size (0 + ((j + 1 : Nat) : Nat) * 1) ((n2 : Int) - ((j + 1 : Nat) : Nat)) 1 := (N₈ _ (.head _)).1
            have N₈' : News h₀ L h₈ ((I, oI) :: (C, oC₇) :: (D, lst ys') :: led) := fun p hp => N₈ p (.tail _ hp)
            cases ok with
            | true =>
              simp only [if_true]
              refine LCgL.ld_own N₈' (.tail _ (.head _)) hoC₇ (v := .int (j : Nat) tkj) (by simp) ?_ (by simp [compEnvC, relabel, hkind]) (lookup_relabel_local hy) hyd
              have zD := (N₈' (D, lst ys') (.tail _ (.tail _ (.head _)))).1
              have hlen : ys'.length ≤ 200 := by
                rw [hys'.length, List.length_append]
                have h1 := pick2_len b n2 i
                have h2 : ((List.range j).filter (b i)).length ≤ n2 := Nat.le_trans (List.length_filter_le _ _) (by rw [List.length_range]; exact hj)
                have h3 : (i + 1) * n2 ≤ n * n2 := Nat.mul_le_mul_right _ hlt
                rw [Nat.add_mul, Nat.one_mul] at h3
                omega
              refine append_at (hsz := szL hlen) zD fun h₉ hs₉ hD₉ => ?_
              have hDI1 : h₄.objs.size ≠ D := Ne.symm (hI1 (D, lst ys) (.tail _ (.tail _ (.head _))))
              refine ⟨n2 + 1 - (j + 1), by omega, h₉, tk₈, j + 1, ys' ++ [.int (j : Nat) tkj], _, oC₇, rfl, hjt, rfl, hs₉.extBut _ _ hDI1 hit₈, F₈.change hs₉ hDL hD₀, hoC₇, by simp [hxy, hm'x], fun p hp => ?_, ?_⟩
              · rcases List.mem_cons.mp hp with rfl | hp
                · exact ⟨hs₉.extBut _ _ hDI (N₈' _ (.head _)).1, (N₈' _ (.head _)).2⟩
                · rcases List.mem_cons.mp hp with rfl | hp
                  · exact ⟨hs₉.extBut _ _ (Ne.symm hDC) (N₈' _ (.tail _ (.head _))).1, (N₈' _ (.tail _ (.head _))).2⟩
                  · rcases List.mem_cons.mp hp with rfl | hp
                    · exact ⟨hD₉.trans (congrArg some (lst_snoc ys' _)), hDL, hD₀⟩
                    · exact ⟨hs₉.extBut _ _ (off₀ p hp).2 (N₈' p (.tail _ (.tail _ (.tail _ hp)))).1, (N₈' p (.tail _ (.tail _ (.tail _ hp)))).2⟩
              · rw [range_filter_succ, ← hok, if_pos rfl, ← List.append_assoc]
                exact All2.snoc hys' ⟨_, rfl⟩
            | false =>
              simp only [Bool.false_eq_true, if_false]
              refine ⟨n2 + 1 - (j + 1), by omega, h₈, tk₈, j + 1, ys', _, oC₇, rfl, hjt, rfl, hit₈, F₈, hoC₇, by simp [hxy, hm'x], N₈', ?_⟩
              rw [range_filter_succ, ← hok]
              simpa using hys'
          · obtain rfl : j = n2 := Nat.le_antisymm hj (Nat.not_lt.mp hjt)
            refine W1.done _ _ _ hit' fun h₆ tk₆ hk₆ => ?_
            have N₆ : News h₀ L h₆ ((I, oI) :: (C, oC') :: (D, lst ys') :: led) := news_but N' hk₆ fun p hp => by
              rcases List.mem_cons.mp hp with rfl | hp
              · exact hI1 _ (.head _)
              · rcases List.mem_cons.mp hp with rfl | hp
                · exact hI1 (C, oC) (.tail _ (.head _))
                · rcases List.mem_cons.mp hp with rfl | hp
                  · exact hI1 (D, lst ys) (.tail _ (.tail _ (.head _)))
                  · exact hI1 _ (.tail _ (.tail _ (.tail _ hp)))
            have F₆ := fr_but F' hk₆ hLI1 hI10
            have N₆' : News h₀ L h₆ ((D, lst ys') :: led) := fun p hp => N₆ p (.tail _ (.tail _ hp))
            exact ⟨n + 1 - (i + 1), by omega, h₆, tk₆, i + 1, ys', m', rfl, hlt, rfl, hSt _ _ _ _ hst₃ heI (N₆ _ (.head _)).1 F₆.keep (fun p hp => N₆' p (.tail _ hp)), F₆, hoC'.ns (N₆ (C, oC') (.tail _ (.head _))).1, N₆', hys'⟩
        have hits : IsRangeIter (h₄.push ({ cls := .type "range_iterator", data := .fields #[rawInt 0, rawInt (n2 : Int), rawInt 1] } : Obj)) h₄.objs.size (0 + (0 : Nat) * 1) ((n2 : Int) - (0 : Nat)) 1 := by
          show IsRangeIter _ _ _ _ _
          simpa using Heap.get?_push_size _ rfl
        have up := fun (b : Addr) (o : Obj) (e : h₄.get? b = some o) => Heap.get?_push_of_some ({ cls := .type "range_iterator", data := .fields #[rawInt 0, rawInt (n2 : Int), rawInt 1] } : Obj) e
        exact start_in (inner _ ⟨_, _, rfl, hits, F₄.push _, fun p hp => ⟨up _ _ (N₄ p hp).1, (N₄ p hp).2⟩⟩) (W1.self 0 _ _ _ hits (inner _ ⟨_, _, rfl, hits, F₄.push _, fun p hp => ⟨up _ _ (N₄ p hp).1, (N₄ p hp).2⟩⟩))
      · obtain rfl : i = n := Nat.le_antisymm hi (Nat.not_lt.mp hlt)
        refine W.done _ _ _ hst' fun h₂ tk₂ hk₂ => ?_
        exact hRR _ _ h₂ tk₂ _ ys (fr_but F' hk₂ hIL hI₀) (news_but N' hk₂ fun p hp => by
          rcases List.mem_cons.mp hp with rfl | hp
          · exact Ne.symm hDI
          · exact off p hp) (fun p hp => (off₀ p hp).2) (hn'.at' fun o e => hk₂ _ o (by simpa using Ne.symm hCI) e) hC₀ hCL (Ne.symm hDC) (fun p hp => (off₀ p hp).1) hys
    · rcases List.mem_cons.mp hp with rfl | hp
      · exact ⟨hacc, hDL, hD₀⟩
      · exact ⟨old _ _ (N p hp).1, (N p hp).2⟩
  exact codeAny_compStart_list (loop _ rfl) (W.self 0 _ _ _ hst₁ (loop _ rfl))

/-- the pieces that a comprehension of two clauses asks -/
structure Two (prog : Program) (w : World) (A : Around) (h₀ : Heap) (L : Addr) (m : Str → Option Value) (env : Env) (scope : Scope) (cl : List (Str × Addr)) (x y : Str) (iter1 ct : Expr) (led : Led) (its : Array Value) (n2 : Nat) (b : Nat → Nat → Bool) (s : Shared) : Prop where
  hh : A.handled = none
  hsz : its.size * n2 ≤ 200
  hn2 : n2 ≤ 200
  hcell : ∀ y ∈ scope.names, y.2 ≠ .cell
  hkind : scope.kind = .function
  hx : scope.names.lookup x = some .local
  hy : scope.names.lookup y = some .local
  hxy : x ≠ y
  hyd : (y == ("__debug__" : Str)) = false
  hiter : ∀ i v I oI C oC D ys m₂ h tk (E' : Value → Shared → Prop), i < its.size → its[i]? = some v → NsObj oC m₂ → m₂ x = some v → Fr h₀ L h m → News h₀ L h ((I, oI) :: (C, oC) :: (D, lst ys) :: led) →
      wpAny (model prog w) A (eval iter1 (compEnvC scope cl C env)) (fun xv s' => ∃ r t u v' h' tk', xv = .ref r ∧ s' = { s with heap := h', toks := tk' } ∧ Fr h₀ L h' m ∧ News h₀ L h' ((I, oI) :: (C, oC) :: (D, lst ys) :: led) ∧ IsRange h' r 0 n2 1 t u v') E' { s with heap := h, toks := tk }
  htest : ∀ i v j tkj I1 oI1 I oI C oC D ys m₂ h tk (E' : Value → Shared → Prop), i < its.size → its[i]? = some v → j < n2 → NsObj oC m₂ → m₂ x = some v → m₂ y = some (.int (j : Nat) tkj) → Fr h₀ L h m → News h₀ L h ((I1, oI1) :: (I, oI) :: (C, oC) :: (D, lst ys) :: led) →
      wpAny (model prog w) A (isTrue ct (compEnvC scope cl C env) (eval ct (compEnvC scope cl C env))) (fun ok s' => ok = b i j ∧ ∃ h' tk', s' = { s with heap := h', toks := tk' } ∧ Fr h₀ L h' m ∧ News h₀ L h' ((I1, oI1) :: (I, oI) :: (C, oC) :: (D, lst ys) :: led)) E' { s with heap := h, toks := tk }
  hs1 : ∀ (e : Env) x, foldedSetIterable iter1 e x = pure x

theorem src_2 {ct iter0 iter1 : Expr} {x y : Str} {px py py' : Pos} {scope : Scope} {cl : List (Str × Addr)} {pos : Pos} {s : Shared} {n2 : Nat} {led : Led} {ax : Addr} {o : Obj} {its : Array Value} {RR : Value → Addr → Result → Shared → Prop} {b : Nat → Nat → Bool}
    (X : Two prog w A h₀ L m env scope cl x y iter1 ct led its n2 b s) (F : Fr h₀ L s.heap m) (N : News h₀ L s.heap led) (hm : (ax, o) ∈ led) (ho : o.cls = .type "list" ∨ o.cls = .type "tuple") (hd : ∃ n, o.data = .seq its n)
    (hRR : ∀ D C h tk m' ys, Fr h₀ L h m → News h₀ L h ((D, lst ys) :: led) → (∀ p ∈ led, p.1 ≠ D) → h.Ns C m' → h₀.get? C = none → C ≠ L → C ≠ D → (∀ p ∈ led, p.1 ≠ C) → NumsV ys (pick2 b n2 its.size) → RR (.ref D) C (.ok .next) { s with heap := h, toks := tk }) :
    wpAny (model prog w) A (pyIter (.ref ax)) (fun it s₂ => wpAny (model prog w) A (newList []) (fun acc s₃ => wpAny (model prog w) A (newFunctionEnv scope env.globals cl [] env.qual none .none (some env)) (fun cenv s₄ =>
      codeAny (model prog w) A (.compStart (.ListComp (.Name y py') [⟨.Name x px, iter0, [], 0⟩, ⟨.Name y py, iter1, [ct], 0⟩] scope pos) 0 it acc { cenv with scope := relabel scope env }) (RR acc cenv.locals) s₄) E s₃) E s₂) E s := by
  have hlt : ax < s.heap.objs.size := Heap.lt_size (N _ hm).1
  have up : ∀ (ob : Obj) (b : Addr) (o : Obj), s.heap.get? b = some o → (s.heap.push ob).get? b = some o := fun ob b o e => Heap.get?_push_of_some _ e
  have fpok : ∀ (ob : Obj), ∀ b ∈ [s.heap.objs.size, ax], b < (s.heap.push ob).objs.size := fun ob b hb => by
    rw [Heap.size_push]
    rcases List.mem_cons.mp hb with rfl | hb
    · exact Nat.lt_succ_self _
    · rw [List.mem_singleton.mp hb]; exact Nat.lt_succ_of_lt hlt
  rcases ho with ho | ho
  · have hl : s.heap.IsList ax its := ⟨_, (N _ hm).1, ho, hd⟩
    refine wpAny_pyIter_list hl ?_
    exact block_2 X.hh (Walks.list X.hh s.heap.objs.size ax (Nat.ne_of_lt hlt) its) X.hsz X.hn2 (fun i h st => by obtain ⟨o, e, _⟩ := st.1; exact ⟨o, e⟩)
      (fun i h h' o' st e e' _ N' => ⟨by obtain ⟨o'', q, r⟩ := st.1; rw [e] at q; cases q; exact ⟨o', e', r⟩, ⟨_, (N' _ hm).1, ho, hd⟩⟩) X.hcell X.hkind X.hx X.hy X.hxy X.hyd
      ⟨⟨_, Heap.get?_push_size _ rfl, rfl, rfl⟩, hl.push _⟩ (fpok _) (F.keeps (up _)) (N.grown (up _)) (Nat.ne_of_lt F.ns.lt) (next_is_new F) (fun p hp => Nat.ne_of_lt (Heap.lt_size (N p hp).1))
      (fun i v oI C oC D ys m₂ h tk E' => X.hiter i v _ oI C oC D ys m₂ h tk E') (fun i v j tkj I1 oI1 oI C oC D ys m₂ h tk E' => X.htest i v j tkj I1 oI1 _ oI C oC D ys m₂ h tk E') hRR X.hs1
  · have hl : s.heap.IsTuple ax its := ⟨_, (N _ hm).1, ho, hd⟩
    refine wpAny_pyIter_tuple hl ?_
    exact block_2 X.hh (Walks.tuple X.hh s.heap.objs.size ax (Nat.ne_of_lt hlt) its) X.hsz X.hn2 (fun i h st => by obtain ⟨o, e, _⟩ := st.1; exact ⟨o, e⟩)
      (fun i h h' o' st e e' _ N' => ⟨by obtain ⟨o'', q, r⟩ := st.1; rw [e] at q; cases q; exact ⟨o', e', r⟩, ⟨_, (N' _ hm).1, ho, hd⟩⟩) X.hcell X.hkind X.hx X.hy X.hxy X.hyd
      ⟨⟨_, Heap.get?_push_size _ rfl, rfl, rfl⟩, ⟨_, up _ _ _ (N _ hm).1, ho, hd⟩⟩ (fpok _) (F.keeps (up _)) (N.grown (up _)) (Nat.ne_of_lt F.ns.lt) (next_is_new F) (fun p hp => Nat.ne_of_lt (Heap.lt_size (N p hp).1))
      (fun i v oI C oC D ys m₂ h tk E' => X.hiter i v _ oI C oC D ys m₂ h tk E') (fun i v j tkj I1 oI1 oI C oC D ys m₂ h tk E' => X.htest i v j tkj I1 oI1 _ oI C oC D ys m₂ h tk E') hRR X.hs1

theorem ListComp_2 {ct iter0 iter1 : Expr} {x y : Str} {px py py' : Pos} {scope : Scope} {cl : List (Str × Addr)} {pos : Pos} {s : Shared} {n2 : Nat} {led : Led} {ax : Addr} {o : Obj} {its : Array Value} {b : Nat → Nat → Bool} {Q : Value → Shared → Prop}
    (X : Two prog w A h₀ L m env scope cl x y iter1 ct led its n2 b s) (F : Fr h₀ L s.heap m) (N : News h₀ L s.heap led) (hm : (ax, o) ∈ led) (ho : o.cls = .type "list" ∨ o.cls = .type "tuple") (hd : ∃ n, o.data = .seq its n)
    (hclos : closureFor scope env = pure cl) (hnames : ∀ y ∈ scope.names, y.2 = .local → scope.names.lookup y.1 = some .local)
    (h0 : ∀ (Q' : Value → Shared → Prop), Q' (.ref ax) s → wpAny (model prog w) A (eval iter0 env) Q' E s)
    (fin : ∀ D h tk ys, Fr h₀ L h m → News h₀ L h ((D, lst ys) :: led) → (∀ p ∈ led, p.1 ≠ D) → NumsV ys (pick2 b n2 its.size) → Q (.ref D) { s with heap := h, toks := tk })
    (hs : ∀ x, foldedSetIterable iter0 env x = pure x := by intro _; rfl) :
    wpAny (model prog w) A (eval (.ListComp (.Name y py') [⟨.Name x px, iter0, [], 0⟩, ⟨.Name y py, iter1, [ct], 0⟩] scope pos) env) Q E s := by
  rw [eval_ListComp]
  refine wpAny_comprehension_free (use := none) rfl hs hclos X.hkind hnames (h0 _ (src_2 X F N hm ho hd ?_))
  intro D C h tk m' ys F' N' offD hn hC₀ hCL hCD offC hys
  refine ⟨m', hn, fun h'' hs'' => fin D h'' tk ys (F'.change hs'' hCL hC₀) (fun p hp => ?_) offD hys⟩
  refine ⟨hs''.extBut _ _ ?_ (N' p hp).1, (N' p hp).2⟩
  rcases List.mem_cons.mp hp with rfl | hp
  · exact Ne.symm hCD
  · exact offC p hp

theorem Assign_2 {ct iter0 iter1 : Expr} {x y z : Str} {px py py' pz : Pos} {scope : Scope} {cl : List (Str × Addr)} {pos spos : Pos} {s : Shared} {n2 : Nat} {led : Led} {ax : Addr} {o : Obj} {its : Array Value} {b : Nat → Nat → Bool} {Q : Flow → Shared → Prop}
    (X : Two prog w A h₀ L m env scope cl x y iter1 ct led its n2 b s) (F : Fr h₀ L s.heap m) (N : News h₀ L s.heap led) (hm : (ax, o) ∈ led) (ho : o.cls = .type "list" ∨ o.cls = .type "tuple") (hd : ∃ n, o.data = .seq its n) (hLe : env.locals = L)
    (hsw : swapsWith (.ListComp (.Name y py') [⟨.Name x px, iter0, [], 0⟩, ⟨.Name y py, iter1, [ct], 0⟩] scope pos) (some (.Name z pz)) spos.line env = pure true)
    (hclos : closureFor scope env = pure cl) (hnames : ∀ y ∈ scope.names, y.2 = .local → scope.names.lookup y.1 = some .local)
    (hz : env.kindOf z = some .local) (hp : (env.scope.kind == .class || (env.scope.kind == .module && env.locals != env.globals)) = false)
    (h0 : ∀ (Q' : Value → Shared → Prop), Q' (.ref ax) s → wpAny (model prog w) A (eval iter0 env) Q' E s)
    (fin : ∀ D h tk ys, Fr h₀ L h (fun y => if y = z then some (.ref D) else m y) → News h₀ L h ((D, lst ys) :: led) → (∀ p ∈ led, p.1 ≠ D) → NumsV ys (pick2 b n2 its.size) → Q .next { s with heap := h, toks := tk })
    (hs : ∀ x, foldedSetIterable iter0 env x = pure x := by intro _; rfl) :
    wpAny (model prog w) A (exec (.Assign [.Name z pz] (.ListComp (.Name y py') [⟨.Name x px, iter0, [], 0⟩, ⟨.Name y py, iter1, [ct], 0⟩] scope pos) spos) env) Q E s := by
  subst hLe
  rw [exec_Assign_Name_used _ _ _ _ hsw]
  refine wpAny_bind (wpAny_standAt (wpAny_bind ?_))
  show wpAny _ A (do let _ ← comprehension (.ListComp (.Name y py') [⟨.Name x px, iter0, [], 0⟩, ⟨.Name y py, iter1, [ct], 0⟩] scope pos) scope env _ (newList []) false (eval iter0 env) (some (assign (.Name z pz) env))) _ _ s
  refine wpAny_bind (wpAny_mono (wpAny_comprehension_free (use := some (assign (.Name z pz) env)) (Q := fun _ s' => Q .next s') rfl hs hclos X.hkind hnames
    (h0 _ (src_2 X F N hm ho hd ?_))) (fun _ s' hq => wpAny_pure (wpAny_pure hq)) fun _ _ e => e)
  intro D C h tk m' ys F' N' offD hn hC₀ hCL hCD offC hys
  show wpAny _ A (assign (.Name z pz) env (.ref D)) _ _ _
  refine wpAny_assign_Name (wpAny_storeName_local hz F'.ns (fun h₂ hn₂ hs₂ => ?_) hp)
  have hL₀ : h₀.get? env.locals = none := Heap.get?_none_of_le F'.above
  have F₂ : Fr h₀ env.locals h₂ (fun y => if y = z then some (.ref D) else m y) := ⟨hn₂, fun b o e => hs₂.extBut b o (fun q => by rw [q, hL₀] at e; cases e) (F'.keep b o e), F'.above⟩
  refine ⟨m', hn.sameBut hs₂ hCL, fun h'' hs'' => fin D h'' _ ys (F₂.change hs'' hCL hC₀) (fun p hp => ?_) offD hys⟩
  have q : h₂.get? p.1 = some p.2 := hs₂.extBut _ _ (N' p hp).2.1 (N' p hp).1
  refine ⟨hs''.extBut _ _ ?_ q, (N' p hp).2⟩
  rcases List.mem_cons.mp hp with rfl | hp
  · exact Ne.symm hCD
  · exact offC p hp
end
end Mine
end

namespace Mine
theorem fresh_GQ : True := by w_top off; first | walk1 | trivial
end Mine

section
open PySem PySem.W PyProof.Rows PySem.Calls PySem.Spec
set_option maxRecDepth 100000
set_option maxHeartbeats 1000000
namespace Mine
theorem dec_t {p : Prop} {i : Decidable p} (h : @decide p i = true) : p := @of_decide_eq_true p i h
theorem dec_f {p : Prop} {i : Decidable p} (h : @decide p i = false) : ¬ p := @of_decide_eq_false p i h
abbrev datP (p : Int × Int) : PySem.W.Dat := .tuple [.int p.1, .int p.2]
theorem datP_inj {p q : Int × Int} (h : datP p = datP q) : p = q := by
  cases p; cases q
  simp only [datP, PySem.W.Dat.tuple.injEq, List.cons.injEq, PySem.W.Dat.int.injEq, and_true] at h
  rw [h.1, h.2]
theorem datP_map_inj : ∀ {ps qs : List (Int × Int)}, ps.map datP = qs.map datP → ps = qs
  | [], [], _ => rfl
  | [], _ :: _, h => by cases h
  | _ :: _, [], h => by cases h
  | p :: ps, q :: qs, h => by
    rw [List.map_cons, List.map_cons, List.cons.injEq] at h
    rw [datP_inj h.1, datP_map_inj h.2]
theorem PlV.dat {led : Led} {v : Value} {p : Int × Int} (h : PlV led v p) : DatIn led v (datP p) := by
  obtain ⟨a, rfl, ⟨tx, ty, n, hm⟩, _⟩ := h
  exact DatIn.tuple (vs := [.int p.1 tx, .int p.2 ty]) hm (.cons (.int _ _) (.cons (.int _ _) .nil))
theorem PlV.dats {led : Led} {its : List Value} {ps : List (Int × Int)} (h : All2 (PlV led) its ps) : DatAll led its (ps.map datP) := by
  induction h with
  | nil => exact .nil
  | cons h _ ih => exact .cons h.dat ih
theorem datP_ok (p : Int × Int) : kqdOk 8 (datP p) = true := rfl
theorem datP_oks (ps : List (Int × Int)) : ∀ d ∈ ps.map datP, kqdOk 8 d = true := fun d hd => by
  obtain ⟨p, _, rfl⟩ := List.mem_map.mp hd
  rfl
theorem NumsV.dats {led : Led} {ys : List Value} {ns : List Nat} (h : NumsV ys ns) : DatAll led ys (ns.map fun n : Nat => .int (n : Int)) := by
  unfold NumsV at h
  induction h with
  | nil => exact .nil
  | cons h _ ih =>
    obtain ⟨t, rfl⟩ := h
    exact .cons (.int _ _) ih
section
variable {prog : Program} {w : World} {A : Around} {E : Value → Shared → Prop} {s : Shared} {h₀ : Heap} {L a b : Addr} {led : Led} {va vb : Value} {da db : PySem.W.Dat} {Q : Value → Shared → Prop}
open Classical in
theorem dat_eq (N : News h₀ L s.heap led) (Da : DatIn led va da) (Db : DatIn led vb db) (ha : kqdOk 8 da = true) (hb : kqdOk 8 db = true) (hu : A.units + 64 < cLine) (h : Q (.bool (decide (da = db))) s) : wpAny (model prog w) A (compareOp .Eq va vb) Q E s := by
  obtain ⟨as, ra⟩ := kqd_in N 8 Da ha
  obtain ⟨bs, rb⟩ := kqd_in N 8 Db hb
  have la := kqd_lay 8 da ha
  have lb := kqd_lay 8 db hb
  have e : PyData.eqv (kqdP da) (kqdP db) = decide (da = db) := by
    have q := kqd_eqv 8 da db 8 ha hb
    by_cases hq : da = db
    · rw [decide_eq_true hq]; exact q.mpr hq
    · rw [decide_eq_false hq]; exact Bool.eq_false_iff.mpr fun x => hq (q.mp x)
  refine eq_dataH ra rb ?_ ?_ hu (by rw [e]; exact h)
  · unfold SeqAt.shaped; rw [la.1, Bool.true_and]; exact decide_eq_true (Nat.le_trans la.2 (by decide))
  · unfold SeqAt.shaped; rw [lb.1, Bool.true_and]; exact decide_eq_true (Nat.le_trans lb.2 (by decide))
open Classical in
theorem dat_ne (N : News h₀ L s.heap led) (Da : DatIn led va da) (Db : DatIn led vb db) (ha : kqdOk 8 da = true) (hb : kqdOk 8 db = true) (hu : A.units + 64 < cLine) (h : Q (.bool (!decide (da = db))) s) : wpAny (model prog w) A (compareOp .NotEq va vb) Q E s := by
  obtain ⟨as, ra⟩ := kqd_in N 8 Da ha
  obtain ⟨bs, rb⟩ := kqd_in N 8 Db hb
  have la := kqd_lay 8 da ha
  have lb := kqd_lay 8 db hb
  have e : PyData.eqv (kqdP da) (kqdP db) = decide (da = db) := by
    have q := kqd_eqv 8 da db 8 ha hb
    by_cases hq : da = db
    · rw [decide_eq_true hq]; exact q.mpr hq
    · rw [decide_eq_false hq]; exact Bool.eq_false_iff.mpr fun x => hq (q.mp x)
  refine ne_dataH ra rb ?_ ?_ hu (by rw [e]; exact h)
  · unfold SeqAt.shaped; rw [la.1, Bool.true_and]; exact decide_eq_true (Nat.le_trans la.2 (by decide))
  · unfold SeqAt.shaped; rw [lb.1, Bool.true_and]; exact decide_eq_true (Nat.le_trans lb.2 (by decide))
end
end Mine
end

namespace Mine
theorem fresh_GR : True := by w_top off; first | walk1 | trivial
end Mine

section
open PySem PySem.W PyProof.Rows PySem.Calls PySem.Spec
set_option maxRecDepth 100000
set_option maxHeartbeats 1000000
namespace Mine
theorem lri_no_len : typeLookup (.type "list_reverseiterator") "__len__" = pure none := by rw [typeLookup_type, builtinLookup_eq_fast]; kernel_rfl
theorem lri_hint : typeLookup (.type "list_reverseiterator") "__length_hint__" = pure (some (.builtin "list_reverseiterator.__length_hint__")) := by rw [typeLookup_type, builtinLookup_eq_fast]; kernel_rfl
section
variable {prog : Program} {w : World} {A : Around} {E : Value → Shared → Prop} {s : Shared}
theorem hint_rev {I l : Addr} {i : Int} {Q : Bool → Shared → Prop} (hit : s.heap.IsRevIter I l i) (h : Q false s) : wpAny (model prog w) A (Builtin.List.listLengthHint (.ref I)) Q E s := by
  unfold Builtin.List.listLengthHint
  refine wpAny_bind (wpAny_specialOf hit.typeIs lri_no_len ?_)
  show wpAny _ A (specialOf (Value.ref I) (Str.ofString "__length_hint__") >>= _) _ _ _
  refine wpAny_bind (wpAny_specialOf hit.typeIs lri_hint ?_)
  generalize hid : ("list_reverseiterator.__length_hint__" : String) = id0
  wp_delta
  rw [show splitId id0 = some ("list_reverseiterator", "__length_hint__") from by subst hid; decide +kernel]
  subst hid
  refine wpAny_bind (wpAny_isInstance (T := "list_reverseiterator") (b := true) hit.typeIs (by rw [isSubtype_type]; kernel_rfl) ?_)
  refine wpAny_ite_split (fun hab => absurd hab (by decide)) (fun _ => ?_)
  refine wpAny_ite_split (fun _ => ?_) (fun hab => absurd (by decide +kernel) hab)
  refine wpAny_ite_split (fun hab => absurd hab (by decide +kernel)) (fun _ => ?_)
  exact wpAny_pure h

theorem rev_extend {R : Result → Shared → Prop} {I l : Addr} {items : Array Value} (hh : A.handled = none) (hit : s.heap.IsRevIter I l ((items.size : Int) - 1)) (hl : s.heap.IsList l items) (hne : l ≠ I) (S : Addr) (hSI : S ≠ I) (hSl : S ≠ l) (res : Value) (c₀ : Nat) (hS : s.heap.get? S = some { cls := .type "list", data := .seq #[] c₀ })
    (hR : ∀ h' tk acc' c', (∀ b o, b ≠ S → b ≠ I → s.heap.get? b = some o → h'.get? b = some o) → h'.get? S = some { cls := .type "list", dict := none, data := .seq acc' c', slots := #[] } → ItemsOf (fun i v => items[items.size - 1 - i]? = some v) acc' items.size → R (.ok (.ret res)) { s with heap := h', toks := tk }) (hn : items.size ≤ sizeLine) :
    wpAny (model prog w) A.in1 (Builtin.List.listExtendWith (.ref S) (.ref I) res)
      (fun fin s' => match fin with | .done f => R (.ok f) s' | .again c' => c'.quiet = true ∧ codeAny (model prog w) A c' R s') (fun e s' => R (.error e) s') s := by
  have hSf : S ∉ [I, l] := by simp only [List.mem_cons, List.not_mem_nil, or_false, not_or]; exact ⟨hSI, hSl⟩
  have W := Walks.listRev (prog := prog) (w := w) (A := A.in1) hh I l hne items
  have st : 0 ≤ items.size ∧ s.heap.IsRevIter I l ((items.size : Int) - 1 - ((0 : Nat) : Int)) ∧ s.heap.IsList l items := ⟨Nat.zero_le _, by simpa using hit, hl⟩
  have key : ∀ (h : Heap) (c₁ tk : Nat), (0 ≤ items.size ∧ h.IsRevIter I l ((items.size : Int) - 1 - ((0 : Nat) : Int)) ∧ h.IsList l items) → (∀ b o, b ≠ S → s.heap.get? b = some o → h.get? b = some o) →
      h.get? S = some { cls := .type "list", data := .seq #[] c₁ } → codeAny (model prog w) A (.builtin "list.extend.loop" ⟨[.ref S, .ref I, res], []⟩) R { s with heap := h, toks := tk } := by
    intro h c₁ tk hst hk hS₁
    refine codeAny_extend_loopS W.toS hn S hSf res items.size 0 _ #[] c₁ rfl (Nat.zero_le _) hst hS₁ (ItemsOf.nil _) fun s' acc' c' hm hS' hacc => ?_
    rw [Moved.eq_with hm]
    refine hR s'.heap s'.toks acc' c' (fun b o hb hbI e => hm.heap b o (fun hmem => ?_) (hk b o hb e)) hS' hacc
    rcases List.mem_cons.mp hmem with e' | hmem
    · exact hb e'
    · exact hbI (List.mem_singleton.mp hmem)
  unfold Builtin.List.listExtendWith
  refine wpAny_bind (wpAny_typeOf (T := "list_reverseiterator") hit.typeIs ?_)
  have h1 : Builtin.List.listSameRef (.ref S) (.ref I) = false := by simp [Builtin.List.listSameRef, hSI]
  have h2 : (Value.type "list_reverseiterator" == Value.type "list") = false := by decide
  have h3 : (Value.type "list_reverseiterator" == Value.type "tuple") = false := by decide
  simp only [h1, h2, h3, Bool.or_false, Bool.false_eq_true, if_false]
  refine wpAny_bind (wpAny_pyIter_revIter hit ?_)
  refine wpAny_bind (wpAny_holding (hint_rev hit ?_))
  refine wpAny_ite_split (fun _ => ?_) (fun _ => wpAny_pure ⟨plainId_quiet PySem.F.plain_extend_loop _, key _ c₀ _ st (fun b o _ e => e) hS⟩)
  refine wpAny_bind (wpAny_rule ?_)
  refine wpAny_bind ?_
  show wpAny _ _ (updateSeq S (·.push .none) >>= fun _ => updateSeq S (·.pop)) _ _ _
  refine wpAny_bind (wpAny_updateSeq hS rfl ?_)
  have hS₂ := Heap.get?_update_self (Obj.mapSeq (·.push Value.none)) hS rfl
  refine wpAny_updateSeq (hz := by seq_fits) hS₂ rfl ?_
  have hS₃ := Heap.get?_update_self (Obj.mapSeq (·.pop)) hS₂ rfl
  refine wpAny_pure ⟨plainId_quiet PySem.F.plain_extend_loop _, key _ _ _ ?_ (fun b o hb e => ?_) hS₃⟩
  · refine W.frame 0 _ _ st fun b hb o e => ?_
    have hbS : b ≠ S := fun h => hSf (h ▸ hb)
    exact (Heap.get?_update_other _ _ (Ne.symm hbS)).trans ((Heap.get?_update_other _ _ (Ne.symm hbS)).trans e)
  · exact (Heap.get?_update_other _ _ (Ne.symm hb)).trans ((Heap.get?_update_other _ _ (Ne.symm hb)).trans e)

theorem rev_init {R : Result → Shared → Prop} {I l : Addr} {items : Array Value} (hh : A.handled = none) (hit : s.heap.IsRevIter I l ((items.size : Int) - 1)) (hl : s.heap.IsList l items) (hne : l ≠ I) (S : Addr) (hSI : S ≠ I) (hSl : S ≠ l) (hS : s.heap.get? S = some { cls := .type "list", data := .seq #[] })
    (hR : ∀ h' tk acc' c', (∀ b o, b ≠ S → b ≠ I → s.heap.get? b = some o → h'.get? b = some o) → h'.get? S = some { cls := .type "list", dict := none, data := .seq acc' c', slots := #[] } → ItemsOf (fun i v => items[items.size - 1 - i]? = some v) acc' items.size → R (.ok (.ret .none)) { s with heap := h', toks := tk }) (hn : items.size ≤ sizeLine) :
    wpAny (model prog w) A.in1 (Builtin.«list.__init__» ⟨[.ref S, .ref I], []⟩)
      (fun fin s' => match fin with | .done f => R (.ok f) s' | .again c' => c'.quiet = true ∧ codeAny (model prog w) A c' R s') (fun e s' => R (.error e) s') s := by
  show wpAny _ _ (do let old ← Builtin.List.listItems (.ref S); Builtin.List.listUpdate (.ref S) (fun _ => #[]); letGo old.toList.reverse; Builtin.List.listExtendWith (.ref S) (.ref I) .none) _ _ s
  refine wpAny_bind ?_
  unfold Builtin.List.listItems
  refine wpAny_bind (wpAny_seqItems hS rfl (wpAny_pure ?_))
  show wpAny _ _ (updateSeq S (fun _ => #[]) >>= fun _ => letGo (#[] : Array Value).toList.reverse >>= fun _ => Builtin.List.listExtendWith (.ref S) (.ref I) .none) _ _ s
  refine wpAny_bind (wpAny_updateSeq hS rfl ?_)
  have hS₂ := Heap.get?_update_self (Obj.mapSeq (fun _ => (#[] : Array Value))) hS rfl
  have oth : ∀ b o, b ≠ S → s.heap.get? b = some o → (s.heap.update S (Obj.mapSeq (fun _ => (#[] : Array Value)))).get? b = some o :=
    fun b o hb e => (Heap.get?_update_other _ _ (Ne.symm hb)).trans e
  refine wpAny_bind (wpAny_letGo ?_)
  refine rev_extend hh (hit.at fun o e => oth I o (Ne.symm hSI) e) ?_ hne S hSI hSl .none _ hS₂ (fun h' tk acc' c' hk hS' hacc => ?_) hn
  · obtain ⟨o, e, r⟩ := hl
    exact ⟨o, oth l o (Ne.symm hSl) e, r⟩
  · exact hR h' tk acc' c' (fun b o hb hbI e => hk b o hb hbI (oth b o hb e)) hS' hacc

theorem call_list_rev {Q : Value → Shared → Prop} {h₀ : Heap} {L : Addr} {m : Str → Option Value} {led : Led} {I l : Addr} {vs : List Value} {n0 : Nat} (hh : A.handled = none) (F : Fr h₀ L s.heap m) (N : News h₀ L s.heap ((I, revObj l ((vs.length : Int) - 1)) :: led)) (off : ∀ p ∈ led, p.1 ≠ I) (hm : (l, listOf vs.toArray n0) ∈ led) (hn : vs.length ≤ 200)
    (h : ∀ D c h' tk, Fr h₀ L h' m → News h₀ L h' ((D, listOf vs.reverse.toArray c) :: led) → Q (.ref D) { s with heap := h', toks := tk }) :
    wpAny (model prog w) A (call (.type "list") [.ref I]) Q E s := by
  have hI := N _ List.mem_cons_self
  have N' : News h₀ L s.heap led := fun p hp => N p (.tail _ hp)
  have hl : s.heap.IsList l vs.toArray := News.isList N' hm
  have hsz : vs.toArray.size = vs.length := List.size_toArray
  have hit : s.heap.IsRevIter I l ((vs.toArray.size : Int) - 1) := ⟨_, hI.1, rfl, by rw [hsz]; rfl⟩
  have hllt : l < s.heap.objs.size := Heap.lt_size (N' _ hm).1
  have hIlt : I < s.heap.objs.size := Heap.lt_size hI.1
  refine callType_codes (Q₁ := fun obj s₁ => obj = .ref s.heap.objs.size ∧ s₁ = { s with heap := s.heap.push { cls := .type "list", data := .seq #[] } }) PySem.F.called_list (PySem.F.typeCall_list_1 _) PySem.F.entry_list_init
    (code_list_new _ ⟨rfl, rfl⟩) fun obj s₁ h₁ => ?_
  obtain ⟨rfl, rfl⟩ := h₁
  have hS : (s.heap.push { cls := .type "list", data := .seq #[] }).get? s.heap.objs.size = some { cls := .type "list", data := .seq #[] } := Heap.get?_push_size _ rfl
  refine ⟨⟨_, hS, rfl⟩, PySem.F.args_list_init_2 _ _, rev_init (A := A.in1) hh (hit.at fun o e => Heap.get?_push_of_some _ e) (hl.push _) (off _ hm) _ (Nat.ne_of_gt hIlt) (Nat.ne_of_gt hllt) hS (fun h' tk acc' c' hk hS' hacc => ?_) (szL hn)⟩
  refine ⟨rfl, ?_⟩
  have hk' : ∀ b o, b ≠ I → s.heap.get? b = some o → h'.get? b = some o := fun b o hbI e => hk b o (Nat.ne_of_lt (Heap.lt_size e)) hbI (Heap.get?_push_of_some _ e)
  have hacc' : acc' = vs.reverse.toArray := by
    apply Array.toList_inj.mp
    apply List.ext_getElem?
    intro j
    have hjs := hacc.1
    rw [hsz] at hjs
    by_cases hj : j < vs.length
    · have h1 : acc'[j]? = some (acc'[j]'(by omega)) := Array.getElem?_eq_getElem (by omega)
      have h2 := hacc.2 j _ h1
      rw [Array.getElem?_toList, h1, ← h2, hsz]
      simp [List.getElem?_reverse hj]
    · rw [List.getElem?_eq_none (by rw [Array.length_toList]; omega), List.getElem?_eq_none (by simpa using hj)]
  rw [hacc'] at hS'
  refine h _ c' h' tk ⟨F.ns.at' fun o e => hk' L o (Ne.symm hI.2.1) e, fun b o e => hk' b o (fun q => by rw [q, hI.2.2] at e; cases e) (F.keep b o e), F.above⟩ fun p hp => ?_
  rcases List.mem_cons.mp hp with rfl | hp
  · exact ⟨hS', Nat.ne_of_gt F.ns.lt, next_is_new F⟩
  · exact ⟨hk' _ _ (off p hp) (N' p hp).1, (N' p hp).2⟩
end
end Mine
end

namespace Mine
theorem fresh_G9 : True := by w_top off; first | walk1 | trivial
end Mine

section
open PySem PySem.W PyProof.Rows PySem.Calls PySem.Spec
set_option maxRecDepth 100000
set_option maxHeartbeats 1000000
namespace Mine
open LCg
local macro_rules | `(tactic| k_mem) => `(tactic| first | assumption | exact upd_self (by assumption) | (refine upd_ne ?_ (by first | assumption | (apply Ne.symm; assumption)); k_mem))
local macro_rules | `(tactic| walk_at "eval ListComp") => `(tactic| (refine Hold.out ?_))
local macro_rules | `(tactic| walk_at "exec Assign cons ListComp") => `(tactic| fail "no")
local macro_rules | `(tactic| walk_at "storeName") => `(tactic| (k_here; k_dflt (refine' store_cellU ?zsF ?zsN ?zsc ?zsm ?zsd ?zsk ?zsl ?_; (case zsF => k_asm); (case zsN => k_asm); (case zsc => rfl); (case zsm => k_mem); (case zsd => k_asm); (case zsk => rfl); (case zsl => rfl)); intro h' o' F' N' d' kp'; (try k_sweep)))
local macro_rules | `(tactic| walk_at "CompSrc") => `(tactic| (refine Hold.out ?_))
local macro_rules | `(tactic| walk_at "CompSrcT") => `(tactic| (refine Hold.out ?_))
local macro_rules | `(tactic| walk_at "newTuple") => `(tactic| (k_here; k_dflt (refine' kup_newTuple ?ztF ?ztN ?_ ?ztz; (case ztF => k_asm); (case ztN => k_asm); (case ztz => kmk_size)); intro D' h' F' N' l1; (try k_sweep)))
local macro_rules | `(tactic| walk_at "subscriptTail Name Slice ref ref") => `(tactic| (k_here; (with_reducible show wpAny _ _ (subscriptTail _ (PySem.Expr.Slice _ _ none _) (Value.ref _) (Value.ref _)) _ _ _); k_dflt (refine' kmk_slice_lit ?slF ?slN ?sll ?slp ?slq ?sle ?_ ?sls ?slt ?slz; (case slF => k_asm); (case slN => k_asm); (case sll => exact News.isList (by k_asm) (by k_mem)); (case slp => kmk_part); (case slq => kmk_part); (case sle => first | exact pick_upto _ (by first | decide | with_reducible assumption | omega) | exact pick_from _ (by first | decide | with_reducible assumption | omega) | exact pick_neg _ (by first | decide | with_reducible assumption | omega)); (case sls => with_unfolding_all rfl); (case slt => kmk_pure); (case slz => exact szL (by first | with_reducible assumption | omega))); intro D' h' F' N' l1; (try k_sweep)))
local macro_rules | `(tactic| walk_at "binaryOp Add ref ref") => `(tactic| (k_here; k_dflt (refine' kmk_add_lit ?adF ?adN ?ada ?adb ?ade ?_ ?adz; (case adF => k_asm); (case adN => k_asm); (case ada => exact News.isList (by k_asm) (by k_mem)); (case adb => exact News.isList (by k_asm) (by k_mem)); (case ade => exact catL _ _); (case adz => exact szLL (by first | with_reducible assumption | (simp only [List.length_take, List.length_drop]; omega)))); intro D' h' F' N' l1; (try k_sweep)))
def numPl (n : Int) : Int × Int := (Int.fmod n 5, Int.fdiv n 5)

theorem seg0 (w : World) (ax : Addr) (vs : List Value) (xs : List Int) (hI : IntsAre vs xs) (hlen : xs.length ≤ 63) :
    Seg w (lawStmt 0) (fun h₀ L m led => Has [(Str.ofString "script", .ref ax)] m ∧ h₀.IsList ax vs.toArray ∧ Cel led (L + 1) none)
      (fun f L led m' led' => f = .next ∧ Has [(Str.ofString "script", .ref ax)] m' ∧ Kp (L + 1) led led' ∧ ∃ D its n, Cel led' (L + 1) (some (.ref D)) ∧ (D, listOf its.toArray n) ∈ led' ∧ All2 (PlV led') its ((xs.take 8).map numPl)) := by
  unfold Seg
  k_fill
  intro loose mean mg mb dp un gd cn a ccd outer A₀ base h₀ L m led s Q E B F X N T hd9 hu9 hpre hE hret
  obtain ⟨hscr, hax, oc, hcm, hcd⟩ := hpre
  have F3 := fr_kstB hscr F
  dsimp only [kstB] at F3
  clear F
  conv in (occs := *) lawScope => all_goals whnf
  conv in lawStmt _ => whnf
  k_with_none
  k_steps
  refine id (α := wpAny _ _ _ _ _ _) ?_
  k_dflt (refine LCg.ListComp_U (F₀ := by k_asm) (by rfl) (by decide) (by rfl) (by decide) (by rfl) ?_)
  k_steps
  rename IntsAre _ (List.take 8 xs) => hI8
  have hl8 : (xs.take 8).length ≤ 8 := by rw [List.length_take]; omega
  (rename Fr _ _ _ _ => F1); (rename News _ _ _ _ => N1)
  refine LCg.CompSrc.ledger (by rfl) F1 N1 List.mem_cons_self ?sz ?_
  case sz => rw [List.size_toArray, hI8.length]; exact Nat.le_trans hl8 (Nat.le_of_ble_eq_true rfl)
  intro g
  refine rest_ind (σ := Led) _ (fun c => c) (fun i c ys => All2 (PlV c) ys (((xs.take 8).map numPl).take i) ∧ (∀ p ∈ led, p ∈ c) ∧ LCg.SrcAt h₀ _ _ c) ?turn ?fin _ _ _ _ (Nat.zero_add _) ⟨.nil, fun p hp => List.mem_cons_of_mem _ hp, .inr ⟨_, List.mem_cons_self, rfl, _, rfl⟩⟩
  case turn =>
    intro i c ys v I oI C oC D m₂ h tk E' hi hP hJ hC hx F2 N2 off ne
    obtain ⟨hJ1, hJ2, hJ3⟩ := hJ
    clear F1 N1
    obtain ⟨n, t, hn, rfl⟩ := ints_get hI8 (by simpa using hP)
    k_steps
    (rename Fr _ _ _ _ => F4); (rename News _ _ _ _ => N4)
    rename ∀ (p : Addr × Obj), p ∈ (I, oI) :: (C, oC) :: (D, lst ys) :: c → p.1 < _ => lt
    refine ct_new F4 N4 lt off (SrcAt.tail' hJ3) ⟨?_, fun p hp => .tail _ (hJ2 p hp), SrcAt.tail' hJ3⟩
    rw [take_snoc (a := numPl n) (by rw [List.getElem?_map, hn]; rfl)]
    refine (hJ1.mono fun _ _ h => h.mono fun q hq => .tail _ hq).snoc ⟨_, rfl, ⟨_, _, _, List.mem_cons_self⟩, ?_, ?_⟩
    · exact fmod_lo n (by decide)
    · exact Int.le_of_lt_add_one (fmod_hi n (by decide))
  case fin =>
    intro c ys hJ
    unfold LCg.FinE
    intro D h tk F2 N2 o1
    have hcm := hJ.2.1 _ hcm
    clear F1 N1
    k_steps
    rename Kp _ _ _ => kp
    refine hret _ _ _ _ _ (by k_asm) (by k_asm) ⟨rfl, Has.cons rfl Has.nil, (Kp.sub fun p hp => List.mem_cons_of_mem _ (hJ.2.1 p hp)).trans kp, D, ys, _, ⟨_, upd_self (List.mem_cons_of_mem _ hcm), by assumption⟩, kp.obj _ List.mem_cons_self (fun v h => by cases h), ?_⟩
    have := hJ.1
    rw [List.take_of_length_le (by rw [List.length_map, List.size_toArray, hI8.length]; exact Nat.le_refl _)] at this
    exact this.mono fun _ _ h => (h.mono fun q hq => List.mem_cons_of_mem _ hq).kp kp
end Mine
end

namespace Mine
theorem fresh_G10 : True := by w_top off; first | walk1 | trivial
end Mine

section
open PySem PySem.W PyProof.Rows PySem.Calls PySem.Spec
set_option maxRecDepth 100000
set_option maxHeartbeats 1000000
namespace Mine
open LCg
local macro_rules | `(tactic| k_mem) => `(tactic| first | assumption | exact upd_self (by assumption) | (refine upd_ne ?_ (by first | assumption | (apply Ne.symm; assumption)); k_mem))
local macro_rules | `(tactic| walk_at "eval ListComp") => `(tactic| (refine Hold.out ?_))
local macro_rules | `(tactic| walk_at "exec Assign cons ListComp") => `(tactic| fail "no")
local macro_rules | `(tactic| walk_at "storeName") => `(tactic| (k_here; k_dflt (refine' store_cellU ?zsF ?zsN ?zsc ?zsm ?zsd ?zsk ?zsl ?_; (case zsF => k_asm); (case zsN => k_asm); (case zsc => rfl); (case zsm => k_mem); (case zsd => k_asm); (case zsk => rfl); (case zsl => rfl)); intro h' o' F' N' d' kp'; (try k_sweep)))
local macro_rules | `(tactic| walk_at "CompSrc") => `(tactic| (refine Hold.out ?_))
local macro_rules | `(tactic| walk_at "CompSrcT") => `(tactic| (refine Hold.out ?_))
local macro_rules | `(tactic| walk_at "newTuple") => `(tactic| (k_here; k_dflt (refine' kup_newTuple ?ztF ?ztN ?_ ?ztz; (case ztF => k_asm); (case ztN => k_asm); (case ztz => kmk_size)); intro D' h' F' N' l1; (try k_sweep)))
local macro_rules | `(tactic| walk_at "subscriptTail Name Slice ref ref") => `(tactic| (k_here; (with_reducible show wpAny _ _ (subscriptTail _ (PySem.Expr.Slice _ _ none _) (Value.ref _) (Value.ref _)) _ _ _); k_dflt (refine' kmk_slice_lit ?slF ?slN ?sll ?slp ?slq ?sle ?_ ?sls ?slt ?slz; (case slF => k_asm); (case slN => k_asm); (case sll => exact News.isList (by k_asm) (by k_mem)); (case slp => kmk_part); (case slq => kmk_part); (case sle => first | exact pick_upto _ (by first | decide | with_reducible assumption | omega) | exact pick_from _ (by first | decide | with_reducible assumption | omega) | exact pick_neg _ (by first | decide | with_reducible assumption | omega)); (case sls => with_unfolding_all rfl); (case slt => kmk_pure); (case slz => exact szL (by first | with_reducible assumption | omega))); intro D' h' F' N' l1; (try k_sweep)))
local macro_rules | `(tactic| walk_at "binaryOp Add ref ref") => `(tactic| (k_here; k_dflt (refine' kmk_add_lit ?adF ?adN ?ada ?adb ?ade ?_ ?adz; (case adF => k_asm); (case adN => k_asm); (case ada => exact News.isList (by k_asm) (by k_mem)); (case adb => exact News.isList (by k_asm) (by k_mem)); (case ade => exact catL _ _); (case adz => exact szLL (by first | with_reducible assumption | (simp only [List.length_take, List.length_drop]; omega)))); intro D' h' F' N' l1; (try k_sweep)))
theorem seg1 (w : World) (ax : Addr) (vs : List Value) (xs : List Int) (hI : IntsAre vs xs) (hlen : xs.length ≤ 63) (D0 : Addr) (its : List Value) (n0 : Nat) (ps : List (Int × Int)) (h8 : its.length ≤ 8) :
    Seg w (lawStmt 1) (fun h₀ L m led => Has [(Str.ofString "script", .ref ax)] m ∧ h₀.IsList ax vs.toArray ∧ Cel led (L + 1) (some (.ref D0)) ∧ (D0, listOf its.toArray n0) ∈ led ∧ All2 (PlV led) its ps)
      (fun f L led m' led' => f = .next ∧ Has [(Str.ofString "script", .ref ax)] m' ∧ Kp (L + 1) led led' ∧ ∃ D its' n, Cel led' (L + 1) (some (.ref D)) ∧ (D, listOf its'.toArray n) ∈ led' ∧ All2 (PlV led') its' (if xs.length % 2 = 1 then ps ++ ps.take 1 else ps)) := by
  unfold Seg
  k_fill
  intro loose mean mg mb dp un gd cn a ccd outer A₀ base h₀ L m led s Q E B F X N T hd9 hu9 hpre hE hret
  obtain ⟨hscr, hax, ⟨oc, hcm, hcd⟩, hD, hP⟩ := hpre
  have F3 := fr_kstB hscr F
  dsimp only [kstB] at F3
  clear F
  conv in (occs := *) lawScope => all_goals whnf
  conv in lawStmt _ => whnf
  k_with_none
  k_steps
  · have hodd : xs.length % 2 = 1 := by
      have h1 : Int.fmod (xs.length : Int) 2 = 1 := by assumption
      rw [Int.fmod_eq_emod_of_nonneg _ (by decide)] at h1
      omega
    rename Kp _ _ _ => kp
    refine hret _ _ _ _ _ (by k_asm) (by k_asm) ⟨rfl, Has.cons rfl Has.nil, (Kp.sub fun p hp => List.mem_cons_of_mem _ (List.mem_cons_of_mem _ hp)).trans kp, _, _, 0, ⟨_, upd_self (List.mem_cons_of_mem _ (List.mem_cons_of_mem _ hcm)), by assumption⟩, kp.obj _ List.mem_cons_self (fun v h => by cases h), ?_⟩
    rw [if_pos hodd]
    have h1 : All2 (PlV _) its ps := hP.mono fun _ _ h => ((h.mono fun q hq => List.mem_cons_of_mem _ (List.mem_cons_of_mem _ hq)).kp kp)
    exact h1.append (h1.take 1)
  · have hev : ¬ xs.length % 2 = 1 := by
      have h1 : Int.fmod (xs.length : Int) 2 ≠ 1 := by assumption
      rw [Int.fmod_eq_emod_of_nonneg _ (by decide)] at h1
      omega
    exact hret _ _ _ _ _ (by k_asm) (by k_asm) ⟨rfl, Has.cons rfl Has.nil, Kp.sub (fun p hp => hp), D0, its, n0, ⟨oc, hcm, hcd⟩, hD, by rw [if_neg hev]; exact hP⟩
end Mine
end

namespace Mine
theorem fresh_GP : True := by w_top off; first | walk1 | trivial
end Mine

section
open PySem PySem.W PyProof.Rows PySem.Calls PySem.Spec
set_option maxRecDepth 100000
set_option maxHeartbeats 1000000
namespace Mine
local macro_rules | `(tactic| k_mem) => `(tactic| first | assumption | exact upd_self (by assumption) | (refine upd_ne ?_ (by first | assumption | (apply Ne.symm; assumption)); k_mem))
local macro_rules | `(tactic| walk_at "call ref") => `(tactic| (k_here; k_dflt (refine' call_cls ?k1 ?k2 ?k3 ?k4 ?k5 ?k6 ?_; (case k1 => k_asm); (case k2 => k_asm); (case k3 => k_asm); (case k4 => k_is); (case k5 => k_is); (case k6 => k_is); k_whole; intro x' d' h' F' N' l1 l2; (try k_lt l1); (try k_lt2 l2); (try k_sweep); (refine' code_def ?k1 ?k2 ?k3 ?k4 ?k5 ?kA ?kF ?kK ?k6 ?k7 ?k8 ?k9 ?kB ?_ ?c2 ?c3 ?c4 ?c5; (case kA => exact rfl); (case kF => exact rfl); (case kK => first | exact rfl | assumption); (case k1 => k_asm); (case k2 => k_asm); (case k3 => k_asm); (case k4 => k_asm); (case k5 => k_asm); (case k6 => k_is); (case k7 => k_is); (case k8 => ktr_room); (case k9 => exact BindsTo.of_eq rfl); (case c5 => decide); (case kB => exact locs rfl); (case c2 => exact rfl); (case c3 => exact rfl); (case c4 => exact rfl); k_whole; intro g' L' h' FG' F' N' B' X' T'; (try dsimp only); (try k_fold)))))

local macro_rules | `(tactic| walk_at "setAttr ref") => `(tactic| (k_here; k_dflt (first
  | (refine' set_dict ?k1 ?k2 ?k3 ?k4 ?k5 ?k6 ?k7 ?k8 ?k9 ?k10 ?k11 ?k12 ?k13 ?_; (case k1 => k_asm); (case k2 => k_asm); (case k3 => k_asm); (case k4 => k_inst); (case k5 => exact rfl); (case k6 => k_is); (case k7 => k_is); (case k8 => k_is); (case k9 => k_is); (case k10 => k_get); (case k11 => k_put); (case k12 => k_upd); (case k13 => exact Nat.le_of_ble_eq_true rfl); k_whole; intro h' F' N'; (try k_sweep))
  | (refine' set_dictU ?k1 ?k2 ?k3 ?k4 ?k5 ?k6 ?k7 ?k8 ?k9 ?k10 ?k11 ?k12 ?_; (case k1 => k_asm); (case k2 => k_asm); (case k3 => k_asm); (case k4 => k_mem); (case k5 => k_mem); (case k6 => k_is); (case k7 => k_is); (case k8 => k_is); (case k9 => k_is); (case k10 => k_get); (case k11 => k_put); (case k12 => exact Nat.le_of_ble_eq_true rfl); k_whole; intro h' F' N'; (try k_sweep)))))

theorem pt_pack {P : Params} {led : Led} {h₀ h : Heap} {L x d : Addr} {X Y : Int} {tx ty t0 t1 : Tok}
    (_N : News h₀ L h ((x, instObj 31 d) :: (d, dictOf [⟨PyData.keyHash P "x", .str "x" t0, .int X tx⟩, ⟨PyData.keyHash P "y", .str "y" t1, .int Y ty⟩] 2) :: led)) :
    ∃ r : PtR, r.a = x ∧ r.d = d ∧ r.x = X ∧ r.y = Y ∧ ((x, instObj 31 d) :: (d, dictOf [⟨PyData.keyHash P "x", .str "x" t0, .int X tx⟩, ⟨PyData.keyHash P "y", .str "y" t1, .int Y ty⟩] 2) :: led) = (r.a, instObj pointCls r.d) :: (r.d, r.o P) :: led :=
  ⟨⟨x, d, fun k => [t0, t1].getD k 0, X, Y, tx, ty⟩, rfl, rfl, rfl, rfl, rfl⟩
theorem point_new (w : World) (led : Led) (x y : Int) (tx ty : Tok) :
    Spec w 5 50 (.ref 31) [.int x tx, .int y ty] led (fun v led' => ∃ r : PtR, v = .ref r.a ∧ r.x = x ∧ r.y = y ∧ @LT.lt Nat _ r.d r.a ∧ (∀ q ∈ led, q.1 < r.d) ∧ led' = (r.a, instObj pointCls r.d) :: (r.d, r.o w.params) :: led) := by
  unfold Spec
  k_fill
  intro loose mean mg mb dp un gd cn cs a ccd cl outer A₀ base h₀ L m s Q E B F X N T hk hd9 hu9 hret
  k_with_none
  walk1
  k_steps
  (rename News _ _ _ _ => N9); (rename Fr _ _ _ _ => F9)
  refine hret _ _ _ _ F9 N9 ?_
  obtain ⟨r, e1, e2, e3, e4, e⟩ := pt_pack N9
  exact ⟨r, by rw [e1], e3, e4, by rw [e1, e2]; assumption, by rw [e2]; assumption, e⟩
end Mine
end

namespace Mine
theorem fresh_G11 : True := by w_top off; first | walk1 | trivial
end Mine

section
open PySem PySem.W PyProof.Rows PySem.Calls PySem.Spec
set_option maxRecDepth 100000
set_option maxHeartbeats 1000000
namespace Mine
open LCg
local macro_rules | `(tactic| k_mem) => `(tactic| first | assumption | exact upd_self (by assumption) | (refine upd_ne ?_ (by first | assumption | (apply Ne.symm; assumption)); k_mem))
local macro_rules | `(tactic| walk_at "eval ListComp") => `(tactic| (refine Hold.out ?_))
local macro_rules | `(tactic| walk_at "exec Assign cons ListComp") => `(tactic| fail "no")
local macro_rules | `(tactic| walk_at "storeName") => `(tactic| (k_here; k_dflt (refine' store_cellU ?zsF ?zsN ?zsc ?zsm ?zsd ?zsk ?zsl ?_; (case zsF => k_asm); (case zsN => k_asm); (case zsc => rfl); (case zsm => k_mem); (case zsd => k_asm); (case zsk => rfl); (case zsl => rfl)); intro h' o' F' N' d' kp'; (try k_sweep)))
local macro_rules | `(tactic| walk_at "CompSrc") => `(tactic| (refine Hold.out ?_))
local macro_rules | `(tactic| walk_at "CompSrcT") => `(tactic| (refine Hold.out ?_))
local macro_rules | `(tactic| walk_at "newTuple") => `(tactic| (k_here; k_dflt (refine' kup_newTuple ?ztF ?ztN ?_ ?ztz; (case ztF => k_asm); (case ztN => k_asm); (case ztz => kmk_size)); intro D' h' F' N' l1; (try k_sweep)))
local macro_rules | `(tactic| walk_at "subscriptTail Name Slice ref ref") => `(tactic| (k_here; (with_reducible show wpAny _ _ (subscriptTail _ (PySem.Expr.Slice _ _ none _) (Value.ref _) (Value.ref _)) _ _ _); k_dflt (refine' kmk_slice_lit ?slF ?slN ?sll ?slp ?slq ?sle ?_ ?sls ?slt ?slz; (case slF => k_asm); (case slN => k_asm); (case sll => exact News.isList (by k_asm) (by k_mem)); (case slp => kmk_part); (case slq => kmk_part); (case sle => first | exact pick_upto _ (by first | decide | with_reducible assumption | omega) | exact pick_from _ (by first | decide | with_reducible assumption | omega) | exact pick_neg _ (by first | decide | with_reducible assumption | omega)); (case sls => with_unfolding_all rfl); (case slt => kmk_pure); (case slz => exact szL (by first | with_reducible assumption | omega))); intro D' h' F' N' l1; (try k_sweep)))
local macro_rules | `(tactic| walk_at "binaryOp Add ref ref") => `(tactic| (k_here; k_dflt (refine' kmk_add_lit ?adF ?adN ?ada ?adb ?ade ?_ ?adz; (case adF => k_asm); (case adN => k_asm); (case ada => exact News.isList (by k_asm) (by k_mem)); (case adb => exact News.isList (by k_asm) (by k_mem)); (case ade => exact catL _ _); (case adz => exact szLL (by first | with_reducible assumption | (simp only [List.length_take, List.length_drop]; omega)))); intro D' h' F' N' l1; (try k_sweep)))
local macro_rules | `(tactic| walk_at "call ref") => `(tactic| k_extra "my call")
def PtsV (P : Params) (led : Led) (ys : List Value) (pts : List PtR) (ps : List (Int × Int)) : Prop :=
  ys = pts.map (fun p => Value.ref p.a) ∧ (∀ p ∈ pts, PtAt P led p) ∧ pts.map (fun p => (p.x, p.y)) = ps ∧ (pts.map (·.a)).Nodup
theorem PtAt.mono {P : Params} {led led' : Led} {p : PtR} (h : PtAt P led p) (k : ∀ q ∈ led, q ∈ led') : PtAt P led' p := ⟨k _ h.1, k _ h.2.1, h.2.2⟩
theorem PtAt.kp {P : Params} {c : Addr} {led led' : Led} {p : PtR} (h : PtAt P led p) (k : Kp c led led') : PtAt P led' p :=
  ⟨k.obj _ h.1 (fun v h => by cases h), k.obj _ h.2.1 (fun v h => by cases h), h.2.2⟩
theorem All2.get {α β : Type} {R : α → β → Prop} {as : List α} {bs : List β} (h : All2 R as bs) : ∀ {i : Nat} {a : α}, as[i]? = some a → ∃ b, bs[i]? = some b ∧ R a b := by
  induction h with
  | nil => intro i a e; cases e
  | cons h _ ih => intro i a e; cases i with
    | zero => exact ⟨_, rfl, (Option.some.inj e) ▸ h⟩
    | succ i => exact ih e
theorem ct_new2 {h₀ : Heap} {L : Addr} {m : Str → Option Value} {σ : Type} {Lg : σ → Led} {s : Shared} {I : Addr} {oI : Obj} {C : Addr} {oC : Obj} {D : Addr} {oD : Obj} {S : Led → Prop} {J : Value → σ → Prop} {y : Value} {h' : Heap} {tk : Nat} {a b : Addr} {o o2 : Obj} {c : Led} (c' : σ) (hc' : Lg c' = (a, o) :: (b, o2) :: c)
    (F : Fr h₀ L h' m) (N : News h₀ L h' ((a, o) :: (b, o2) :: (I, oI) :: (C, oC) :: (D, oD) :: c)) (lt : ∀ p ∈ (I, oI) :: (C, oC) :: (D, oD) :: c, p.1 < b) (lt2 : @LT.lt Nat _ b a) (off : ∀ p ∈ c, p.1 ≠ I ∧ p.1 ≠ C ∧ p.1 ≠ D) (hS : S ((a, o) :: (b, o2) :: c)) (hJ : J y c') :
    CT h₀ L m s I oI C oC D oD S Lg J y { s with heap := h', toks := tk } := by
  refine ct_end c' F N (fun p hp => ?_) (fun p hp => ?_) (by rw [hc']; exact hS) hJ
  · rw [hc'] at hp
    simp only [List.mem_cons] at hp ⊢
    rcases hp with h | h | h | h | h | h
    · exact .inr (.inr (.inl h))
    · exact .inr (.inr (.inr (.inl h)))
    · exact .inr (.inr (.inr (.inr (.inl h))))
    · exact .inl h
    · exact .inr (.inl h)
    · exact .inr (.inr (.inr (.inr (.inr h))))
  · rw [hc'] at hp
    have l3 : ∀ p ∈ (I, oI) :: (C, oC) :: (D, oD) :: c, @LT.lt Nat _ p.1 a := fun p hp => Nat.lt_trans (lt p hp) lt2
    rcases List.mem_cons.mp hp with rfl | hp
    · exact ⟨Nat.ne_of_gt (l3 _ (.head _)), Nat.ne_of_gt (l3 _ (.tail _ (.head _))), Nat.ne_of_gt (l3 _ (.tail _ (.tail _ (.head _))))⟩
    · rcases List.mem_cons.mp hp with rfl | hp
      · exact ⟨Nat.ne_of_gt (lt _ (.head _)), Nat.ne_of_gt (lt _ (.tail _ (.head _))), Nat.ne_of_gt (lt _ (.tail _ (.tail _ (.head _))))⟩
      · exact off p hp

theorem seg2 (w : World) (D0 : Addr) (its : List Value) (n0 : Nat) (ps : List (Int × Int)) (h9 : its.length ≤ 9) :
    Seg w (lawStmt 2) (fun h₀ L m led => Cel led (L + 1) (some (.ref D0)) ∧ (D0, listOf its.toArray n0) ∈ led ∧ All2 (PlV led) its ps ∧ Cel led (L + 2) none)
      (fun f L led m' led' => f = .next ∧ Kp (L + 2) led led' ∧ ∃ D its' n pts, Cel led' (L + 2) (some (.ref D)) ∧ (D, listOf its'.toArray n) ∈ led' ∧ PtsV w.params led' its' pts ps) := by
  unfold Seg
  k_fill
  intro loose mean mg mb dp un gd cn a ccd outer A₀ base h₀ L m led s Q E B F X N T hd9 hu9 hpre hE hret
  obtain ⟨⟨o1, hc1, hd1⟩, hD, hP, o2, hc2, hd2⟩ := hpre
  conv in (occs := *) lawScope => all_goals whnf
  conv in lawStmt _ => whnf
  k_with_none
  k_steps
  refine id (α := wpAny _ _ _ _ _ _) ?_
  k_dflt (refine LCg.ListComp_U (F₀ := by k_asm) (by rfl) (by decide) (by rfl) (by decide) (by rfl) ?_)
  k_steps
  (rename Fr _ _ _ _ => F1); (rename News _ _ _ _ => N1)
  refine LCg.CompSrc.ledger (by rfl) F1 N1 hD (szL (by omega)) ?_
  intro g
  refine rest_ind (σ := Led × List PtR) _ (fun c => c.1) (fun i c ys => PtsV w.params c.1 ys c.2 (ps.take i) ∧ (∀ p ∈ led, p ∈ c.1)) ?turn ?fin _ _ (led, []) _ (Nat.zero_add _) ⟨⟨rfl, fun _ h => (by cases h), rfl, .nil⟩, fun p hp => hp⟩
  case turn =>
    rintro i ⟨c, pts⟩ ys v I oI C oC D m₂ h tk E' hi hP' ⟨⟨hJ1, hJ2, hJ3, hJ4⟩, hJ5⟩ hC hx F2 N2 off ne
    clear F1 N1
    obtain ⟨⟨px, py⟩, hpi, a', rfl, ⟨tx, ty, n, hm⟩, hb0, hb4⟩ := hP.get (by simpa using hP')
    have hm := hJ5 _ hm
    k_with "my call" => k_dflt (refine' Spec.use (point_new w ((I, oI) :: (C, oC) :: (D, lst ys) :: c) _ _ _ _) ?k1 ?k2 ?k3 ?k4 ?k5 ?kK ?kd ?ku ?_; (case k1 => k_asm); (case k2 => k_asm); (case k3 => k_asm); (case k4 => k_asm); (case k5 => k_asm); (case kK => exact rfl); (case kd => ktr_room); (case ku => ktr_units); intro r9 led9 h9 tk9 F9 N9 ho9; obtain ⟨r, e9, e1, e2, l2, l1, e9'⟩ := ho9; subst e9 e9'; (try k_sweep); (try k_fold))
    k_steps
    (rename Fr _ _ _ _ => F4); (rename News _ _ _ _ => N4)
    have hsub : ∀ q ∈ c, q ∈ (r.a, instObj pointCls r.d) :: (r.d, r.o w.params) :: c := fun q hq => .tail _ (.tail _ hq)
    refine ct_new2 ((r.a, instObj pointCls r.d) :: (r.d, r.o w.params) :: c, pts ++ [r]) rfl F4 N4 l1 l2 off (.inr ⟨_, hsub _ (hJ5 _ hD), rfl, _, rfl⟩) ⟨⟨?_, ?_, ?_, ?_⟩, fun q hq => hsub _ (hJ5 q hq)⟩
    · rw [hJ1, List.map_append]; rfl
    · intro p hp
      rcases List.mem_append.mp hp with hp | hp
      · exact (hJ2 p hp).mono hsub
      · rw [List.mem_singleton.mp hp]
        refine ⟨.head _, .tail _ (.head _), ?_, ?_⟩
        · rw [e1]; exact hb0
        · rw [e1]; exact hb4
    · rw [List.map_append, hJ3, take_snoc hpi, ← e1, ← e2]; rfl
    · rw [List.map_append, List.nodup_append]
      refine ⟨hJ4, by simp, fun x hx y hy => ?_⟩
      obtain ⟨p, hp, rfl⟩ := List.mem_map.mp hx
      rw [List.mem_singleton.mp hy]
      exact Nat.ne_of_lt (Nat.lt_trans (l1 _ (.tail _ (.tail _ (.tail _ (hJ2 p hp).1)))) l2)
  case fin =>
    rintro ⟨c, pts⟩ ys ⟨⟨hJ1, hJ2, hJ3, hJ4⟩, hJ5⟩
    unfold LCg.FinE
    intro D h tk F2 N2 o1
    have hcm := hJ5 _ hc2
    clear F1 N1
    k_steps
    rename Kp _ _ _ => kp
    refine hret _ _ _ _ _ (by k_asm) (by k_asm) ⟨rfl, (Kp.sub fun p hp => List.mem_cons_of_mem _ (hJ5 p hp)).trans kp, D, ys, _, pts, ⟨_, upd_self (List.mem_cons_of_mem _ hcm), by assumption⟩, kp.obj _ List.mem_cons_self (fun v h => by cases h), hJ1, fun p hp => ((hJ2 p hp).mono fun q hq => List.mem_cons_of_mem _ hq).kp kp, ?_, hJ4⟩
    rw [hJ3, List.take_of_length_le]
    rw [← hP.length, List.size_toArray]; exact Nat.le_refl _
end Mine
end

namespace Mine
theorem fresh_G12 : True := by w_top off; first | walk1 | trivial
end Mine

section
open PySem PySem.W PyProof.Rows PySem.Calls PySem.Spec
set_option maxRecDepth 100000
set_option maxHeartbeats 1000000
namespace Mine
open LCg
local macro_rules | `(tactic| k_mem) => `(tactic| first | assumption | exact upd_self (by assumption) | (refine upd_ne ?_ (by first | assumption | (apply Ne.symm; assumption)); k_mem))
local macro_rules | `(tactic| walk_at "eval ListComp") => `(tactic| (refine Hold.out ?_))
local macro_rules | `(tactic| walk_at "exec Assign cons ListComp") => `(tactic| fail "no")
local macro_rules | `(tactic| walk_at "storeName") => `(tactic| (k_here; k_dflt (refine' store_cellU ?zsF ?zsN ?zsc ?zsm ?zsd ?zsk ?zsl ?_; (case zsF => k_asm); (case zsN => k_asm); (case zsc => rfl); (case zsm => k_mem); (case zsd => k_asm); (case zsk => rfl); (case zsl => rfl)); intro h' o' F' N' d' kp'; (try k_sweep)))
local macro_rules | `(tactic| walk_at "CompSrc") => `(tactic| (refine Hold.out ?_))
local macro_rules | `(tactic| walk_at "CompSrcT") => `(tactic| (refine Hold.out ?_))
local macro_rules | `(tactic| walk_at "newTuple") => `(tactic| (k_here; k_dflt (refine' kup_newTuple ?ztF ?ztN ?_ ?ztz; (case ztF => k_asm); (case ztN => k_asm); (case ztz => kmk_size)); intro D' h' F' N' l1; (try k_sweep)))
local macro_rules | `(tactic| walk_at "subscriptTail Name Slice ref ref") => `(tactic| (k_here; (with_reducible show wpAny _ _ (subscriptTail _ (PySem.Expr.Slice _ _ none _) (Value.ref _) (Value.ref _)) _ _ _); k_dflt (refine' kmk_slice_lit ?slF ?slN ?sll ?slp ?slq ?sle ?_ ?sls ?slt ?slz; (case slF => k_asm); (case slN => k_asm); (case sll => exact News.isList (by k_asm) (by k_mem)); (case slp => kmk_part); (case slq => kmk_part); (case sle => first | exact pick_upto _ (by first | decide | with_reducible assumption | omega) | exact pick_from _ (by first | decide | with_reducible assumption | omega) | exact pick_neg _ (by first | decide | with_reducible assumption | omega)); (case sls => with_unfolding_all rfl); (case slt => kmk_pure); (case slz => exact szL (by first | with_reducible assumption | omega))); intro D' h' F' N' l1; (try k_sweep)))
local macro_rules | `(tactic| walk_at "binaryOp Add ref ref") => `(tactic| (k_here; k_dflt (refine' kmk_add_lit ?adF ?adN ?ada ?adb ?ade ?_ ?adz; (case adF => k_asm); (case adN => k_asm); (case ada => exact News.isList (by k_asm) (by k_mem)); (case adb => exact News.isList (by k_asm) (by k_mem)); (case ade => exact catL _ _); (case adz => exact szLL (by first | with_reducible assumption | (simp only [List.length_take, List.length_drop]; omega)))); intro D' h' F' N' l1; (try k_sweep)))
local macro_rules | `(tactic| walk_at "call ref") => `(tactic| k_extra "my call")
/-- the statement start = linked_list(points, 0, True) -/
theorem seg3 (w : World) (D1 : Addr) (n1 : Nat) (pts : List PtR) (h1 : pts.length ≠ 1) (h9 : pts.length ≤ 9) :
    Seg w (lawStmt 3) (fun h₀ L m led => Cel led (L + 2) (some (.ref D1)) ∧ (D1, listOf (ptItems pts) n1) ∈ led ∧ (∀ p ∈ pts, PtAt w.params led p))
      (fun f L led m' led' => f = .next ∧ ∃ v, Has [(Str.ofString "start", v)] m' ∧ LLPost w.params led led' (if sarea pts < 0 then pts else pts.reverse) v) := by
  unfold Seg
  k_fill
  intro loose mean mg mb dp un gd cn a ccd outer A₀ base h₀ L m led s Q E B F X N T hd9 hu9 hpre hE hret
  obtain ⟨⟨o1, hc1, hd1⟩, hD, hP⟩ := hpre
  conv in (occs := *) lawScope => all_goals whnf
  conv in lawStmt _ => whnf
  k_with_none
  k_with "my call" => k_dflt (refine' Spec.use (linked_list_spec w led D1 n1 _ pts hD hP (by omega) h1) ?k1 ?k2 ?k3 ?k4 ?k5 ?kK ?kd ?ku ?_; (case k1 => k_asm); (case k2 => k_asm); (case k3 => k_asm); (case k4 => k_asm); (case k5 => k_asm); (case kK => exact rfl); (case kd => ktr_room); (case ku => ktr_units); intro r9 led9 h9 tk9 F9 N9 ho9; (try k_sweep); (try k_fold))
  k_steps
  exact hret _ _ _ _ _ (by k_asm) (by k_asm) ⟨rfl, _, Has.cons rfl Has.nil, by assumption⟩
/-- the statement nodes, node = ([], start) -/
theorem seg4 (w : World) (v : Value) :
    Seg w (lawStmt 4) (fun h₀ L m led => Has [(Str.ofString "start", v)] m ∧ Cel led (L + 3) none)
      (fun f L led m' led' => f = .next ∧ Has [(Str.ofString "start", v), (Str.ofString "node", v)] m' ∧ Kp (L + 3) led led' ∧ ∃ D n, Cel led' (L + 3) (some (.ref D)) ∧ (D, listOf [].toArray n) ∈ led' ∧ ∀ p ∈ led, p.1 ≠ D) := by
  unfold Seg
  k_fill
  intro loose mean mg mb dp un gd cn a ccd outer A₀ base h₀ L m led s Q E B F X N T hd9 hu9 hpre hE hret
  obtain ⟨hm, o1, hc1, hd1⟩ := hpre
  have F3 := fr_kstB hm F
  dsimp only [kstB] at F3
  clear F
  conv in (occs := *) lawScope => all_goals whnf
  conv in lawStmt _ => whnf
  k_with_none
  k_steps
  (rename Kp _ _ _ => kp)
  (rename ∀ (p : Addr × Obj), p ∈ led → p.1 < _ => lt4)
  exact hret _ _ _ _ _ (by k_asm) (by k_asm) ⟨rfl, Has.cons rfl (Has.cons rfl Has.nil), (Kp.sub fun p hp => List.mem_cons_of_mem _ (List.mem_cons_of_mem _ hp)).trans kp, _, _, ⟨_, upd_self (List.mem_cons_of_mem _ (List.mem_cons_of_mem _ hc1)), by assumption⟩, kp.obj _ (List.mem_cons_of_mem _ List.mem_cons_self) (fun v h => by cases h), fun p hp => Nat.ne_of_lt (lt4 p hp)⟩
end Mine
end

namespace Mine
theorem fresh_G13 : True := by w_top off; first | walk1 | trivial
end Mine

section
open PySem PySem.W PyProof.Rows PySem.Calls PySem.Spec
set_option maxRecDepth 100000
set_option maxHeartbeats 1000000
namespace Mine
open LCg
local macro_rules | `(tactic| k_mem) => `(tactic| first | assumption | exact upd_self (by assumption) | (refine upd_ne ?_ (by first | assumption | (apply Ne.symm; assumption)); k_mem))
local macro_rules | `(tactic| walk_at "eval ListComp") => `(tactic| (refine Hold.out ?_))
local macro_rules | `(tactic| walk_at "exec Assign cons ListComp") => `(tactic| fail "no")
local macro_rules | `(tactic| walk_at "storeName") => `(tactic| (k_here; k_dflt (refine' store_cellU ?zsF ?zsN ?zsc ?zsm ?zsd ?zsk ?zsl ?_; (case zsF => k_asm); (case zsN => k_asm); (case zsc => rfl); (case zsm => k_mem); (case zsd => k_asm); (case zsk => rfl); (case zsl => rfl)); intro h' o' F' N' d' kp'; (try k_sweep)))
local macro_rules | `(tactic| walk_at "CompSrc") => `(tactic| (refine Hold.out ?_))
local macro_rules | `(tactic| walk_at "CompSrcT") => `(tactic| (refine Hold.out ?_))
local macro_rules | `(tactic| walk_at "newTuple") => `(tactic| (k_here; k_dflt (refine' kup_newTuple ?ztF ?ztN ?_ ?ztz; (case ztF => k_asm); (case ztN => k_asm); (case ztz => kmk_size)); intro D' h' F' N' l1; (try k_sweep)))
local macro_rules | `(tactic| walk_at "subscriptTail Name Slice ref ref") => `(tactic| (k_here; (with_reducible show wpAny _ _ (subscriptTail _ (PySem.Expr.Slice _ _ none _) (Value.ref _) (Value.ref _)) _ _ _); k_dflt (refine' kmk_slice_lit ?slF ?slN ?sll ?slp ?slq ?sle ?_ ?sls ?slt ?slz; (case slF => k_asm); (case slN => k_asm); (case sll => exact News.isList (by k_asm) (by k_mem)); (case slp => kmk_part); (case slq => kmk_part); (case sle => first | exact pick_upto _ (by first | decide | with_reducible assumption | omega) | exact pick_from _ (by first | decide | with_reducible assumption | omega) | exact pick_neg _ (by first | decide | with_reducible assumption | omega)); (case sls => with_unfolding_all rfl); (case slt => kmk_pure); (case slz => exact szL (by first | with_reducible assumption | omega))); intro D' h' F' N' l1; (try k_sweep)))
local macro_rules | `(tactic| walk_at "binaryOp Add ref ref") => `(tactic| (k_here; k_dflt (refine' kmk_add_lit ?adF ?adN ?ada ?adb ?ade ?_ ?adz; (case adF => k_asm); (case adN => k_asm); (case ada => exact News.isList (by k_asm) (by k_mem)); (case adb => exact News.isList (by k_asm) (by k_mem)); (case ade => exact catL _ _); (case adz => exact szLL (by first | with_reducible assumption | (simp only [List.length_take, List.length_drop]; omega)))); intro D' h' F' N' l1; (try k_sweep)))
local macro_rules | `(tactic| walk_at "call ref") => `(tactic| k_extra "my call")
local macro_rules | `(tactic| walk_at "call builtin:len") => `(tactic| (k_here; k_dflt (refine' lenL ?zlN ?zlm ?zlf ?_; (case zlN => k_asm); (case zlm => k_mem); (case zlf => exact fitL (by first | with_reducible assumption | omega | decide)); intro _)))
local macro_rules | `(tactic| walk_at "exec For Name Name cons nil") => `(tactic| (refine Hold.out ?_))
local macro_rules | `(tactic| walk_at "exec For Name Call cons nil") => `(tactic| (refine Hold.out ?_))
local macro_rules | `(tactic| walk_at "pyIter ref") => `(tactic| (refine Hold.out ?_))
local macro_rules | `(tactic| walk_at "FlPost") => `(tactic| (dsimp only [FlPost]))
local macro_rules | `(tactic| walk_at "FlEnd") => `(tactic| (refine Hold.out ?_))
local macro_rules | `(tactic| walk_at "compareOp Is ref ref") => `(tactic| (k_here; k_dflt (refine' is_ref ?N ?a ?b ?c ?_; (case N => k_asm); (case a => k_mem); (case b => k_mem); (case c => intro z; cases z))))
local macro_rules | `(tactic| walk_at "compareOp IsNot ref ref") => `(tactic| (k_here; k_dflt (refine' isnot_ref ?N ?a ?b ?c ?_; (case N => k_asm); (case a => k_mem); (case b => k_mem); (case c => intro z; cases z))))
local macro_rules | `(tactic| walk_at "call builtin:list.append") => `(tactic| (k_here; k_dflt (refine' append_U ?k1 ?k2 ?k3 ?_ ?z; (case k1 => k_asm); (case k2 => k_asm); (case k3 => k_mem); (case z => exact szL (by first | with_reducible assumption | omega)); intro h' F' N'; (try k_sweep))))
local macro_rules | `(tactic| walk_at "subscriptTail Name Name ref int") => `(tactic| k_extra "my item")
local macro_rules | `(tactic| walk_at "subscriptTail Name BinOp ref int") => `(tactic| k_extra "my item")
local macro_rules | `(tactic| walk_at "subscriptTail Name Constant ref int") => `(tactic| k_extra "my item")
local macro_rules | `(tactic| walk_at "subscriptTail Name UnaryOp ref int") => `(tactic| k_extra "my item")
local macro_rules | `(tactic| walk_at "subscriptTail Name Call ref int") => `(tactic| k_extra "my item")
def nodeV (R : List RN) (i : Nat) : Value := if R = [] then .none else .ref (cyc R i).a
abbrev nodeItems (R : List RN) : List Value := R.map fun r => Value.ref r.a

theorem seg5 (w : World) (led0 : Led) (D1 Dn : Addr) (n1 nn : Nat) (pts : List PtR) (R : List RN) (v : Value) (h9 : pts.length ≤ 9) (hRp : R.length ≤ pts.length) (hv : v = nodeV R 0) (hpos : R = [] → pts = []) :
    Seg w (lawStmt 5) (fun h₀ L m led => led = led0 ∧ Has [(Str.ofString "start", v), (Str.ofString "node", v)] m ∧ Cel led (L + 2) (some (.ref D1)) ∧ Cel led (L + 3) (some (.ref Dn)) ∧ (D1, listOf (ptItems pts) n1) ∈ led ∧ (Dn, listOf [].toArray nn) ∈ led ∧ (R ≠ [] → RingIn w.params led R) ∧ D1 ≠ Dn)
      (fun f L led m' led' => f = .next ∧ Has [(Str.ofString "start", v)] m' ∧ (∀ p ∈ led, p.1 ≠ Dn → p ∈ led') ∧ ∃ n, (Dn, listOf (nodeItems R).toArray n) ∈ led') := by
  unfold Seg
  k_fill
  intro loose mean mg mb dp un gd cn a ccd outer A₀ base h₀ L m led s Q E B F X N T hd9 hu9 hpre hE hret
  obtain ⟨rfl, hm, ⟨o2, hc2, hd2⟩, ⟨o3, hc3, hd3⟩, hD1, hDn, hR, hne⟩ := hpre
  have F3 := fr_kstB hm F
  dsimp only [kstB] at F3
  clear F
  conv in (occs := *) lawScope => all_goals whnf
  conv in lawStmt _ => whnf
  k_with_none
  have hptl : (pts.map fun p => Value.ref p.a).length ≤ 200 := by rw [List.length_map]; omega
  have hpsz : (ptItems pts).size = pts.length := by simp
  have hoff : ∀ j, R ≠ [] → (cyc R j).a ≠ Dn ∧ (cyc R j).d ≠ Dn := fun j hne => ⟨news_ne N ((hR hne).node j).1 hDn (by intro h; cases h), news_ne N ((hR hne).node j).2.1 hDn (ne_cls (a := "dict") (b := "list") rfl rfl (by decide))⟩
  have ho2 : L + 2 ≠ Dn := news_ne N hc2 hDn (by intro h; rw [h] at hd2; cases hd2)
  have ho3 : L + 3 ≠ Dn := news_ne N hc3 hDn (by intro h; rw [h] at hd3; cases hd3)
  k_steps
  refine id (α := wpAny _ _ _ _ _ _) ?_
  with_unfolding_all refine wpAny_For ?_ (by intro _; rfl)
  try k_fold
  k_steps
  refine id (α := wpAny _ _ _ _ _ _) ?_
  (rename Fr _ _ _ _ => F1); (rename News _ _ _ _ => N1); (rename IsRange _ _ _ _ _ _ _ _ => R1)
  with_unfolding_all refine for_range (σ := Led) (n := pts.length) (fun c => c) (fun i c m => Has [(Str.ofString "start", v), (Str.ofString "node", nodeV R i)] m ∧ i ≤ R.length ∧ (∀ p ∈ led, p.1 ≠ Dn → p ∈ c) ∧ ∃ n, (Dn, listOf (nodeItems (R.take i)).toArray n) ∈ c) led rfl R1 ?sm ?rs F1 N1 ?hj ?turn ?done (by intro _ _; rfl) hE
  case sm => exact small_one (by omega) (by omega) (by omega) (by omega)
  case rs => rw [hpsz]; exact rangeSize_nat _ _
  case hj => exact ⟨Has.cons rfl (Has.cons (congrArg some hv) Has.nil), Nat.zero_le _, fun p hp _ => hp, _, hDn⟩
  case done =>
    rintro c m₁ h tk ⟨hm2, hi, hk, n, hn⟩ F2 N2
    clear F1 N1
    have hif : R.length = pts.length := by
      omega
    k_steps
    refine hret _ _ _ _ _ (by k_asm) (by k_asm) ⟨rfl, fun p hp => hm2 p (by simp at hp; simp [hp]), hk, n, ?_⟩
    rwa [List.take_of_length_le (by omega)] at hn
  case turn =>
    rintro i tk' c m₁ h tk I oI hi ⟨hm2, hiR, hk, n, hn⟩ F2 N2 off2
    have hne0 : R ≠ [] := fun e => by rw [hpos e] at hi; exact Nat.not_lt_zero _ hi
    have hnode : nodeV R i = .ref (cyc R i).a := by unfold nodeV; rw [if_neg hne0]
    have hv0 : v = .ref (cyc R 0).a := by rw [hv]; unfold nodeV; rw [if_neg hne0]
    rw [hnode, hv0] at hm2
    have F3 := fr_kstB hm2 F2
    dsimp only [kstB] at F3
    have hRc : RingIn w.params c R := ⟨fun j => ((hR hne0).node j).keep fun p hp hn => hk p hp (hn.elim (fun e => e ▸ (hoff j hne0).1) fun e => e ▸ (hoff j hne0).2), (hR hne0).nodup, (hR hne0).nodupa⟩
    have hc2 := hk _ hc2 ho2
    have hc3 := hk _ hc3 ho3
    obtain ⟨n00, n01, _⟩ := hRc.node 0
    obtain ⟨ni0, ni1, _⟩ := hRc.node i
    obtain ⟨hai, hdi⟩ := hoff i hne0
    have hdi : ((cyc R i).r (cyc R (i + R.length - 1)).a (cyc R (i + 1)).a).d ≠ Dn := hdi
    have hnl : (nodeItems (R.take i)).length = i := by rw [List.length_map, List.length_take]; omega
    clear F1 N1 F2
    k_steps
    · have e0 : (cyc R i).a = (cyc R 0).a := by assumption
      have h0 : 0 < i := by
        have : (0 : Int) < ((nodeItems (List.take i R)).toArray.size : Nat) := by assumption
        rw [List.size_toArray, hnl] at this
        omega
      have hie : R.length ≤ i := Classical.byContradiction fun hc => cyc_ne hRc.nodupa (by omega) (by omega) (by omega) e0
      refine hret _ _ c _ _ (by k_asm) (news_tail (by k_asm)) ⟨rfl, fun p hp => ?_, hk, n, ?_⟩
      · rw [List.mem_singleton.mp hp]; exact congrArg some hv0.symm
      · rwa [List.take_of_length_le hie] at hn
    all_goals
      have hil : i < R.length := by
        refine Nat.lt_of_le_of_ne hiR fun e => ?_
        first
          | exact absurd (show (cyc R i).a = (cyc R 0).a by rw [show i = 0 + R.length by omega, cyc_add]) (by assumption)
          | exact absurd (show (0 : Int) < ((nodeItems (List.take i R)).toArray.size : Nat) by rw [List.size_toArray, hnl, e]; exact Int.ofNat_lt.mpr (List.length_pos_iff.mpr hne0)) (by assumption)
      unfold Hold
      (rename Fr _ _ _ _ => F4); (rename News _ _ _ _ => N4)
      refine fl_end (upd Dn (listOf ((nodeItems (List.take i R)).toArray.push (Value.ref (cyc R i).a)) (n + 1)) c) F4 N4 (upd_ne (.head _) (Ne.symm (off2 _ hn))) (fun p hp => List.mem_cons_of_mem _ hp) (fun p hp => ?_) ⟨fun p hp => ?_, hil, fun p hp hn' => upd_ne (hk p hp hn') hn', n + 1, ?_⟩
      · rcases upd_mem hp with rfl | ⟨hp, _⟩
        · have := off2 _ hn; exact this
        · exact off2 _ hp
      · rcases List.mem_cons.mp hp with rfl | hp
        · exact congrArg some hv0.symm
        · rw [List.mem_singleton.mp hp]
          show some (Value.ref (cyc R (i + 1)).a) = some (nodeV R (i + 1))
          unfold nodeV; rw [if_neg hne0]
      · have e : (nodeItems (List.take i R)).toArray.push (Value.ref (cyc R i).a) = (nodeItems (List.take (i + 1) R)).toArray := by
          rw [List.push_toArray]
          show (nodeItems (List.take i R) ++ [Value.ref (cyc R i).a]).toArray = _
          rw [take_snoc (a := cyc R i) (by rw [cyc_lt hil]; exact List.getElem?_eq_getElem hil)]
          simp only [nodeItems, List.map_append, List.map_cons, List.map_nil]
        rw [← e]
        exact upd_self hn
end Mine
end

namespace Mine
theorem fresh_G14 : True := by w_top off; first | walk1 | trivial
end Mine

section
open PySem PySem.W PyProof.Rows PySem.Calls PySem.Spec
set_option maxRecDepth 100000
set_option maxHeartbeats 1000000
namespace Mine
open LCg
local macro_rules | `(tactic| k_mem) => `(tactic| first | assumption | exact upd_self (by assumption) | (refine upd_ne ?_ (by first | assumption | (apply Ne.symm; assumption)); k_mem))
local macro_rules | `(tactic| walk_at "eval ListComp") => `(tactic| (refine Hold.out ?_))
local macro_rules | `(tactic| walk_at "exec Assign cons ListComp") => `(tactic| fail "no")
local macro_rules | `(tactic| walk_at "storeName") => `(tactic| (k_here; k_dflt (refine' store_cellU ?zsF ?zsN ?zsc ?zsm ?zsd ?zsk ?zsl ?_; (case zsF => k_asm); (case zsN => k_asm); (case zsc => rfl); (case zsm => k_mem); (case zsd => k_asm); (case zsk => rfl); (case zsl => rfl)); intro h' o' F' N' d' kp'; (try k_sweep)))
local macro_rules | `(tactic| walk_at "CompSrc") => `(tactic| (refine Hold.out ?_))
local macro_rules | `(tactic| walk_at "CompSrcT") => `(tactic| (refine Hold.out ?_))
local macro_rules | `(tactic| walk_at "newTuple") => `(tactic| (k_here; k_dflt (refine' kup_newTuple ?ztF ?ztN ?_ ?ztz; (case ztF => k_asm); (case ztN => k_asm); (case ztz => kmk_size)); intro D' h' F' N' l1; (try k_sweep)))
local macro_rules | `(tactic| walk_at "subscriptTail Name Slice ref ref") => `(tactic| (k_here; (with_reducible show wpAny _ _ (subscriptTail _ (PySem.Expr.Slice _ _ none _) (Value.ref _) (Value.ref _)) _ _ _); k_dflt (refine' kmk_slice_lit ?slF ?slN ?sll ?slp ?slq ?sle ?_ ?sls ?slt ?slz; (case slF => k_asm); (case slN => k_asm); (case sll => exact News.isList (by k_asm) (by k_mem)); (case slp => kmk_part); (case slq => kmk_part); (case sle => first | exact pick_upto _ (by first | decide | with_reducible assumption | omega) | exact pick_from _ (by first | decide | with_reducible assumption | omega) | exact pick_neg _ (by first | decide | with_reducible assumption | omega)); (case sls => with_unfolding_all rfl); (case slt => kmk_pure); (case slz => exact szL (by first | with_reducible assumption | omega))); intro D' h' F' N' l1; (try k_sweep)))
local macro_rules | `(tactic| walk_at "binaryOp Add ref ref") => `(tactic| (k_here; k_dflt (refine' kmk_add_lit ?adF ?adN ?ada ?adb ?ade ?_ ?adz; (case adF => k_asm); (case adN => k_asm); (case ada => exact News.isList (by k_asm) (by k_mem)); (case adb => exact News.isList (by k_asm) (by k_mem)); (case ade => exact catL _ _); (case adz => exact szLL (by first | with_reducible assumption | (simp only [List.length_take, List.length_drop]; omega)))); intro D' h' F' N' l1; (try k_sweep)))
local macro_rules | `(tactic| walk_at "call ref") => `(tactic| k_extra "my call")
local macro_rules | `(tactic| walk_at "call builtin:len") => `(tactic| (k_here; k_dflt (refine' lenL ?zlN ?zlm ?zlf ?_; (case zlN => k_asm); (case zlm => k_mem); (case zlf => exact fitL (by first | with_reducible assumption | omega | decide)); intro _)))
local macro_rules | `(tactic| walk_at "exec For Name Name cons nil") => `(tactic| (refine Hold.out ?_))
local macro_rules | `(tactic| walk_at "exec For Name Call cons nil") => `(tactic| (refine Hold.out ?_))
local macro_rules | `(tactic| walk_at "pyIter ref") => `(tactic| (refine Hold.out ?_))
local macro_rules | `(tactic| walk_at "FlPost") => `(tactic| (dsimp only [FlPost]))
local macro_rules | `(tactic| walk_at "FlEnd") => `(tactic| (refine Hold.out ?_))
local macro_rules | `(tactic| walk_at "compareOp Is ref ref") => `(tactic| (k_here; k_dflt (refine' is_ref ?N ?a ?b ?c ?_; (case N => k_asm); (case a => k_mem); (case b => k_mem); (case c => intro z; cases z))))
local macro_rules | `(tactic| walk_at "compareOp IsNot ref ref") => `(tactic| (k_here; k_dflt (refine' isnot_ref ?N ?a ?b ?c ?_; (case N => k_asm); (case a => k_mem); (case b => k_mem); (case c => intro z; cases z))))
local macro_rules | `(tactic| walk_at "call builtin:list.append") => `(tactic| (k_here; k_dflt (refine' append_U ?k1 ?k2 ?k3 ?_ ?z; (case k1 => k_asm); (case k2 => k_asm); (case k3 => k_mem); (case z => exact szL (by first | with_reducible assumption | omega)); intro h' F' N'; (try k_sweep))))
local macro_rules | `(tactic| walk_at "subscriptTail Name Name ref int") => `(tactic| k_extra "my item")
local macro_rules | `(tactic| walk_at "subscriptTail Name BinOp ref int") => `(tactic| k_extra "my item")
local macro_rules | `(tactic| walk_at "subscriptTail Name Constant ref int") => `(tactic| k_extra "my item")
local macro_rules | `(tactic| walk_at "subscriptTail Name UnaryOp ref int") => `(tactic| k_extra "my item")
local macro_rules | `(tactic| walk_at "subscriptTail Name Call ref int") => `(tactic| k_extra "my item")
theorem seg6 (w : World) (led0 : Led) (Dn : Addr) (nn : Nat) (R : List RN) (h9 : R.length ≤ 9) (v : Value) :
    Seg w (lawStmt 6) (fun h₀ L m led => led = led0 ∧ Has [(Str.ofString "start", v)] m ∧ Cel led (L + 3) (some (.ref Dn)) ∧ (Dn, listOf (nodeItems R).toArray nn) ∈ led ∧ (R ≠ [] → RingIn w.params led R))
      (fun f L led m' led' => f = .next ∧ Has [(Str.ofString "start", v)] m' ∧ led' = led) := by
  unfold Seg
  k_fill
  intro loose mean mg mb dp un gd cn a ccd outer A₀ base h₀ L m led s Q E B F X N T hd9 hu9 hpre hE hret
  obtain ⟨rfl, hm, ⟨o3, hc3, hd3⟩, hDn, hR⟩ := hpre
  have F3 := fr_kstB hm F
  dsimp only [kstB] at F3
  clear F
  conv in (occs := *) lawScope => all_goals whnf
  conv in lawStmt _ => whnf
  k_with_none
  have hnsz : (nodeItems R).toArray.size = R.length := by simp
  have hnl : (nodeItems R).length ≤ 200 := by rw [List.length_map]; omega
  have hfit : ((nodeItems R).toArray.size : Int) < 2 ^ 63 := by omega
  k_steps
  refine id (α := wpAny _ _ _ _ _ _) ?_
  with_unfolding_all refine wpAny_For ?_ (by intro _; rfl)
  try k_fold
  k_steps
  refine id (α := wpAny _ _ _ _ _ _) ?_
  (rename Fr _ _ _ _ => F1); (rename News _ _ _ _ => N1); (rename IsRange _ _ _ _ _ _ _ _ => R1)
  with_unfolding_all refine for_range (σ := Unit) (n := R.length) (fun _ => led) (fun i _ m => Has [(Str.ofString "start", v)] m) () rfl R1 ?sm ?rs F1 N1 ?hj ?turn ?done (by intro _ _; rfl) hE
  case sm => exact small_one (by omega) (by omega) (by omega) (by omega)
  case rs => rw [hnsz]; exact rangeSize_nat _ _
  case hj => exact Has.cons rfl Has.nil
  case done =>
    rintro c m₁ h tk hm2 F2 N2
    clear F1 N1
    k_steps
    exact hret _ _ _ _ _ (by k_asm) (by k_asm) ⟨rfl, hm2, rfl⟩
  case turn =>
    rintro i tk' c m₁ h tk I oI hi hm2 F2 N2 off2
    have hne0 : R ≠ [] := fun e => by rw [e] at hi; exact Nat.not_lt_zero _ hi
    have hRn := hR hne0
    have F3 := fr_kstB hm2 F2
    dsimp only [kstB] at F3
    have h1 : (nodeItems R).toArray[((0 + (i : Int) - 1) % ((nodeItems R).toArray.size : Int)).toNat]? = some (.ref (cyc R (i + R.length - 1)).a) := by
      have : ((0 + (i : Int) - 1) % (R.length : Int)).toNat = (i + R.length - 1) % R.length := by
        rw [show (0 + (i : Int) - 1) % (R.length : Int) = ((i + R.length - 1 : Nat) : Int) % (R.length : Int) by rw [← Int.add_emod_right]; congr 1; omega]
        omega
      rw [hnsz, this, ← cyc_mod, cyc_lt (Nat.mod_lt _ (by omega))]
      simp [Nat.mod_lt _ (show 0 < R.length by omega)]
    have h2 : (nodeItems R).toArray[((0 + (i : Int)) % ((nodeItems R).toArray.size : Int)).toNat]? = some (.ref (cyc R i).a) := by
      have : ((0 + (i : Int)) % (R.length : Int)).toNat = i := by
        rw [Int.emod_eq_of_lt (by omega) (by omega)]; omega
      rw [hnsz, this, cyc_lt hi]
      simp [hi]
    obtain ⟨p0, p1, p2, p3⟩ := hRn.node i
    have hq := hRn.node (i + R.length - 1)
    rw [show i + R.length - 1 + 1 = i + R.length by omega, cyc_add] at hq
    obtain ⟨q0, q1, q2, q3⟩ := hq
    clear F1 N1 F2
    k_with "my item" => k_dflt (refine' itemC ?ziN ?zim ?zia ?zib ?zic ?zid ?_ ?zie; (case ziN => k_asm); (case zim => exact List.mem_cons_of_mem _ hDn); (case zia => omega); (case zib => omega); (case zic => exact hfit); (case zid => first | exact h1 | exact h2); (case zie => with_unfolding_all rfl))
    k_steps
    all_goals first
      | exact absurd (rfl : ((cyc R (i + R.length - 1)).r (cyc R (i + R.length - 1 + R.length - 1)).a (cyc R i).a).nx = (cyc R i).a) (by assumption)
      | exact absurd (rfl : ((cyc R i).r (cyc R (i + R.length - 1)).a (cyc R (i + 1)).a).pv = (cyc R (i + R.length - 1)).a) (by assumption)
      | (unfold Hold
         (rename Fr _ _ _ _ => F4); (rename News _ _ _ _ => N4)
         exact fl_end () F4 N4 List.mem_cons_self (fun p hp => List.mem_cons_of_mem _ hp) off2 (Has.cons rfl Has.nil))
end Mine
end

namespace Mine
theorem fresh_G15 : True := by w_top off; first | walk1 | trivial
end Mine

section
open PySem PySem.W PyProof.Rows PySem.Calls PySem.Spec
set_option maxRecDepth 100000
set_option maxHeartbeats 1000000
namespace Mine
open LCg
local macro_rules | `(tactic| k_mem) => `(tactic| first | assumption | exact upd_self (by assumption) | (refine upd_ne ?_ (by first | assumption | (apply Ne.symm; assumption)); k_mem))
local macro_rules | `(tactic| walk_at "eval ListComp") => `(tactic| (refine Hold.out ?_))
local macro_rules | `(tactic| walk_at "exec Assign cons ListComp") => `(tactic| fail "no")
local macro_rules | `(tactic| walk_at "storeName") => `(tactic| (k_here; k_dflt (refine' store_cellU ?zsF ?zsN ?zsc ?zsm ?zsd ?zsk ?zsl ?_; (case zsF => k_asm); (case zsN => k_asm); (case zsc => rfl); (case zsm => k_mem); (case zsd => k_asm); (case zsk => rfl); (case zsl => rfl)); intro h' o' F' N' d' kp'; (try k_sweep)))
local macro_rules | `(tactic| walk_at "CompSrc") => `(tactic| (refine Hold.out ?_))
local macro_rules | `(tactic| walk_at "CompSrcT") => `(tactic| (refine Hold.out ?_))
local macro_rules | `(tactic| walk_at "newTuple") => `(tactic| (k_here; k_dflt (refine' kup_newTuple ?ztF ?ztN ?_ ?ztz; (case ztF => k_asm); (case ztN => k_asm); (case ztz => kmk_size)); intro D' h' F' N' l1; (try k_sweep)))
local macro_rules | `(tactic| walk_at "subscriptTail Name Slice ref ref") => `(tactic| (k_here; (with_reducible show wpAny _ _ (subscriptTail _ (PySem.Expr.Slice _ _ none _) (Value.ref _) (Value.ref _)) _ _ _); k_dflt (refine' kmk_slice_lit ?slF ?slN ?sll ?slp ?slq ?sle ?_ ?sls ?slt ?slz; (case slF => k_asm); (case slN => k_asm); (case sll => exact News.isList (by k_asm) (by k_mem)); (case slp => kmk_part); (case slq => kmk_part); (case sle => first | exact pick_upto _ (by first | decide | with_reducible assumption | omega) | exact pick_from _ (by first | decide | with_reducible assumption | omega) | exact pick_neg _ (by first | decide | with_reducible assumption | omega)); (case sls => with_unfolding_all rfl); (case slt => kmk_pure); (case slz => exact szL (by first | with_reducible assumption | omega))); intro D' h' F' N' l1; (try k_sweep)))
local macro_rules | `(tactic| walk_at "binaryOp Add ref ref") => `(tactic| (k_here; k_dflt (refine' kmk_add_lit ?adF ?adN ?ada ?adb ?ade ?_ ?adz; (case adF => k_asm); (case adN => k_asm); (case ada => exact News.isList (by k_asm) (by k_mem)); (case adb => exact News.isList (by k_asm) (by k_mem)); (case ade => exact catL _ _); (case adz => exact szLL (by first | with_reducible assumption | (simp only [List.length_take, List.length_drop]; omega)))); intro D' h' F' N' l1; (try k_sweep)))
local macro_rules | `(tactic| walk_at "call ref") => `(tactic| k_extra "my call")
local macro_rules | `(tactic| walk_at "call builtin:len") => `(tactic| (k_here; k_dflt (refine' lenL ?zlN ?zlm ?zlf ?_; (case zlN => k_asm); (case zlm => k_mem); (case zlf => exact fitL (by first | with_reducible assumption | omega | decide)); intro _)))
local macro_rules | `(tactic| walk_at "exec For Name Name cons nil") => `(tactic| (refine Hold.out ?_))
local macro_rules | `(tactic| walk_at "exec For Name Call cons nil") => `(tactic| (refine Hold.out ?_))
local macro_rules | `(tactic| walk_at "pyIter ref") => `(tactic| (refine Hold.out ?_))
local macro_rules | `(tactic| walk_at "FlPost") => `(tactic| (dsimp only [FlPost]))
local macro_rules | `(tactic| walk_at "FlEnd") => `(tactic| (refine Hold.out ?_))
local macro_rules | `(tactic| walk_at "compareOp Is ref ref") => `(tactic| (k_here; k_dflt (refine' is_ref ?N ?a ?b ?c ?_; (case N => k_asm); (case a => k_mem); (case b => k_mem); (case c => intro z; cases z))))
local macro_rules | `(tactic| walk_at "compareOp IsNot ref ref") => `(tactic| (k_here; k_dflt (refine' isnot_ref ?N ?a ?b ?c ?_; (case N => k_asm); (case a => k_mem); (case b => k_mem); (case c => intro z; cases z))))
local macro_rules | `(tactic| walk_at "call builtin:list.append") => `(tactic| (k_here; k_dflt (refine' append_U ?k1 ?k2 ?k3 ?_ ?z; (case k1 => k_asm); (case k2 => k_asm); (case k3 => k_mem); (case z => exact szL (by first | with_reducible assumption | omega)); intro h' F' N'; (try k_sweep))))
local macro_rules | `(tactic| walk_at "subscriptTail Name Name ref int") => `(tactic| k_extra "my item")
local macro_rules | `(tactic| walk_at "subscriptTail Name BinOp ref int") => `(tactic| k_extra "my item")
local macro_rules | `(tactic| walk_at "subscriptTail Name Constant ref int") => `(tactic| k_extra "my item")
local macro_rules | `(tactic| walk_at "subscriptTail Name UnaryOp ref int") => `(tactic| k_extra "my item")
local macro_rules | `(tactic| walk_at "subscriptTail Name Call ref int") => `(tactic| k_extra "my item")
def ordB (pts : List PtR) (R : List RN) (i j : Nat) : Bool := decide ((pts[j]?.map (·.a)) = some (cyc R i).pt)
theorem seg7 (w : World) (led0 : Led) (Dn D1 : Addr) (nn n1 : Nat) (R : List RN) (pts : List PtR) (h9 : R.length ≤ 9) (hp9 : pts.length ≤ 9) (v : Value) (hRp : ∀ r ∈ R, ∃ p ∈ pts, NP r p) :
    Seg w (lawStmt 7) (fun h₀ L m led => led = led0 ∧ Has [(Str.ofString "start", v)] m ∧ Cel led (L + 2) (some (.ref D1)) ∧ Cel led (L + 3) (some (.ref Dn)) ∧ Cel led (L + 4) none ∧ (Dn, listOf (nodeItems R).toArray nn) ∈ led ∧ (D1, listOf (ptItems pts) n1) ∈ led ∧ (R ≠ [] → RingIn w.params led R) ∧ (∀ p ∈ pts, PtAt w.params led p))
      (fun f L led m' led' => f = .next ∧ Has [(Str.ofString "start", v)] m' ∧ Kp (L + 4) led led' ∧ ∃ D ys n, Cel led' (L + 4) (some (.ref D)) ∧ (D, listOf ys.toArray n) ∈ led' ∧ NumsV ys (pick2 (ordB pts R) pts.length R.length)) := by
  unfold Seg
  k_fill
  intro loose mean mg mb dp un gd cn a ccd outer A₀ base h₀ L m led s Q E B F X N T hd9 hu9 hpre hE hret
  obtain ⟨rfl, hm, ⟨o2, hc2, hd2⟩, ⟨o3, hc3, hd3⟩, ⟨o4, hc4, hd4⟩, hDn, hD1, hR, hP⟩ := hpre
  have F3 := fr_kstB hm F
  dsimp only [kstB] at F3
  clear F
  conv in (occs := *) lawScope => all_goals whnf
  conv in lawStmt _ => whnf
  k_with_none
  k_steps
  refine id (α := wpAny _ _ _ _ _ _) ?_
  have hptl : (pts.map fun p => Value.ref p.a).length ≤ 200 := by rw [List.length_map]; omega
  have hpsz : (ptItems pts).size = pts.length := by simp
  have hsz : (nodeItems R).toArray.size = R.length := by simp
  k_dflt (refine' ListComp_2 (n2 := pts.length) (b := ordB pts R) ?X F3 N hDn (.inl rfl) ⟨_, rfl⟩ ?clos (by decide) ?h0 ?fin)
  case clos => rfl
  case h0 =>
    intro Q' hQ
    k_steps
    exact hQ
  case fin =>
    intro D h tk ys F2 N2 offD hys
    have hc4 := List.mem_cons_of_mem (D, lst ys) hc4
    clear N F3
    k_steps
    rename Kp _ _ _ => kp
    rw [hsz] at hys
    exact hret _ _ _ _ _ (by k_asm) (by k_asm) ⟨rfl, Has.cons rfl Has.nil, (Kp.sub fun p hp => List.mem_cons_of_mem _ hp).trans kp, D, ys, _, ⟨_, upd_self hc4, by assumption⟩, kp.obj _ List.mem_cons_self (fun v h => by cases h), hys⟩
  case X =>
    refine ⟨rfl, ?_, by omega, by decide, rfl, rfl, rfl, by decide, by decide, ?_, ?_, fun _ _ => rfl⟩
    · rw [hsz]; exact Nat.le_trans (Nat.mul_le_mul h9 hp9) (by decide)
    · intro i v I oI C oC D ys m₂ h tk E' hi hv hC hx F2 N2
      have hc2 := List.mem_cons_of_mem (I, oI) (List.mem_cons_of_mem (C, oC) (List.mem_cons_of_mem (D, lst ys) hc2))
      have hD1 := List.mem_cons_of_mem (I, oI) (List.mem_cons_of_mem (C, oC) (List.mem_cons_of_mem (D, lst ys) hD1))
      clear N F3
      k_steps
      all_goals first | exact F2 | exact N2 | assumption | (rw [← hpsz]; assumption)
    · intro i v j tkj I1 oI1 I oI C oC D ys m₂ h tk E' hi hv hj hC hx hy F2 N2
      have hi : i < R.length := by rwa [hsz] at hi
      have hne0 : R ≠ [] := fun e => by rw [e] at hi; exact Nat.not_lt_zero _ hi
      obtain rfl : v = .ref (cyc R i).a := by
        rw [cyc_lt hi]
        simp [hi] at hv
        exact hv.symm
      obtain ⟨n0, n1', _, _⟩ := (hR hne0).node i
      have up : ∀ q ∈ led, q ∈ (I1, oI1) :: (I, oI) :: (C, oC) :: (D, lst ys) :: led := fun q hq => .tail _ (.tail _ (.tail _ (.tail _ hq)))
      have n0 := up _ n0
      have n1' := up _ n1'
      have hc2 := up _ hc2
      have hD1 := up _ hD1
      obtain ⟨pr, hpr, hpt, _⟩ := hRp (cyc R i) (cyc_mem (by omega) i)
      have hq0 := up _ (hP pr hpr).1
      have hpj0 := up _ (hP pts[j] (List.getElem_mem hj)).1
      rw [← hpt] at hq0
      have hidx : (ptItems pts)[((j : Int) % ((ptItems pts).size : Int)).toNat]? = some (.ref pts[j].a) := by
        rw [hpsz, Int.emod_eq_of_lt (by omega) (by omega), Int.toNat_natCast]
        simp [hj]
      have hob : ordB pts R i j = decide (pts[j].a = (cyc R i).pt) := by
        unfold ordB
        rw [List.getElem?_eq_getElem hj]
        simp
      rw [hob]
      clear N F3
      k_with "my item" => k_dflt (refine' itemC ?ziN ?zim ?zia ?zib ?zic ?zid ?_ ?zie; (case ziN => k_asm); (case zim => exact hD1); (case zia => omega); (case zib => omega); (case zic => omega); (case zid => exact hidx); (case zie => with_unfolding_all rfl))
      k_steps
      all_goals first | exact F2 | exact N2 | assumption
end Mine
end

namespace Mine
theorem fresh_G16 : True := by w_top off; first | walk1 | trivial
end Mine

section
open PySem PySem.W PyProof.Rows PySem.Calls PySem.Spec
set_option maxRecDepth 100000
set_option maxHeartbeats 1000000
namespace Mine
open LCg
local macro_rules | `(tactic| k_mem) => `(tactic| first | assumption | exact upd_self (by assumption) | (refine upd_ne ?_ (by first | assumption | (apply Ne.symm; assumption)); k_mem))
local macro_rules | `(tactic| walk_at "eval ListComp") => `(tactic| (refine Hold.out ?_))
local macro_rules | `(tactic| walk_at "exec Assign cons ListComp") => `(tactic| fail "no")
local macro_rules | `(tactic| walk_at "storeName") => `(tactic| (k_here; k_dflt (refine' store_cellU ?zsF ?zsN ?zsc ?zsm ?zsd ?zsk ?zsl ?_; (case zsF => k_asm); (case zsN => k_asm); (case zsc => rfl); (case zsm => k_mem); (case zsd => k_asm); (case zsk => rfl); (case zsl => rfl)); intro h' o' F' N' d' kp'; (try k_sweep)))
local macro_rules | `(tactic| walk_at "CompSrc") => `(tactic| (refine Hold.out ?_))
local macro_rules | `(tactic| walk_at "CompSrcT") => `(tactic| (refine Hold.out ?_))
local macro_rules | `(tactic| walk_at "newTuple") => `(tactic| (k_here; k_dflt (refine' kup_newTuple ?ztF ?ztN ?_ ?ztz; (case ztF => k_asm); (case ztN => k_asm); (case ztz => kmk_size)); intro D' h' F' N' l1; (try k_sweep)))
local macro_rules | `(tactic| walk_at "subscriptTail Name Slice ref ref") => `(tactic| (k_here; (with_reducible show wpAny _ _ (subscriptTail _ (PySem.Expr.Slice _ _ none _) (Value.ref _) (Value.ref _)) _ _ _); k_dflt (refine' kmk_slice_lit ?slF ?slN ?sll ?slp ?slq ?sle ?_ ?sls ?slt ?slz; (case slF => k_asm); (case slN => k_asm); (case sll => exact News.isList (by k_asm) (by k_mem)); (case slp => kmk_part); (case slq => kmk_part); (case sle => first | exact pick_upto _ (by first | decide | with_reducible assumption | omega) | exact pick_from _ (by first | decide | with_reducible assumption | omega) | exact pick_neg _ (by first | decide | with_reducible assumption | omega)); (case sls => with_unfolding_all rfl); (case slt => kmk_pure); (case slz => exact szL (by first | with_reducible assumption | omega))); intro D' h' F' N' l1; (try k_sweep)))
local macro_rules | `(tactic| walk_at "binaryOp Add ref ref") => `(tactic| (k_here; k_dflt (refine' kmk_add_lit ?adF ?adN ?ada ?adb ?ade ?_ ?adz; (case adF => k_asm); (case adN => k_asm); (case ada => exact News.isList (by k_asm) (by k_mem)); (case adb => exact News.isList (by k_asm) (by k_mem)); (case ade => exact catL _ _); (case adz => exact szLL (by first | with_reducible assumption | (simp only [List.length_take, List.length_drop]; omega)))); intro D' h' F' N' l1; (try k_sweep)))
local macro_rules | `(tactic| walk_at "call ref") => `(tactic| k_extra "my call")
local macro_rules | `(tactic| walk_at "call builtin:len") => `(tactic| (k_here; k_dflt (refine' lenL ?zlN ?zlm ?zlf ?_; (case zlN => k_asm); (case zlm => k_mem); (case zlf => exact fitL (by first | with_reducible assumption | omega | decide)); intro _)))
local macro_rules | `(tactic| walk_at "exec For Name Name cons nil") => `(tactic| (refine Hold.out ?_))
local macro_rules | `(tactic| walk_at "exec For Name Call cons nil") => `(tactic| (refine Hold.out ?_))
local macro_rules | `(tactic| walk_at "pyIter ref") => `(tactic| (refine Hold.out ?_))
local macro_rules | `(tactic| walk_at "FlPost") => `(tactic| (dsimp only [FlPost]))
local macro_rules | `(tactic| walk_at "FlEnd") => `(tactic| (refine Hold.out ?_))
local macro_rules | `(tactic| walk_at "compareOp Is ref ref") => `(tactic| (k_here; k_dflt (refine' is_ref ?N ?a ?b ?c ?_; (case N => k_asm); (case a => k_mem); (case b => k_mem); (case c => intro z; cases z))))
local macro_rules | `(tactic| walk_at "compareOp IsNot ref ref") => `(tactic| (k_here; k_dflt (refine' isnot_ref ?N ?a ?b ?c ?_; (case N => k_asm); (case a => k_mem); (case b => k_mem); (case c => intro z; cases z))))
local macro_rules | `(tactic| walk_at "call builtin:list.append") => `(tactic| (k_here; k_dflt (refine' append_U ?k1 ?k2 ?k3 ?_ ?z; (case k1 => k_asm); (case k2 => k_asm); (case k3 => k_mem); (case z => exact szL (by first | with_reducible assumption | omega)); intro h' F' N'; (try k_sweep))))
local macro_rules | `(tactic| walk_at "subscriptTail Name Name ref int") => `(tactic| k_extra "my item")
local macro_rules | `(tactic| walk_at "subscriptTail Name BinOp ref int") => `(tactic| k_extra "my item")
local macro_rules | `(tactic| walk_at "subscriptTail Name Constant ref int") => `(tactic| k_extra "my item")
local macro_rules | `(tactic| walk_at "subscriptTail Name UnaryOp ref int") => `(tactic| k_extra "my item")
local macro_rules | `(tactic| walk_at "subscriptTail Name Call ref int") => `(tactic| k_extra "my item")
theorem earcut_none (w : World) (led : Led) (told : Addr) (t1 t2 t3 t4 : Tok) :
    Spec w 9 90 (.ref 134) [.none, .ref told, .int 0 t1, .int 0 t2, .int 0 t3, .int 2 t4] led (fun v led' => led' = led) := by
  unfold Spec
  k_fill
  intro loose mean mg mb dp un gd cn cs a ccd cl outer A₀ base h₀ L m s Q E B F X N T hk hd9 hu9 hret
  k_with_none
  refine wpAny_call ?_
  k_dflt ktr_enter
  k_steps
  all_goals exact hret _ _ _ _ (by k_asm) (by k_asm) rfl
/-- told = [] -/
theorem seg8 (w : World) (v : Value) :
    Seg w (lawStmt 8) (fun h₀ L m led => Has [(Str.ofString "start", v)] m)
      (fun f L led m' led' => f = .next ∧ ∃ D n, Has [(Str.ofString "start", v), (Str.ofString "told", .ref D)] m' ∧ (D, listOf [].toArray n) ∈ led' ∧ (∀ p ∈ led, p ∈ led') ∧ (∀ p ∈ led, p.1 ≠ D)) := by
  unfold Seg
  k_fill
  intro loose mean mg mb dp un gd cn a ccd outer A₀ base h₀ L m led s Q E B F X N T hd9 hu9 hpre hE hret
  have F3 := fr_kstB hpre F
  dsimp only [kstB] at F3
  clear F
  conv in (occs := *) lawScope => all_goals whnf
  conv in lawStmt _ => whnf
  k_with_none
  k_steps
  (rename ∀ (p : Addr × Obj), p ∈ led → _ => lt)
  exact hret _ _ _ _ _ (by k_asm) (by k_asm) ⟨rfl, _, _, Has.cons rfl (Has.cons rfl Has.nil), List.mem_cons_self, fun p hp => List.mem_cons_of_mem _ hp, fun p hp => Nat.ne_of_lt (lt p hp)⟩
theorem seg9 (w : World) (v : Value) (led0 : Led) (T : Addr) (nt : Nat) (R : List RN) (h9 : R.length ≤ 9) (hv : v = nodeV R 0) :
    Seg w (lawStmt 9) (fun h₀ L m led => led = led0 ∧ Has [(Str.ofString "start", v), (Str.ofString "told", .ref T)] m ∧ (T, listOf [].toArray nt) ∈ led ∧ (R ≠ [] → RingIn w.params led R))
      (fun f L led m' led' => f = .next ∧ Has [(Str.ofString "start", v), (Str.ofString "told", .ref T)] m' ∧
        ((R = [] ∧ led' = led) ∨ (R ≠ [] ∧ ∃ c, c.led = led' ∧ EcP w.params led R T c ∧ (c.ring.length ≤ 2 ∨ ∀ j, j < c.ring.length → ¬ Ear (rotN j c.ring))))) := by
  unfold Seg
  k_fill
  intro loose mean mg mb dp un gd cn a ccd outer A₀ base h₀ L m led s Q E B F X N TT hd9 hu9 hpre hE hret
  obtain ⟨rfl, hm, hT, hR⟩ := hpre
  by_cases hne : R = []
  · have hv0 : v = .none := by rw [hv]; unfold nodeV; rw [if_pos hne]
    subst hv0
    have F3 := fr_kstB hm F
    dsimp only [kstB] at F3
    clear F
    conv in (occs := *) lawScope => all_goals whnf
    conv in lawStmt _ => whnf
    k_with_none
    k_with "my call" => k_dflt (refine' Spec.use (earcut_none w led T _ _ _ _) ?k1 ?k2 ?k3 ?k4 ?k5 ?kK ?kd ?ku ?_; (case k1 => k_asm); (case k2 => k_asm); (case k3 => k_asm); (case k4 => k_asm); (case k5 => k_asm); (case kK => exact rfl); (case kd => ktr_room); (case ku => ktr_units); intro r9 led9 h9 tk9 F9 N9 ho9; have e9 := ho9.symm; subst e9; (try k_sweep); (try k_fold))
    k_steps
    exact hret _ _ _ _ _ (by k_asm) (by k_asm) ⟨rfl, Has.cons rfl (Has.cons rfl Has.nil), .inl ⟨hne, rfl⟩⟩
  · have hv0 : v = .ref (cyc R 0).a := by rw [hv]; unfold nodeV; rw [if_neg hne]
    subst hv0
    have hlen : 1 ≤ R.length := List.length_pos_iff.mpr hne
    have hRn := hR hne
    have F3 := fr_kstB hm F
    dsimp only [kstB] at F3
    clear F
    conv in (occs := *) lawScope => all_goals whnf
    conv in lawStmt _ => whnf
    k_with_none
    k_with "my call" => k_dflt (refine' Spec.use (earcut_spec w led R T nt _ _ _ _ hRn hlen (by omega) hT) ?k1 ?k2 ?k3 ?k4 ?k5 ?kK ?kd ?ku ?_; (case k1 => k_asm); (case k2 => k_asm); (case k3 => k_asm); (case k4 => k_asm); (case k5 => k_asm); (case kK => exact rfl); (case kd => ktr_room); (case ku => ktr_units); intro r9 led9 h9 tk9 F9 N9 ho9; obtain ⟨e9, ho9⟩ := ho9; subst e9; (try k_sweep); (try k_fold))
    k_steps
    exact hret _ _ _ _ _ (by k_asm) (by k_asm) ⟨rfl, Has.cons rfl (Has.cons rfl Has.nil), .inr ⟨hne, by assumption⟩⟩
end Mine
end

namespace Mine
theorem fresh_G17 : True := by w_top off; first | walk1 | trivial
end Mine

section
open PySem PySem.W PyProof.Rows PySem.Calls PySem.Spec
set_option maxRecDepth 100000
set_option maxHeartbeats 1000000
namespace Mine
open LCg
local macro_rules | `(tactic| k_mem) => `(tactic| first | assumption | exact upd_self (by assumption) | (refine upd_ne ?_ (by first | assumption | (apply Ne.symm; assumption)); k_mem))
local macro_rules | `(tactic| walk_at "eval ListComp") => `(tactic| (refine Hold.out ?_))
local macro_rules | `(tactic| walk_at "exec Assign cons ListComp") => `(tactic| fail "no")
local macro_rules | `(tactic| walk_at "storeName") => `(tactic| (k_here; k_dflt (refine' store_cellU ?zsF ?zsN ?zsc ?zsm ?zsd ?zsk ?zsl ?_; (case zsF => k_asm); (case zsN => k_asm); (case zsc => rfl); (case zsm => k_mem); (case zsd => k_asm); (case zsk => rfl); (case zsl => rfl)); intro h' o' F' N' d' kp'; (try k_sweep)))
local macro_rules | `(tactic| walk_at "CompSrc") => `(tactic| (refine Hold.out ?_))
local macro_rules | `(tactic| walk_at "CompSrcT") => `(tactic| (refine Hold.out ?_))
local macro_rules | `(tactic| walk_at "newTuple") => `(tactic| (k_here; k_dflt (refine' kup_newTuple ?ztF ?ztN ?_ ?ztz; (case ztF => k_asm); (case ztN => k_asm); (case ztz => kmk_size)); intro D' h' F' N' l1; (try k_sweep)))
local macro_rules | `(tactic| walk_at "subscriptTail Name Slice ref ref") => `(tactic| (k_here; (with_reducible show wpAny _ _ (subscriptTail _ (PySem.Expr.Slice _ _ none _) (Value.ref _) (Value.ref _)) _ _ _); k_dflt (refine' kmk_slice_lit ?slF ?slN ?sll ?slp ?slq ?sle ?_ ?sls ?slt ?slz; (case slF => k_asm); (case slN => k_asm); (case sll => exact News.isList (by k_asm) (by k_mem)); (case slp => kmk_part); (case slq => kmk_part); (case sle => first | exact pick_upto _ (by first | decide | with_reducible assumption | omega) | exact pick_from _ (by first | decide | with_reducible assumption | omega) | exact pick_neg _ (by first | decide | with_reducible assumption | omega)); (case sls => with_unfolding_all rfl); (case slt => kmk_pure); (case slz => exact szL (by first | with_reducible assumption | omega))); intro D' h' F' N' l1; (try k_sweep)))
local macro_rules | `(tactic| walk_at "binaryOp Add ref ref") => `(tactic| (k_here; k_dflt (refine' kmk_add_lit ?adF ?adN ?ada ?adb ?ade ?_ ?adz; (case adF => k_asm); (case adN => k_asm); (case ada => exact News.isList (by k_asm) (by k_mem)); (case adb => exact News.isList (by k_asm) (by k_mem)); (case ade => exact catL _ _); (case adz => exact szLL (by first | with_reducible assumption | (simp only [List.length_take, List.length_drop]; omega)))); intro D' h' F' N' l1; (try k_sweep)))
local macro_rules | `(tactic| walk_at "call ref") => `(tactic| k_extra "my call")
local macro_rules | `(tactic| walk_at "call builtin:len") => `(tactic| (k_here; k_dflt (refine' lenL ?zlN ?zlm ?zlf ?_; (case zlN => k_asm); (case zlm => k_mem); (case zlf => exact fitL (by first | with_reducible assumption | omega | decide)); intro _)))
local macro_rules | `(tactic| walk_at "exec For Name Name cons nil") => `(tactic| (refine Hold.out ?_))
local macro_rules | `(tactic| walk_at "exec For Name Call cons nil") => `(tactic| (refine Hold.out ?_))
local macro_rules | `(tactic| walk_at "pyIter ref") => `(tactic| (refine Hold.out ?_))
local macro_rules | `(tactic| walk_at "FlPost") => `(tactic| (dsimp only [FlPost]))
local macro_rules | `(tactic| walk_at "FlEnd") => `(tactic| (refine Hold.out ?_))
local macro_rules | `(tactic| walk_at "compareOp Is ref ref") => `(tactic| (k_here; k_dflt (refine' is_ref ?N ?a ?b ?c ?_; (case N => k_asm); (case a => k_mem); (case b => k_mem); (case c => intro z; cases z))))
local macro_rules | `(tactic| walk_at "compareOp IsNot ref ref") => `(tactic| (k_here; k_dflt (refine' isnot_ref ?N ?a ?b ?c ?_; (case N => k_asm); (case a => k_mem); (case b => k_mem); (case c => intro z; cases z))))
local macro_rules | `(tactic| walk_at "call builtin:list.append") => `(tactic| (k_here; k_dflt (refine' append_U ?k1 ?k2 ?k3 ?_ ?z; (case k1 => k_asm); (case k2 => k_asm); (case k3 => k_mem); (case z => exact szL (by first | with_reducible assumption | omega)); intro h' F' N'; (try k_sweep))))
local macro_rules | `(tactic| walk_at "subscriptTail Name Name ref int") => `(tactic| k_extra "my item")
local macro_rules | `(tactic| walk_at "subscriptTail Name BinOp ref int") => `(tactic| k_extra "my item")
local macro_rules | `(tactic| walk_at "subscriptTail Name Constant ref int") => `(tactic| k_extra "my item")
local macro_rules | `(tactic| walk_at "subscriptTail Name UnaryOp ref int") => `(tactic| k_extra "my item")
local macro_rules | `(tactic| walk_at "subscriptTail Name Call ref int") => `(tactic| k_extra "my item")
local macro_rules | `(tactic| walk_at "compareOp Eq ref ref") => `(tactic| k_extra "my eq")
local macro_rules | `(tactic| walk_at "compareOp NotEq ref ref") => `(tactic| k_extra "my eq")
/-- if places == [] -/
theorem seg10 (w : World) (v : Value) (led0 : Led) (T D0 : Addr) (nt n0 : Nat) (its : List Value) (ps : List (Int × Int)) (hv : ps = [] → v = .none) :
    Seg w (lawStmt 10) (fun h₀ L m led => led = led0 ∧ Has [(Str.ofString "start", v), (Str.ofString "told", .ref T)] m ∧ Cel led (L + 1) (some (.ref D0)) ∧ (D0, listOf its.toArray n0) ∈ led ∧ All2 (PlV led) its ps ∧ (ps = [] → (T, listOf [].toArray nt) ∈ led))
      (fun f L led m' led' => (ps = [] ∧ f = .ret (.bool true)) ∨ (ps ≠ [] ∧ f = .next ∧ Has [(Str.ofString "start", v), (Str.ofString "told", .ref T)] m' ∧ ∀ p ∈ led, p ∈ led')) := by
  unfold Seg
  k_fill
  intro loose mean mg mb dp un gd cn a ccd outer A₀ base h₀ L m led s Q E B F X N TT hd9 hu9 hpre hE hret
  obtain ⟨rfl, hm, ⟨o1, hc1, hd1⟩, hD0, hP, hT⟩ := hpre
  have hu : un + 64 < cLine := by omega
  by_cases hps : ps = []
  · have hv0 := hv hps
    subst hv0
    subst hps
    have hT := hT rfl
    have F3 := fr_kstB hm F
    dsimp only [kstB] at F3
    clear F
    conv in (occs := *) lawScope => all_goals whnf
    conv in lawStmt _ => whnf
    k_with_none
    have hda := PlV.dats hP
    k_with "my eq" => k_dflt (first
      | (refine' dat_eq ?zqN (DatIn.list (ds := []) (vs := its) (n := n0) ?zqa ?zqA) (DatIn.list (vs := []) (n := 0) ?zqb .nil) ?zqx ?zqy ?zqu ?_; (case zqN => k_asm); (case zqa => exact List.mem_cons_of_mem _ hD0); (case zqA => exact hda.mono fun _ h => List.mem_cons_of_mem _ h); (case zqb => exact List.mem_cons_self); (case zqx => rfl); (case zqy => rfl); (case zqu => exact hu))
      | (refine' dat_eq ?zqN (DatIn.list (ds := []) (vs := []) (n := nt) ?zqa .nil) (DatIn.list (vs := []) (n := 0) ?zqb .nil) ?zqx ?zqy ?zqu ?_; (case zqN => k_asm); (case zqa => exact List.mem_cons_of_mem _ (List.mem_cons_of_mem _ hT)); (case zqb => exact List.mem_cons_self); (case zqx => rfl); (case zqy => rfl); (case zqu => exact hu)))
    k_steps
    all_goals first
      | (rename (_ : Bool) = false => hF; simp at hF; done)
      | exact hret _ _ _ _ _ (by k_asm) (by k_asm) (.inl ⟨rfl, by simp⟩)
  · have F3 := fr_kstB hm F
    dsimp only [kstB] at F3
    clear F
    conv in (occs := *) lawScope => all_goals whnf
    conv in lawStmt _ => whnf
    k_with_none
    have hda := PlV.dats hP
    k_steps
    · have h1 : decide (List.map datP ps = []) = true := by assumption
      simp at h1
      exact absurd h1 hps
    · exact hret _ _ _ _ _ (by k_asm) (by k_asm) (.inr ⟨hps, rfl, Has.cons rfl (Has.cons rfl Has.nil), fun p hp => List.mem_cons_of_mem _ hp⟩)
end Mine
end

namespace Mine
theorem fresh_G18 : True := by w_top off; first | walk1 | trivial
end Mine

section
open PySem PySem.W PyProof.Rows PySem.Calls PySem.Spec
set_option maxRecDepth 100000
set_option maxHeartbeats 1000000
namespace Mine
open LCg
local macro_rules | `(tactic| k_mem) => `(tactic| first | assumption | exact upd_self (by assumption) | (refine upd_ne ?_ (by first | assumption | (apply Ne.symm; assumption)); k_mem))
local macro_rules | `(tactic| walk_at "eval ListComp") => `(tactic| (refine Hold.out ?_))
local macro_rules | `(tactic| walk_at "exec Assign cons ListComp") => `(tactic| fail "no")
local macro_rules | `(tactic| walk_at "storeName") => `(tactic| (k_here; k_dflt (refine' store_cellU ?zsF ?zsN ?zsc ?zsm ?zsd ?zsk ?zsl ?_; (case zsF => k_asm); (case zsN => k_asm); (case zsc => rfl); (case zsm => k_mem); (case zsd => k_asm); (case zsk => rfl); (case zsl => rfl)); intro h' o' F' N' d' kp'; (try k_sweep)))
local macro_rules | `(tactic| walk_at "CompSrc") => `(tactic| (refine Hold.out ?_))
local macro_rules | `(tactic| walk_at "CompSrcT") => `(tactic| (refine Hold.out ?_))
local macro_rules | `(tactic| walk_at "newTuple") => `(tactic| (k_here; k_dflt (refine' kup_newTuple ?ztF ?ztN ?_ ?ztz; (case ztF => k_asm); (case ztN => k_asm); (case ztz => kmk_size)); intro D' h' F' N' l1; (try k_sweep)))
local macro_rules | `(tactic| walk_at "subscriptTail Name Slice ref ref") => `(tactic| (k_here; (with_reducible show wpAny _ _ (subscriptTail _ (PySem.Expr.Slice _ _ none _) (Value.ref _) (Value.ref _)) _ _ _); k_dflt (refine' kmk_slice_lit ?slF ?slN ?sll ?slp ?slq ?sle ?_ ?sls ?slt ?slz; (case slF => k_asm); (case slN => k_asm); (case sll => exact News.isList (by k_asm) (by k_mem)); (case slp => kmk_part); (case slq => kmk_part); (case sle => first | exact pick_upto _ (by first | decide | with_reducible assumption | omega) | exact pick_from _ (by first | decide | with_reducible assumption | omega) | exact pick_neg _ (by first | decide | with_reducible assumption | omega)); (case sls => with_unfolding_all rfl); (case slt => kmk_pure); (case slz => exact szL (by first | with_reducible assumption | omega))); intro D' h' F' N' l1; (try k_sweep)))
local macro_rules | `(tactic| walk_at "binaryOp Add ref ref") => `(tactic| (k_here; k_dflt (refine' kmk_add_lit ?adF ?adN ?ada ?adb ?ade ?_ ?adz; (case adF => k_asm); (case adN => k_asm); (case ada => exact News.isList (by k_asm) (by k_mem)); (case adb => exact News.isList (by k_asm) (by k_mem)); (case ade => exact catL _ _); (case adz => exact szLL (by first | with_reducible assumption | (simp only [List.length_take, List.length_drop]; omega)))); intro D' h' F' N' l1; (try k_sweep)))
local macro_rules | `(tactic| walk_at "call ref") => `(tactic| k_extra "my call")
local macro_rules | `(tactic| walk_at "call builtin:len") => `(tactic| (k_here; k_dflt (refine' lenL ?zlN ?zlm ?zlf ?_; (case zlN => k_asm); (case zlm => k_mem); (case zlf => exact fitL (by first | with_reducible assumption | omega | decide)); intro _)))
local macro_rules | `(tactic| walk_at "exec For Name Name cons nil") => `(tactic| (refine Hold.out ?_))
local macro_rules | `(tactic| walk_at "exec For Name Call cons nil") => `(tactic| (refine Hold.out ?_))
local macro_rules | `(tactic| walk_at "pyIter ref") => `(tactic| (refine Hold.out ?_))
local macro_rules | `(tactic| walk_at "FlPost") => `(tactic| (dsimp only [FlPost]))
local macro_rules | `(tactic| walk_at "FlEnd") => `(tactic| (refine Hold.out ?_))
local macro_rules | `(tactic| walk_at "compareOp Is ref ref") => `(tactic| (k_here; k_dflt (refine' is_ref ?N ?a ?b ?c ?_; (case N => k_asm); (case a => k_mem); (case b => k_mem); (case c => intro z; cases z))))
local macro_rules | `(tactic| walk_at "compareOp IsNot ref ref") => `(tactic| (k_here; k_dflt (refine' isnot_ref ?N ?a ?b ?c ?_; (case N => k_asm); (case a => k_mem); (case b => k_mem); (case c => intro z; cases z))))
local macro_rules | `(tactic| walk_at "call builtin:list.append") => `(tactic| (k_here; k_dflt (refine' append_U ?k1 ?k2 ?k3 ?_ ?z; (case k1 => k_asm); (case k2 => k_asm); (case k3 => k_mem); (case z => exact szL (by first | with_reducible assumption | omega)); intro h' F' N'; (try k_sweep))))
local macro_rules | `(tactic| walk_at "subscriptTail Name Name ref int") => `(tactic| k_extra "my item")
local macro_rules | `(tactic| walk_at "subscriptTail Name BinOp ref int") => `(tactic| k_extra "my item")
local macro_rules | `(tactic| walk_at "subscriptTail Name Constant ref int") => `(tactic| k_extra "my item")
local macro_rules | `(tactic| walk_at "subscriptTail Name UnaryOp ref int") => `(tactic| k_extra "my item")
local macro_rules | `(tactic| walk_at "subscriptTail Name Call ref int") => `(tactic| k_extra "my item")
local macro_rules | `(tactic| walk_at "compareOp Eq ref ref") => `(tactic| k_extra "my eq")
theorem All2.nth {α β : Type} {R : α → β → Prop} {as : List α} {bs : List β} (h : All2 R as bs) {i : Nat} (hi : i < bs.length) : ∃ a, as[i]? = some a ∧ R a bs[i] := by
  have hi' : i < as.length := by rw [h.length]; exact hi
  obtain ⟨b, e, hr⟩ := h.get (List.getElem?_eq_getElem hi')
  rw [List.getElem?_eq_getElem hi] at e
  exact ⟨as[i], List.getElem?_eq_getElem hi', (Option.some.inj e) ▸ hr⟩
def ringOf (ps : List (Int × Int)) : List (Int × Int) := if 1 < ps.length ∧ ps[0]? = ps[ps.length - 1]? then ps.take (ps.length - 1) else ps
/-- ring = .. -/
theorem seg11 (w : World) (v : Value) (mv : List (Str × Value)) (hmv : mv = [(Str.ofString "told", v)]) (led0 : Led) (D0 : Addr) (n0 : Nat) (its : List Value) (ps : List (Int × Int)) (h9 : ps.length ≤ 9) (h2 : 2 ≤ ps.length) :
    Seg w (lawStmt 11) (fun h₀ L m led => led = led0 ∧ Has mv m ∧ Cel led (L + 1) (some (.ref D0)) ∧ Cel led (L + 5) none ∧ (D0, listOf its.toArray n0) ∈ led ∧ All2 (PlV led) its ps)
      (fun f L led m' led' => f = .next ∧ Has mv m' ∧ Kp (L + 5) led led' ∧ ∃ D n its', Cel led' (L + 5) (some (.ref D)) ∧ (D, listOf its'.toArray n) ∈ led' ∧ All2 (PlV led') its' (ringOf ps)) := by
  subst hmv
  unfold Seg
  k_fill
  intro loose mean mg mb dp un gd cn a ccd outer A₀ base h₀ L m led s Q E B F X N TT hd9 hu9 hpre hE hret
  obtain ⟨rfl, hm, ⟨o1, hc1, hd1⟩, ⟨o5, hc5, hd5⟩, hD0, hP⟩ := hpre
  have hu : un + 64 < cLine := by omega
  have hl := hP.length
  have hl9 : its.length ≤ 9 := by omega
  have hsz : its.toArray.size = its.length := by simp
  have F3 := fr_kstB hm F
  dsimp only [kstB] at F3
  clear F
  conv in (occs := *) lawScope => all_goals whnf
  conv in lawStmt _ => whnf
  k_with_none
  obtain ⟨v0, e0, hv0⟩ := hP.nth (i := 0) (by omega)
  obtain ⟨v1, e1, hv1⟩ := hP.nth (i := ps.length - 1) (by omega)
  have i0 : its.toArray[((0 : Int) % (its.toArray.size : Int)).toNat]? = some v0 := by
    rw [hsz]; simpa using e0
  have i1 : its.toArray[((-1 : Int) % (its.toArray.size : Int)).toNat]? = some v1 := by
    rw [hsz, hl, show ((-1 : Int) % (ps.length : Int)).toNat = ps.length - 1 by
      rw [← Int.add_emod_right, Int.emod_eq_of_lt (by omega) (by omega)]; omega]
    simpa using e1
  have d0 := hv0.dat
  have d1 := hv1.dat
  obtain ⟨a0, rfl, _⟩ := hv0
  obtain ⟨a1, rfl, _⟩ := hv1
  have hfit : (its.toArray.size : Int) < 2 ^ 63 := by omega
  k_with "my item" => k_dflt (refine' itemC ?ziN ?zim ?zia ?zib ?zic ?zid ?_ ?zie; (case ziN => k_asm); (case zim => exact hD0); (case zia => omega); (case zib => omega); (case zic => exact hfit); (case zid => first | exact i0 | exact i1); (case zie => with_unfolding_all rfl))
  k_with "my eq" => k_dflt (refine' dat_eq ?zqN d0 d1 ?zqx ?zqy ?zqu ?_; (case zqN => k_asm); (case zqx => rfl); (case zqy => rfl); (case zqu => exact hu))
  k_steps
  · have he : ps[0]? = ps[ps.length - 1]? := by
      rename _ = true => hT
      rw [List.getElem?_eq_getElem (by omega), List.getElem?_eq_getElem (by omega), datP_inj (dec_t hT)]
    have hr : ringOf ps = ps.take (ps.length - 1) := if_pos ⟨by omega, he⟩
    rename Kp _ _ _ => kp
    refine hret _ _ _ _ _ (by k_asm) (by k_asm) ⟨rfl, Has.cons rfl Has.nil, (Kp.sub fun p hp => List.mem_cons_of_mem _ hp).trans kp, _, _, _, ⟨_, upd_self (List.mem_cons_of_mem _ hc5), by assumption⟩, kp.obj _ List.mem_cons_self (fun v h => by cases h), ?_⟩
    rw [hr, ← hl]
    exact ((hP.take _).mono fun _ _ h => (h.mono fun q hq => List.mem_cons_of_mem _ hq).kp kp)
  · have he : ¬ (1 < ps.length ∧ ps[0]? = ps[ps.length - 1]?) := by
      rename _ = false => hF
      rintro ⟨_, h⟩
      rw [List.getElem?_eq_getElem (by omega), List.getElem?_eq_getElem (by omega)] at h
      exact dec_f hF (congrArg datP (Option.some.inj h))
    have hr : ringOf ps = ps := if_neg he
    rename Kp _ _ _ => kp
    refine hret _ _ _ _ _ (by k_asm) (by k_asm) ⟨rfl, Has.cons rfl Has.nil, kp, _, _, _, ⟨_, upd_self hc5, by assumption⟩, kp.obj _ hD0 (fun v h => by cases h), ?_⟩
    rw [hr]
    exact hP.mono fun _ _ h => h.kp kp
end Mine
end

namespace Mine
theorem fresh_G19 : True := by w_top off; first | walk1 | trivial
end Mine

section
open PySem PySem.W PyProof.Rows PySem.Calls PySem.Spec
set_option maxRecDepth 100000
set_option maxHeartbeats 1000000
namespace Mine
open LCg
local macro_rules | `(tactic| k_mem) => `(tactic| first | assumption | exact upd_self (by assumption) | (refine upd_ne ?_ (by first | assumption | (apply Ne.symm; assumption)); k_mem))
local macro_rules | `(tactic| walk_at "eval ListComp") => `(tactic| (refine Hold.out ?_))
local macro_rules | `(tactic| walk_at "exec Assign cons ListComp") => `(tactic| fail "no")
local macro_rules | `(tactic| walk_at "storeName") => `(tactic| (k_here; k_dflt (refine' store_cellU ?zsF ?zsN ?zsc ?zsm ?zsd ?zsk ?zsl ?_; (case zsF => k_asm); (case zsN => k_asm); (case zsc => rfl); (case zsm => k_mem); (case zsd => k_asm); (case zsk => rfl); (case zsl => rfl)); intro h' o' F' N' d' kp'; (try k_sweep)))
local macro_rules | `(tactic| walk_at "CompSrc") => `(tactic| (refine Hold.out ?_))
local macro_rules | `(tactic| walk_at "CompSrcT") => `(tactic| (refine Hold.out ?_))
local macro_rules | `(tactic| walk_at "newTuple") => `(tactic| (k_here; k_dflt (refine' kup_newTuple ?ztF ?ztN ?_ ?ztz; (case ztF => k_asm); (case ztN => k_asm); (case ztz => kmk_size)); intro D' h' F' N' l1; (try k_sweep)))
local macro_rules | `(tactic| walk_at "subscriptTail Name Slice ref ref") => `(tactic| (k_here; (with_reducible show wpAny _ _ (subscriptTail _ (PySem.Expr.Slice _ _ none _) (Value.ref _) (Value.ref _)) _ _ _); k_dflt (refine' kmk_slice_lit ?slF ?slN ?sll ?slp ?slq ?sle ?_ ?sls ?slt ?slz; (case slF => k_asm); (case slN => k_asm); (case sll => exact News.isList (by k_asm) (by k_mem)); (case slp => kmk_part); (case slq => kmk_part); (case sle => first | exact pick_upto _ (by first | decide | with_reducible assumption | omega) | exact pick_from _ (by first | decide | with_reducible assumption | omega) | exact pick_neg _ (by first | decide | with_reducible assumption | omega)); (case sls => with_unfolding_all rfl); (case slt => kmk_pure); (case slz => exact szL (by first | with_reducible assumption | omega))); intro D' h' F' N' l1; (try k_sweep)))
local macro_rules | `(tactic| walk_at "binaryOp Add ref ref") => `(tactic| (k_here; k_dflt (refine' kmk_add_lit ?adF ?adN ?ada ?adb ?ade ?_ ?adz; (case adF => k_asm); (case adN => k_asm); (case ada => exact News.isList (by k_asm) (by k_mem)); (case adb => exact News.isList (by k_asm) (by k_mem)); (case ade => exact catL _ _); (case adz => exact szLL (by first | with_reducible assumption | (simp only [List.length_take, List.length_drop]; omega)))); intro D' h' F' N' l1; (try k_sweep)))
local macro_rules | `(tactic| walk_at "call ref") => `(tactic| k_extra "my call")
local macro_rules | `(tactic| walk_at "call builtin:len") => `(tactic| (k_here; k_dflt (refine' lenL ?zlN ?zlm ?zlf ?_; (case zlN => k_asm); (case zlm => k_mem); (case zlf => exact fitL (by first | with_reducible assumption | omega | decide)); intro _)))
local macro_rules | `(tactic| walk_at "exec For Name Name cons nil") => `(tactic| (refine Hold.out ?_))
local macro_rules | `(tactic| walk_at "exec For Name Call cons nil") => `(tactic| (refine Hold.out ?_))
local macro_rules | `(tactic| walk_at "pyIter ref") => `(tactic| (refine Hold.out ?_))
local macro_rules | `(tactic| walk_at "FlPost") => `(tactic| (dsimp only [FlPost]))
local macro_rules | `(tactic| walk_at "FlEnd") => `(tactic| (refine Hold.out ?_))
local macro_rules | `(tactic| walk_at "compareOp Is ref ref") => `(tactic| (k_here; k_dflt (refine' is_ref ?N ?a ?b ?c ?_; (case N => k_asm); (case a => k_mem); (case b => k_mem); (case c => intro z; cases z))))
local macro_rules | `(tactic| walk_at "compareOp IsNot ref ref") => `(tactic| (k_here; k_dflt (refine' isnot_ref ?N ?a ?b ?c ?_; (case N => k_asm); (case a => k_mem); (case b => k_mem); (case c => intro z; cases z))))
local macro_rules | `(tactic| walk_at "call builtin:list.append") => `(tactic| (k_here; k_dflt (refine' append_U ?k1 ?k2 ?k3 ?_ ?z; (case k1 => k_asm); (case k2 => k_asm); (case k3 => k_mem); (case z => exact szL (by first | with_reducible assumption | omega)); intro h' F' N'; (try k_sweep))))
local macro_rules | `(tactic| walk_at "subscriptTail Name Name ref int") => `(tactic| k_extra "my item")
local macro_rules | `(tactic| walk_at "subscriptTail Name BinOp ref int") => `(tactic| k_extra "my item")
local macro_rules | `(tactic| walk_at "subscriptTail Name Constant ref int") => `(tactic| k_extra "my item")
local macro_rules | `(tactic| walk_at "subscriptTail Name UnaryOp ref int") => `(tactic| k_extra "my item")
local macro_rules | `(tactic| walk_at "subscriptTail Name Call ref int") => `(tactic| k_extra "my item")
abbrev at' (ps : List (Int × Int)) (n : Nat) : Int × Int := ps.getD n (0, 0)
def Pick (its ys : List Value) (ns : List Nat) : Prop := All2 (fun v n => its[n]? = some v) ys ns
theorem Pick.pl {led : Led} {its ys : List Value} {ns : List Nat} {ps : List (Int × Int)} (h : Pick its ys ns) (hP : All2 (PlV led) its ps) : All2 (PlV led) ys (ns.map (at' ps)) := by
  unfold Pick at h
  induction h with
  | nil => exact .nil
  | @cons v n _ _ h _ ih =>
    obtain ⟨b, e, hr⟩ := hP.get h
    refine .cons ?_ ih
    have : at' ps n = b := by unfold at'; rw [List.getD, e]; rfl
    rw [this]; exact hr
theorem item_at {its : List Value} {n : Nat} {v : Value} (h : its[n]? = some v) : its.toArray[((n : Int) % (its.toArray.size : Int)).toNat]? = some v := by
  have hl : n < its.length := by
    rcases Nat.lt_or_ge n its.length with h' | h'
    · exact h'
    · rw [List.getElem?_eq_none h'] at h; cases h
  rw [List.size_toArray, Int.emod_eq_of_lt (by omega) (by omega), Int.toNat_natCast]
  simpa using h
/-- corners = [places[k] for k in order] -/
theorem seg12 (w : World) (v : Value) (led0 : Led) (D0 D4 : Addr) (n0 n4 : Nat) (its ys : List Value) (ns : List Nat) (hits : its.length ≤ 9) (hns : ∀ n ∈ ns, n < its.length) (hn9 : ns.length ≤ 9) :
    Seg w (lawStmt 12) (fun h₀ L m led => led = led0 ∧ Has [(Str.ofString "told", v)] m ∧ Cel led (L + 1) (some (.ref D0)) ∧ Cel led (L + 4) (some (.ref D4)) ∧ Cel led (L + 6) none ∧ (D0, listOf its.toArray n0) ∈ led ∧ (D4, listOf ys.toArray n4) ∈ led ∧ NumsV ys ns)
      (fun f L led m' led' => f = .next ∧ Has [(Str.ofString "told", v)] m' ∧ Kp (L + 6) led led' ∧ ∃ D n its', Cel led' (L + 6) (some (.ref D)) ∧ (D, listOf its'.toArray n) ∈ led' ∧ Pick its its' ns) := by
  unfold Seg
  k_fill
  intro loose mean mg mb dp un gd cn a ccd outer A₀ base h₀ L m led s Q E B F X N TT hd9 hu9 hpre hE hret
  obtain ⟨rfl, hm, ⟨o1, hc1, hd1⟩, ⟨o4, hc4, hd4⟩, ⟨o6, hc6, hd6⟩, hD0, hD4, hY⟩ := hpre
  have hyl := hY.length
  have F3 := fr_kstB hm F
  dsimp only [kstB] at F3
  clear F
  conv in (occs := *) lawScope => all_goals whnf
  conv in lawStmt _ => whnf
  k_with_none
  k_steps
  refine id (α := wpAny _ _ _ _ _ _) ?_
  k_dflt (refine LCg.ListComp_U (F₀ := by k_asm) (by rfl) (by decide) (by rfl) (by decide) (by rfl) ?_)
  k_steps
  (rename Fr _ _ _ _ => F1); (rename News _ _ _ _ => N1)
  refine LCg.CompSrc.ledger (by rfl) F1 N1 hD4 (szL (by omega)) ?_
  intro g
  refine rest_ind (σ := Unit) _ (fun _ => led) (fun i _ ys' => Pick its ys' (ns.take i)) ?turn ?fin _ _ () _ (Nat.zero_add _) .nil
  case turn =>
    rintro i _ ys' v I oI C oC D m₂ h tk E' hi hP' hJ hC hx F2 N2 off ne
    clear F1 N1
    obtain ⟨n, hni, t, rfl⟩ := hY.get (by simpa using hP')
    have hn : n < its.length := hns n (List.mem_of_getElem? hni)
    have hit := item_at (List.getElem?_eq_getElem hn)
    have hsz : its.toArray.size = its.length := by simp
    have hm0 : (D0, listOf its.toArray n0) ∈ (I, oI) :: (C, oC) :: (D, lst ys') :: led := .tail _ (.tail _ (.tail _ hD0))
    k_with "my item" => k_dflt (refine' itemC ?ziN ?zim ?zia ?zib ?zic ?zid ?_ ?zie; (case ziN => k_asm); (case zim => exact hm0); (case zia => omega); (case zib => omega); (case zic => omega); (case zid => exact hit); (case zie => with_unfolding_all rfl))
    k_steps
    (rename Fr _ _ _ _ => F4); (rename News _ _ _ _ => N4)
    refine ct_end () F4 N4 (fun p hp => hp) off (.inr ⟨_, hD4, rfl, _, rfl⟩) ?_
    rw [take_snoc hni]
    exact hJ.snoc (List.getElem?_eq_getElem hn)
  case fin =>
    rintro _ ys' hJ
    unfold LCg.FinE
    intro D h tk F2 N2 o1
    have hc6 := List.mem_cons_of_mem (D, lst ys') hc6
    clear F1 N1
    k_steps
    rename Kp _ _ _ => kp
    refine hret _ _ _ _ _ (by k_asm) (by k_asm) ⟨rfl, Has.cons rfl Has.nil, (Kp.sub fun p hp => List.mem_cons_of_mem _ hp).trans kp, D, _, ys', ⟨_, upd_self hc6, by assumption⟩, kp.obj _ List.mem_cons_self (fun v h => by cases h), ?_⟩
    have := hJ
    rwa [List.take_of_length_le (by rw [List.size_toArray, hyl]; exact Nat.le_refl _)] at this
end Mine
end

namespace Mine
theorem fresh_G20 : True := by w_top off; first | walk1 | trivial
end Mine

section
open PySem PySem.W PyProof.Rows PySem.Calls PySem.Spec
set_option maxRecDepth 100000
set_option maxHeartbeats 1000000
namespace Mine
open LCg
local macro_rules | `(tactic| k_mem) => `(tactic| first | assumption | exact upd_self (by assumption) | (refine upd_ne ?_ (by first | assumption | (apply Ne.symm; assumption)); k_mem))
local macro_rules | `(tactic| walk_at "eval ListComp") => `(tactic| (refine Hold.out ?_))
local macro_rules | `(tactic| walk_at "exec Assign cons ListComp") => `(tactic| fail "no")
local macro_rules | `(tactic| walk_at "storeName") => `(tactic| (k_here; k_dflt (refine' store_cellU ?zsF ?zsN ?zsc ?zsm ?zsd ?zsk ?zsl ?_; (case zsF => k_asm); (case zsN => k_asm); (case zsc => rfl); (case zsm => k_mem); (case zsd => k_asm); (case zsk => rfl); (case zsl => rfl)); intro h' o' F' N' d' kp'; (try k_sweep)))
local macro_rules | `(tactic| walk_at "CompSrc") => `(tactic| (refine Hold.out ?_))
local macro_rules | `(tactic| walk_at "CompSrcT") => `(tactic| (refine Hold.out ?_))
local macro_rules | `(tactic| walk_at "newTuple") => `(tactic| (k_here; k_dflt (refine' kup_newTuple ?ztF ?ztN ?_ ?ztz; (case ztF => k_asm); (case ztN => k_asm); (case ztz => kmk_size)); intro D' h' F' N' l1; (try k_sweep)))
local macro_rules | `(tactic| walk_at "subscriptTail Name Slice ref ref") => `(tactic| (k_here; (with_reducible show wpAny _ _ (subscriptTail _ (PySem.Expr.Slice _ _ none _) (Value.ref _) (Value.ref _)) _ _ _); k_dflt (refine' kmk_slice_lit ?slF ?slN ?sll ?slp ?slq ?sle ?_ ?sls ?slt ?slz; (case slF => k_asm); (case slN => k_asm); (case sll => exact News.isList (by k_asm) (by k_mem)); (case slp => kmk_part); (case slq => kmk_part); (case sle => first | exact pick_upto _ (by first | decide | with_reducible assumption | omega) | exact pick_from _ (by first | decide | with_reducible assumption | omega) | exact pick_neg _ (by first | decide | with_reducible assumption | omega)); (case sls => with_unfolding_all rfl); (case slt => kmk_pure); (case slz => exact szL (by first | with_reducible assumption | omega))); intro D' h' F' N' l1; (try k_sweep)))
local macro_rules | `(tactic| walk_at "binaryOp Add ref ref") => `(tactic| (k_here; k_dflt (refine' kmk_add_lit ?adF ?adN ?ada ?adb ?ade ?_ ?adz; (case adF => k_asm); (case adN => k_asm); (case ada => exact News.isList (by k_asm) (by k_mem)); (case adb => exact News.isList (by k_asm) (by k_mem)); (case ade => exact catL _ _); (case adz => exact szLL (by first | with_reducible assumption | (simp only [List.length_take, List.length_drop]; omega)))); intro D' h' F' N' l1; (try k_sweep)))
local macro_rules | `(tactic| walk_at "call ref") => `(tactic| k_extra "my call")
local macro_rules | `(tactic| walk_at "call builtin:len") => `(tactic| (k_here; k_dflt (refine' lenL ?zlN ?zlm ?zlf ?_; (case zlN => k_asm); (case zlm => k_mem); (case zlf => exact fitL (by first | with_reducible assumption | omega | decide)); intro _)))
local macro_rules | `(tactic| walk_at "exec For Name Name cons nil") => `(tactic| (refine Hold.out ?_))
local macro_rules | `(tactic| walk_at "exec For Name Call cons nil") => `(tactic| (refine Hold.out ?_))
local macro_rules | `(tactic| walk_at "pyIter ref") => `(tactic| (refine Hold.out ?_))
local macro_rules | `(tactic| walk_at "FlPost") => `(tactic| (dsimp only [FlPost]))
local macro_rules | `(tactic| walk_at "FlEnd") => `(tactic| (refine Hold.out ?_))
local macro_rules | `(tactic| walk_at "compareOp Is ref ref") => `(tactic| (k_here; k_dflt (refine' is_ref ?N ?a ?b ?c ?_; (case N => k_asm); (case a => k_mem); (case b => k_mem); (case c => intro z; cases z))))
local macro_rules | `(tactic| walk_at "compareOp IsNot ref ref") => `(tactic| (k_here; k_dflt (refine' isnot_ref ?N ?a ?b ?c ?_; (case N => k_asm); (case a => k_mem); (case b => k_mem); (case c => intro z; cases z))))
local macro_rules | `(tactic| walk_at "call builtin:list.append") => `(tactic| (k_here; k_dflt (refine' append_U ?k1 ?k2 ?k3 ?_ ?z; (case k1 => k_asm); (case k2 => k_asm); (case k3 => k_mem); (case z => exact szL (by first | with_reducible assumption | omega)); intro h' F' N'; (try k_sweep))))
local macro_rules | `(tactic| walk_at "subscriptTail Name Name ref int") => `(tactic| k_extra "my item")
local macro_rules | `(tactic| walk_at "subscriptTail Name BinOp ref int") => `(tactic| k_extra "my item")
local macro_rules | `(tactic| walk_at "subscriptTail Name Constant ref int") => `(tactic| k_extra "my item")
local macro_rules | `(tactic| walk_at "subscriptTail Name UnaryOp ref int") => `(tactic| k_extra "my item")
local macro_rules | `(tactic| walk_at "subscriptTail Name Call ref int") => `(tactic| k_extra "my item")
def crossAt (rs : List (Int × Int)) (k : Nat) : Int := (at' rs ((k + rs.length - 1) % rs.length)).1 * (at' rs k).2 - (at' rs ((k + rs.length - 1) % rs.length)).2 * (at' rs k).1
theorem at_eq {ps : List (Int × Int)} {n : Nat} (h : n < ps.length) : at' ps n = ps[n] := by
  show ps.getD n (0, 0) = _
  rw [List.getD, List.getElem?_eq_getElem h]; rfl
theorem crossAt_eq {rs : List (Int × Int)} {i : Nat} (h : i < rs.length) (h2 : (i + rs.length - 1) % rs.length < rs.length) :
    crossAt rs i = rs[(i + rs.length - 1) % rs.length].1 * rs[i].2 - rs[(i + rs.length - 1) % rs.length].2 * rs[i].1 := by
  unfold crossAt
  rw [at_eq h, at_eq h2]
theorem cross_snoc {rs : List (Int × Int)} {i : Nat} {ys : List Value} {t : Tok} (hJ : IntsAre ys ((List.range i).map (crossAt rs))) (h : i < rs.length) (h2 : (i + rs.length - 1) % rs.length < rs.length) :
    IntsAre (ys ++ [Value.int (rs[(i + rs.length - 1) % rs.length].1 * rs[i].2 - rs[(i + rs.length - 1) % rs.length].2 * rs[i].1) t]) ((List.range (i + 1)).map (crossAt rs)) := by
  rw [List.range_succ, List.map_append, List.map_cons, List.map_nil, crossAt_eq h h2]
  exact hJ.append (.cons _ _ .nil)
def wholeOf (rs : List (Int × Int)) : Int := ((List.range rs.length).map (crossAt rs)).sum
/-- whole = sum([...]) -/
theorem seg13 (w : World) (v : Value) (led0 : Led) (D5 : Addr) (n5 : Nat) (its : List Value) (rs : List (Int × Int)) (h9 : its.length ≤ 9) (h1 : 1 ≤ rs.length) :
    Seg w (lawStmt 13) (fun h₀ L m led => led = led0 ∧ Has [(Str.ofString "told", v)] m ∧ Cel led (L + 5) (some (.ref D5)) ∧ (D5, listOf its.toArray n5) ∈ led ∧ All2 (PlV led) its rs)
      (fun f L led m' led' => f = .next ∧ (∃ t, Has [(Str.ofString "told", v), (Str.ofString "whole", .int (wholeOf rs) t)] m') ∧ ∀ p ∈ led, p ∈ led') := by
  unfold Seg
  k_fill
  intro loose mean mg mb dp un gd cn a ccd outer A₀ base h₀ L m led s Q E B F X N TT hd9 hu9 hpre hE hret
  obtain ⟨rfl, hm, ⟨o5, hc5, hd5⟩, hD5, hP⟩ := hpre
  have hl := hP.length
  have hsz : its.toArray.size = its.length := by simp
  have F3 := fr_kstB hm F
  dsimp only [kstB] at F3
  clear F
  conv in (occs := *) lawScope => all_goals whnf
  conv in lawStmt _ => whnf
  k_with_none
  k_steps
  refine id (α := wpAny _ _ _ _ _ _) ?_
  k_dflt (refine LCg.ListComp_U (F₀ := by k_asm) (by rfl) (by decide) (by rfl) (by decide) (by rfl) ?_)
  k_steps
  (rename Fr _ _ _ _ => F1); (rename News _ _ _ _ => N1); (rename IsRange _ _ _ _ _ _ _ _ => R1)
  refine LCg.CompSrc.range (n := its.length) (by rfl) F1 N1 R1 (small_one (by omega) (by omega) (by omega) (by omega)) (by rw [hsz]; exact rangeSize_nat _ _) (Nat.le_trans h9 (Nat.le_of_ble_eq_true rfl)) ?_
  intro g
  refine rest_ind (σ := Unit) _ (fun _ => led) (fun i _ ys' => IntsAre ys' ((List.range i).map (crossAt rs))) ?turn ?fin _ _ () _ (Nat.zero_add _) .nil
  case turn =>
    rintro i _ ys' v I oI C oC D m₂ h tk E' hi hP' hJ hC hx F2 N2 off ne
    clear F1 N1
    obtain ⟨t, rfl⟩ := hP'
    have hirs : i < rs.length := by omega
    obtain ⟨v0, e0, hv0⟩ := hP.nth (i := i) (by omega)
    obtain ⟨v1, e1, hv1⟩ := hP.nth (i := (i + rs.length - 1) % rs.length) (Nat.mod_lt _ (by omega))
    obtain ⟨a0, rfl, ⟨t1, t2, q0, m0⟩, b0, c0⟩ := hv0
    obtain ⟨a1, rfl, ⟨t3, t4, q1, m1⟩, b1, c1⟩ := hv1
    have up : ∀ q ∈ led, q ∈ (I, oI) :: (C, oC) :: (D, lst ys') :: led := fun q hq => .tail _ (.tail _ (.tail _ hq))
    have m0 := up _ m0
    have m1 := up _ m1
    have hm5 := up _ hD5
    have hc5 := up _ hc5
    have i0 : its.toArray[((0 + (i : Int)) % (its.toArray.size : Int)).toNat]? = some (.ref a0) := by
      rw [Int.zero_add]; exact item_at e0
    have i1 : its.toArray[((0 + (i : Int) - 1) % (its.toArray.size : Int)).toNat]? = some (.ref a1) := by
      have h1 : ((0 + (i : Int) - 1) % (its.toArray.size : Int)).toNat = (i + rs.length - 1) % rs.length := by
        rw [hsz, hl, show (0 + (i : Int) - 1) % (rs.length : Int) = ((i + rs.length - 1 : Nat) : Int) % (rs.length : Int) by rw [← Int.add_emod_right]; congr 1; omega]
        omega
      rw [h1]; simpa using e1
    k_with "my item" => k_dflt (refine' itemC ?ziN ?zim ?zia ?zib ?zic ?zid ?_ ?zie; (case ziN => k_asm); (case zim => exact hm5); (case zia => omega); (case zib => omega); (case zic => omega); (case zid => first | exact i0 | exact i1); (case zie => with_unfolding_all rfl))
    k_steps
    (rename Fr _ _ _ _ => F4); (rename News _ _ _ _ => N4)
    refine ct_end () F4 N4 (fun p hp => hp) off trivial ?_
    exact cross_snoc hJ hirs _
  case fin =>
    rintro _ ys' hJ
    unfold LCg.FinE
    intro D h tk F2 N2 o1
    clear F1 N1
    k_steps
    have hsum : ((List.range its.length).map (crossAt rs)).sum = wholeOf rs := by unfold wholeOf; rw [hl]
    have hsum : ((List.range its.length).map (crossAt rs)).sum = wholeOf rs := by unfold wholeOf; rw [hl]
    rw [← hsum] at hret
    exact hret _ _ _ _ _ (by k_asm) (by k_asm) ⟨rfl, ⟨_, Has.cons rfl (Has.cons rfl Has.nil)⟩, fun p hp => List.mem_cons_of_mem _ hp⟩
end Mine
end

namespace Mine
theorem fresh_G21 : True := by w_top off; first | walk1 | trivial
end Mine

section
open PySem PySem.W PyProof.Rows PySem.Calls PySem.Spec
set_option maxRecDepth 100000
set_option maxHeartbeats 1000000
namespace Mine
open LCg
local macro_rules | `(tactic| k_mem) => `(tactic| first | assumption | exact upd_self (by assumption) | (refine upd_ne ?_ (by first | assumption | (apply Ne.symm; assumption)); k_mem))
local macro_rules | `(tactic| walk_at "eval ListComp") => `(tactic| (refine Hold.out ?_))
local macro_rules | `(tactic| walk_at "exec Assign cons ListComp") => `(tactic| fail "no")
local macro_rules | `(tactic| walk_at "storeName") => `(tactic| (k_here; k_dflt (refine' store_cellU ?zsF ?zsN ?zsc ?zsm ?zsd ?zsk ?zsl ?_; (case zsF => k_asm); (case zsN => k_asm); (case zsc => rfl); (case zsm => k_mem); (case zsd => k_asm); (case zsk => rfl); (case zsl => rfl)); intro h' o' F' N' d' kp'; (try k_sweep)))
local macro_rules | `(tactic| walk_at "CompSrc") => `(tactic| (refine Hold.out ?_))
local macro_rules | `(tactic| walk_at "CompSrcT") => `(tactic| (refine Hold.out ?_))
local macro_rules | `(tactic| walk_at "newTuple") => `(tactic| (k_here; k_dflt (refine' kup_newTuple ?ztF ?ztN ?_ ?ztz; (case ztF => k_asm); (case ztN => k_asm); (case ztz => kmk_size)); intro D' h' F' N' l1; (try k_sweep)))
local macro_rules | `(tactic| walk_at "subscriptTail Name Slice ref ref") => `(tactic| (k_here; (with_reducible show wpAny _ _ (subscriptTail _ (PySem.Expr.Slice _ _ none _) (Value.ref _) (Value.ref _)) _ _ _); k_dflt (refine' kmk_slice_lit ?slF ?slN ?sll ?slp ?slq ?sle ?_ ?sls ?slt ?slz; (case slF => k_asm); (case slN => k_asm); (case sll => exact News.isList (by k_asm) (by k_mem)); (case slp => kmk_part); (case slq => kmk_part); (case sle => first | exact pick_upto _ (by first | decide | with_reducible assumption | omega) | exact pick_from _ (by first | decide | with_reducible assumption | omega) | exact pick_neg _ (by first | decide | with_reducible assumption | omega)); (case sls => with_unfolding_all rfl); (case slt => kmk_pure); (case slz => exact szL (by first | with_reducible assumption | omega))); intro D' h' F' N' l1; (try k_sweep)))
local macro_rules | `(tactic| walk_at "binaryOp Add ref ref") => `(tactic| (k_here; k_dflt (refine' kmk_add_lit ?adF ?adN ?ada ?adb ?ade ?_ ?adz; (case adF => k_asm); (case adN => k_asm); (case ada => exact News.isList (by k_asm) (by k_mem)); (case adb => exact News.isList (by k_asm) (by k_mem)); (case ade => exact catL _ _); (case adz => exact szLL (by first | with_reducible assumption | (simp only [List.length_take, List.length_drop]; omega)))); intro D' h' F' N' l1; (try k_sweep)))
theorem firstMet_full (val : Nat → Int) : ∀ n, (∀ i j, i < j → j < n → val i ≠ val j) → (firstMet val n).length = n
  | 0, _ => rfl
  | n + 1, h => by
    have ih := firstMet_full val n (fun i j h1 h2 => h i j h1 (Nat.lt_succ_of_lt h2))
    rw [firstMet_succ]
    unfold step_dedup
    have hno : (firstMet val n).any (· == val n) = false := by
      rw [firstMet_any]
      rw [List.any_eq_false]
      intro x hx
      obtain ⟨i, hi, rfl⟩ := List.mem_map.mp hx
      have := h i n (List.mem_range.mp hi) (Nat.lt_succ_self n)
      simpa using this
    rw [hno]
    simp [ih]
theorem newSet_U {prog : Program} {w : World} {A : Around} {E : Value → Shared → Prop} {s : Shared} {h₀ : Heap} {L : Addr} {m : Str → Option Value} {led : Led} {l : Addr} {vs : List Value} {n0 : Nat} {ns : List Int} {Q : Value → Shared → Prop} (F : Fr h₀ L s.heap m) (N : News h₀ L s.heap led)
    (hh : A.handled = none) (hl : (l, listOf vs.toArray n0) ∈ led) (hi : IntsAre vs ns) (hb : ns.length + 1 < scanBound) (hnd : ns.Nodup)
    (h : ∀ D h' (tk : Nat) o S, Fr h₀ L h' m → News h₀ L h' ((D, o) :: led) → o.SetObjOf (intKind prog w) S ns.length → Q (.ref D) { s with heap := h', toks := tk }) :
    wpAny (model prog w) A (call (.type "set") [.ref l]) Q E s := by
  have hl' : s.heap.IsList l vs.toArray := News.isList N hl
  have hvn : vs.length = ns.length := IntsAre.length hi
  have hsz : vs.toArray.size = vs.length := List.size_toArray
  have hfull : (firstMet (fun i => ns.getD i 0) vs.length).length = ns.length := by
    rw [← hvn]
    refine firstMet_full _ _ fun i j hij hj e => ?_
    rw [hvn] at hj
    have hi' : i < ns.length := Nat.lt_trans hij hj
    have e' : ns.getD i 0 = ns.getD j 0 := e
    rw [List.getD, List.getD, List.getElem?_eq_getElem hi', List.getElem?_eq_getElem hj, Option.getD_some, Option.getD_some] at e'
    exact Nat.ne_of_lt hij ((List.getElem_inj hnd).mp e')
  rw [← hvn] at hb
  refine PySem.call_set_list (items := vs.toArray) (ns := ns) hh hl' (by simpa using hi) (by rw [hsz]; exact hb) fun h' tk hS hk => ?_
  rw [hsz] at hS
  obtain ⟨o, ho, hso⟩ := hS.objOf
  rw [hfull] at hso
  obtain ⟨oL, _, _, hL, _⟩ := F.ns
  have hLlt : L < s.heap.objs.size := Heap.lt_size hL
  refine h _ h' tk o _ ⟨F.ns.at' fun o' e => hk L o' hLlt e, fun b o' e => hk b o' (Heap.lt_size (F.keep b o' e)) (F.keep b o' e), F.above⟩ (fun p hp => ?_) hso
  rcases List.mem_cons.mp hp with rfl | hp
  · refine ⟨ho, Nat.ne_of_gt hLlt, ?_⟩
    cases hq : h₀.get? s.heap.objs.size with
    | none => rfl
    | some o' => exact absurd (Heap.lt_size (F.keep _ _ hq)) (Nat.lt_irrefl _)
  · exact ⟨hk _ _ (Heap.lt_size (N p hp).1) (N p hp).1, (N p hp).2.1, (N p hp).2.2⟩
theorem nodup_cast {ns : List Nat} (h : ns.Nodup) : (ns.map fun n : Nat => (n : Int)).Nodup := List.Pairwise.map _ (fun a b h e => h (Int.ofNat.inj e)) h
theorem NumsV.ints {ys : List Value} {ns : List Nat} (h : NumsV ys ns) : IntsAre ys (ns.map fun n : Nat => (n : Int)) := by
  unfold NumsV at h
  induction h with
  | nil => exact .nil
  | cons h _ ih =>
    obtain ⟨t, rfl⟩ := h
    exact .cons _ _ ih
local macro_rules | `(tactic| walk_at "call ref") => `(tactic| k_extra "my call")
local macro_rules | `(tactic| walk_at "call builtin:len") => `(tactic| (k_here; k_dflt (refine' lenL ?zlN ?zlm ?zlf ?_; (case zlN => k_asm); (case zlm => k_mem); (case zlf => exact fitL (by first | with_reducible assumption | omega | decide)); intro _)))
local macro_rules | `(tactic| walk_at "exec For Name Name cons nil") => `(tactic| (refine Hold.out ?_))
local macro_rules | `(tactic| walk_at "exec For Name Call cons nil") => `(tactic| (refine Hold.out ?_))
local macro_rules | `(tactic| walk_at "pyIter ref") => `(tactic| (refine Hold.out ?_))
local macro_rules | `(tactic| walk_at "FlPost") => `(tactic| (dsimp only [FlPost]))
local macro_rules | `(tactic| walk_at "FlEnd") => `(tactic| (refine Hold.out ?_))
local macro_rules | `(tactic| walk_at "compareOp Is ref ref") => `(tactic| (k_here; k_dflt (refine' is_ref ?N ?a ?b ?c ?_; (case N => k_asm); (case a => k_mem); (case b => k_mem); (case c => intro z; cases z))))
local macro_rules | `(tactic| walk_at "compareOp IsNot ref ref") => `(tactic| (k_here; k_dflt (refine' isnot_ref ?N ?a ?b ?c ?_; (case N => k_asm); (case a => k_mem); (case b => k_mem); (case c => intro z; cases z))))
local macro_rules | `(tactic| walk_at "call builtin:list.append") => `(tactic| (k_here; k_dflt (refine' append_U ?k1 ?k2 ?k3 ?_ ?z; (case k1 => k_asm); (case k2 => k_asm); (case k3 => k_mem); (case z => exact szL (by first | with_reducible assumption | omega)); intro h' F' N'; (try k_sweep))))
local macro_rules | `(tactic| walk_at "subscriptTail Name Name ref int") => `(tactic| k_extra "my item")
local macro_rules | `(tactic| walk_at "subscriptTail Name BinOp ref int") => `(tactic| k_extra "my item")
local macro_rules | `(tactic| walk_at "subscriptTail Name Constant ref int") => `(tactic| k_extra "my item")
local macro_rules | `(tactic| walk_at "subscriptTail Name UnaryOp ref int") => `(tactic| k_extra "my item")
local macro_rules | `(tactic| walk_at "subscriptTail Name Call ref int") => `(tactic| k_extra "my item")
local macro_rules | `(tactic| walk_at "call type:set cons nil") => `(tactic| k_extra "my set")
local macro_rules | `(tactic| walk_at "call builtin:len") => `(tactic| k_extra "my len")
/-- if len(set(order)) != len(nodes) or len(order) != len(nodes) -/
theorem seg14 (w : World) (v : Value) (W : Int) (tw : Tok) (led0 : Led) (D3 D4 : Addr) (n3 n4 : Nat) (its ys : List Value) (ns : List Nat) (h9 : ns.length ≤ 9) (hnd : ns.Nodup) (hlen : its.length = ns.length) :
    Seg w (lawStmt 14) (fun h₀ L m led => led = led0 ∧ Has [(Str.ofString "told", v), (Str.ofString "whole", .int W tw)] m ∧ Cel led (L + 3) (some (.ref D3)) ∧ Cel led (L + 4) (some (.ref D4)) ∧ (D3, listOf its.toArray n3) ∈ led ∧ (D4, listOf ys.toArray n4) ∈ led ∧ NumsV ys ns)
      (fun f L led m' led' => f = .next ∧ Has [(Str.ofString "told", v), (Str.ofString "whole", .int W tw)] m' ∧ ∀ p ∈ led, p ∈ led') := by
  unfold Seg
  k_fill
  intro loose mean mg mb dp un gd cn a ccd outer A₀ base h₀ L m led s Q E B F X N TT hd9 hu9 hpre hE hret
  obtain ⟨rfl, hm, ⟨o3, hc3, hd3⟩, ⟨o4, hc4, hd4⟩, hD3, hD4, hY⟩ := hpre
  have hyl := hY.length
  have hyl9 : ys.length ≤ 9 := by omega
  have hil9 : its.length ≤ 9 := by omega
  have hnl : (ns.map fun n : Nat => (n : Int)).length = ns.length := List.length_map _
  have hsz3 : its.toArray.size = ns.length := by simpa using hlen
  have hsz4 : ys.toArray.size = ns.length := by simpa using hyl
  have F3 := fr_kstB hm F
  dsimp only [kstB] at F3
  clear F
  conv in (occs := *) lawScope => all_goals whnf
  conv in lawStmt _ => whnf
  k_with_none
  k_with "my set" => k_dflt (refine' newSet_U ?zsF ?zsN ?zsh ?zsl ?zsi ?zsb ?zsn ?_; (case zsF => k_asm); (case zsN => k_asm); (case zsh => rfl); (case zsl => exact hD4); (case zsi => exact hY.ints); (case zsb => unfold scanBound; omega); (case zsn => exact nodup_cast hnd); intro D' h' tk' o' S' F' N' hso')
  k_with "my len" => k_dflt (first
    | (refine' lenL ?zlN ?zlm ?zlf ?_; (case zlN => k_asm); (case zlm => first | exact hD3 | exact hD4 | exact List.mem_cons_of_mem _ hD3 | exact List.mem_cons_of_mem _ hD4); (case zlf => first | exact fitL (by omega)); intro _)
    | (refine' len_sl1 (own := []) ?zlN ?zlo ?zlf ?_; (case zlN => k_asm); (case zlo => k_asm); (case zlf => omega)))
  k_steps
  all_goals first
    | exact hret _ _ _ _ _ (by k_asm) (by k_asm) ⟨rfl, Has.cons rfl (Has.cons rfl Has.nil), fun p hp => List.mem_cons_of_mem _ hp⟩
    | (exfalso; rw [hsz3] at *; omega)
    | (exfalso; omega)
end Mine
end

namespace Mine
theorem fresh_G22 : True := by w_top off; first | walk1 | trivial
end Mine

section
open PySem PySem.W PyProof.Rows PySem.Calls PySem.Spec
set_option maxRecDepth 100000
set_option maxHeartbeats 1000000
namespace Mine
open LCg
local macro_rules | `(tactic| k_mem) => `(tactic| first | assumption | exact upd_self (by assumption) | (refine upd_ne ?_ (by first | assumption | (apply Ne.symm; assumption)); k_mem))
local macro_rules | `(tactic| walk_at "eval ListComp") => `(tactic| (refine Hold.out ?_))
local macro_rules | `(tactic| walk_at "exec Assign cons ListComp") => `(tactic| fail "no")
local macro_rules | `(tactic| walk_at "storeName") => `(tactic| (k_here; k_dflt (refine' store_cellU ?zsF ?zsN ?zsc ?zsm ?zsd ?zsk ?zsl ?_; (case zsF => k_asm); (case zsN => k_asm); (case zsc => rfl); (case zsm => k_mem); (case zsd => k_asm); (case zsk => rfl); (case zsl => rfl)); intro h' o' F' N' d' kp'; (try k_sweep)))
local macro_rules | `(tactic| walk_at "CompSrc") => `(tactic| (refine Hold.out ?_))
local macro_rules | `(tactic| walk_at "CompSrcT") => `(tactic| (refine Hold.out ?_))
local macro_rules | `(tactic| walk_at "newTuple") => `(tactic| (k_here; k_dflt (refine' kup_newTuple ?ztF ?ztN ?_ ?ztz; (case ztF => k_asm); (case ztN => k_asm); (case ztz => kmk_size)); intro D' h' F' N' l1; (try k_sweep)))
local macro_rules | `(tactic| walk_at "subscriptTail Name Slice ref ref") => `(tactic| (k_here; (with_reducible show wpAny _ _ (subscriptTail _ (PySem.Expr.Slice _ _ none _) (Value.ref _) (Value.ref _)) _ _ _); k_dflt (refine' kmk_slice_lit ?slF ?slN ?sll ?slp ?slq ?sle ?_ ?sls ?slt ?slz; (case slF => k_asm); (case slN => k_asm); (case sll => exact News.isList (by k_asm) (by k_mem)); (case slp => kmk_part); (case slq => kmk_part); (case sle => first | exact pick_upto _ (by first | decide | with_reducible assumption | omega) | exact pick_from _ (by first | decide | with_reducible assumption | omega) | exact pick_neg _ (by first | decide | with_reducible assumption | omega)); (case sls => with_unfolding_all rfl); (case slt => kmk_pure); (case slz => exact szL (by first | with_reducible assumption | omega))); intro D' h' F' N' l1; (try k_sweep)))
local macro_rules | `(tactic| walk_at "binaryOp Add ref ref") => `(tactic| (k_here; k_dflt (refine' kmk_add_lit ?adF ?adN ?ada ?adb ?ade ?_ ?adz; (case adF => k_asm); (case adN => k_asm); (case ada => exact News.isList (by k_asm) (by k_mem)); (case adb => exact News.isList (by k_asm) (by k_mem)); (case ade => exact catL _ _); (case adz => exact szLL (by first | with_reducible assumption | (simp only [List.length_take, List.length_drop]; omega)))); intro D' h' F' N' l1; (try k_sweep)))
def RoundV (led : Led) (its : List Value) (v : Value) (k : Nat) : Prop := ∃ d n, v = .ref d ∧ (d, listOf (its.drop k ++ its.take k).toArray n) ∈ led
theorem RoundV.mono {led led' : Led} {its : List Value} {v : Value} {k : Nat} (h : RoundV led its v k) (f : ∀ p ∈ led, p ∈ led') : RoundV led' its v k := by
  obtain ⟨d, n, e, hm⟩ := h
  exact ⟨d, n, e, f _ hm⟩
theorem round_end {h₀ : Heap} {L : Addr} {m : Str → Option Value} {led0 : Led} {its : List Value} {s : Shared} {I : Addr} {oI : Obj} {C : Addr} {oC : Obj} {D : Addr} {oD : Obj} {h' : Heap} {tk : Nat} {a a1 a2 : Addr} {o1 o2 : Obj} {c : Led} {ys : List Value} {i n : Nat}
    (hJ : (∀ p ∈ led0, p ∈ c) ∧ All2 (RoundV c its) ys (List.range i))
    (F : Fr h₀ L h' m) (N : News h₀ L h' ((a, listOf (its.drop i ++ its.take i).toArray n) :: (a1, o1) :: (a2, o2) :: (I, oI) :: (C, oC) :: (D, oD) :: c)) (lt : ∀ p ∈ (a1, o1) :: (a2, o2) :: (I, oI) :: (C, oC) :: (D, oD) :: c, p.1 < a) (off : ∀ p ∈ c, p.1 ≠ I ∧ p.1 ≠ C ∧ p.1 ≠ D) :
    CT h₀ L m s I oI C oC D oD (fun _ => True) (fun c => c) (fun y c' => (∀ p ∈ led0, p ∈ c') ∧ All2 (RoundV c' its) (ys ++ [y]) (List.range (i + 1))) (.ref a) { s with heap := h', toks := tk } := by
  refine ct_new (o := listOf (its.drop i ++ its.take i).toArray n) F (fun p hp => N p ?_) (fun p hp => lt p (.tail _ (.tail _ hp))) off trivial ⟨fun p hp => .tail _ (hJ.1 p hp), ?_⟩
  · rcases List.mem_cons.mp hp with rfl | hp
    · exact .head _
    · exact .tail _ (.tail _ (.tail _ hp))
  · rw [List.range_succ]
    exact (hJ.2.mono fun _ _ h => h.mono fun _ hq => .tail _ hq).snoc ⟨a, n, rfl, .head _⟩
local macro_rules | `(tactic| walk_at "call ref") => `(tactic| k_extra "my call")
local macro_rules | `(tactic| walk_at "call builtin:len") => `(tactic| (k_here; k_dflt (refine' lenL ?zlN ?zlm ?zlf ?_; (case zlN => k_asm); (case zlm => k_mem); (case zlf => exact fitL (by first | with_reducible assumption | omega | decide)); intro _)))
local macro_rules | `(tactic| walk_at "exec For Name Name cons nil") => `(tactic| (refine Hold.out ?_))
local macro_rules | `(tactic| walk_at "exec For Name Call cons nil") => `(tactic| (refine Hold.out ?_))
local macro_rules | `(tactic| walk_at "pyIter ref") => `(tactic| (refine Hold.out ?_))
local macro_rules | `(tactic| walk_at "FlPost") => `(tactic| (dsimp only [FlPost]))
local macro_rules | `(tactic| walk_at "FlEnd") => `(tactic| (refine Hold.out ?_))
local macro_rules | `(tactic| walk_at "compareOp Is ref ref") => `(tactic| (k_here; k_dflt (refine' is_ref ?N ?a ?b ?c ?_; (case N => k_asm); (case a => k_mem); (case b => k_mem); (case c => intro z; cases z))))
local macro_rules | `(tactic| walk_at "compareOp IsNot ref ref") => `(tactic| (k_here; k_dflt (refine' isnot_ref ?N ?a ?b ?c ?_; (case N => k_asm); (case a => k_mem); (case b => k_mem); (case c => intro z; cases z))))
local macro_rules | `(tactic| walk_at "call builtin:list.append") => `(tactic| (k_here; k_dflt (refine' append_U ?k1 ?k2 ?k3 ?_ ?z; (case k1 => k_asm); (case k2 => k_asm); (case k3 => k_mem); (case z => exact szL (by first | with_reducible assumption | omega)); intro h' F' N'; (try k_sweep))))
local macro_rules | `(tactic| walk_at "subscriptTail Name Name ref int") => `(tactic| k_extra "my item")
local macro_rules | `(tactic| walk_at "subscriptTail Name BinOp ref int") => `(tactic| k_extra "my item")
local macro_rules | `(tactic| walk_at "subscriptTail Name Constant ref int") => `(tactic| k_extra "my item")
local macro_rules | `(tactic| walk_at "subscriptTail Name UnaryOp ref int") => `(tactic| k_extra "my item")
local macro_rules | `(tactic| walk_at "subscriptTail Name Call ref int") => `(tactic| k_extra "my item")
theorem rounds_spec (w : World) (led : Led) (lst : Addr) (n0 : Nat) (its : List Value) (hl : (lst, listOf its.toArray n0) ∈ led) (h9 : its.length ≤ 9) :
    Spec w 4 40 (.ref 181) [.ref lst] led (fun v led' => (∀ p ∈ led, p ∈ led') ∧ ∃ D n rounds, v = .ref D ∧ (D, listOf rounds.toArray n) ∈ led' ∧ All2 (RoundV led' its) rounds (List.range its.length)) := by
  unfold Spec
  k_fill
  intro loose mean mg mb dp un gd cn cs a ccd cl outer A₀ base h₀ L m s Q E B F X N T hk' hd9 hu9 hret
  have hsz : its.toArray.size = its.length := by simp
  k_with_none
  refine wpAny_call ?_
  k_dflt (refine' code_defC ?k1 ?k2 ?k3 ?k4 ?k5 ?kA ?kF ?kK ?k6 ?k7 ?k8 ?k9 ?kB ?kD ?_ ?c2 ?c3 ?c4; (case kA => exact rfl); (case kF => exact rfl); (case kK => assumption); (case k1 => k_asm); (case k2 => k_asm); (case k3 => k_asm); (case k4 => k_asm); (case k5 => k_asm); (case k6 => k_is); (case k7 => k_is); (case k8 => ktr_room); (case k9 => exact BindsTo.of_eq rfl); (case kB => exact rfl); (case kD => decide +kernel); (case c2 => exact rfl); (case c3 => exact rfl); (case c4 => exact rfl); k_whole; intro g' L' h' tk' cells' FG' F' N' Y' B' X' T' l1; have hY := CellsAre.one Y'; obtain ⟨oC', hE', d1'⟩ := hY; subst hE'; clear Y'; (try simp only [List.cons_append, List.nil_append] at N'); (try dsimp only); (try k_fold))
  k_steps
  refine id (α := wpAny _ _ _ _ _ _) ?_
  have hd1 : oC'.data = Data.cell (some (Value.ref lst)) := d1'
  have hcm : (L' + 1, oC') ∈ (L' + 1, oC') :: led := .head _
  have hl1 : (lst, listOf its.toArray n0) ∈ (L' + 1, oC') :: led := .tail _ hl
  clear d1' F N
  k_dflt (refine LCg.ListComp_U (F₀ := by k_asm) (by with_unfolding_all rfl) (by decide) (by rfl) (by decide) (by rfl) ?_)
  k_steps
  (rename News _ _ _ _ => N1); (rename Fr _ _ _ _ => F1); (rename IsRange _ _ _ _ _ _ _ _ => R1)
  refine LCg.CompSrc.range (n := its.length) (by rfl) F1 N1 R1 (small_one (by omega) (by omega) (by omega) (by omega)) (by rw [hsz]; exact rangeSize_nat _ _) (Nat.le_trans h9 (Nat.le_of_ble_eq_true rfl)) ?_
  intro g
  refine rest_ind (σ := Led) _ (fun c => c) (fun i c ys' => (∀ p ∈ (L' + 1, oC') :: led, p ∈ c) ∧ All2 (RoundV c its) ys' (List.range i)) ?turn ?fin _ _ _ _ (Nat.zero_add _) ⟨fun _ h => h, .nil⟩
  case turn =>
    rintro i c ys' v I oI C oC D m₂ h tk E' hi hP' ⟨hJ1, hJ2⟩ hC hx F2 N2 off ne
    clear F1 N1
    obtain ⟨t, rfl⟩ := hP'
    have hcm := hJ1 _ hcm
    have hl1 := hJ1 _ hl1
    k_steps
    (rename Fr _ _ _ _ => F4); (rename News _ _ _ _ => N4)
    rename ∀ (p : Addr × Obj), p ∈ _ :: _ :: _ → p.1 < _ => lt
    have ei : ((0 : Int) + (i : Int)).toNat = i := by omega
    rw [ei] at N4 lt
    refine round_end (hJ := ⟨hJ1, hJ2⟩) F4 N4 lt off
  case fin =>
    rintro c ys' ⟨hJ1, hJ2⟩
    unfold LCg.FinE
    intro D h tk F2 N2 o1
    clear F1 N1
    k_steps
    exact hret _ _ _ _ (by k_asm) (by k_asm) ⟨fun p hp => .tail _ (hJ1 _ (.tail _ hp)), D, _, ys', rfl, .head _, hJ2.mono fun _ _ h => h.mono fun _ hq => .tail _ hq⟩
end Mine
end

namespace Mine
theorem fresh_G23 : True := by w_top off; first | walk1 | trivial
end Mine

section
open PySem PySem.W PyProof.Rows PySem.Calls PySem.Spec
set_option maxRecDepth 100000
set_option maxHeartbeats 1000000
namespace Mine
open LCg
local macro_rules | `(tactic| k_mem) => `(tactic| first | assumption | exact upd_self (by assumption) | (refine upd_ne ?_ (by first | assumption | (apply Ne.symm; assumption)); k_mem))
local macro_rules | `(tactic| walk_at "eval ListComp") => `(tactic| (refine Hold.out ?_))
local macro_rules | `(tactic| walk_at "exec Assign cons ListComp") => `(tactic| fail "no")
local macro_rules | `(tactic| walk_at "storeName") => `(tactic| (k_here; k_dflt (refine' store_cellU ?zsF ?zsN ?zsc ?zsm ?zsd ?zsk ?zsl ?_; (case zsF => k_asm); (case zsN => k_asm); (case zsc => rfl); (case zsm => k_mem); (case zsd => k_asm); (case zsk => rfl); (case zsl => rfl)); intro h' o' F' N' d' kp'; (try k_sweep)))
local macro_rules | `(tactic| walk_at "CompSrc") => `(tactic| (refine Hold.out ?_))
local macro_rules | `(tactic| walk_at "CompSrcT") => `(tactic| (refine Hold.out ?_))
local macro_rules | `(tactic| walk_at "newTuple") => `(tactic| (k_here; k_dflt (refine' kup_newTuple ?ztF ?ztN ?_ ?ztz; (case ztF => k_asm); (case ztN => k_asm); (case ztz => kmk_size)); intro D' h' F' N' l1; (try k_sweep)))
local macro_rules | `(tactic| walk_at "subscriptTail Name Slice ref ref") => `(tactic| (k_here; (with_reducible show wpAny _ _ (subscriptTail _ (PySem.Expr.Slice _ _ none _) (Value.ref _) (Value.ref _)) _ _ _); k_dflt (refine' kmk_slice_lit ?slF ?slN ?sll ?slp ?slq ?sle ?_ ?sls ?slt ?slz; (case slF => k_asm); (case slN => k_asm); (case sll => exact News.isList (by k_asm) (by k_mem)); (case slp => kmk_part); (case slq => kmk_part); (case sle => first | exact pick_upto _ (by first | decide | with_reducible assumption | omega) | exact pick_from _ (by first | decide | with_reducible assumption | omega) | exact pick_neg _ (by first | decide | with_reducible assumption | omega)); (case sls => with_unfolding_all rfl); (case slt => kmk_pure); (case slz => exact szL (by first | with_reducible assumption | omega))); intro D' h' F' N' l1; (try k_sweep)))
local macro_rules | `(tactic| walk_at "binaryOp Add ref ref") => `(tactic| (k_here; k_dflt (refine' kmk_add_lit ?adF ?adN ?ada ?adb ?ade ?_ ?adz; (case adF => k_asm); (case adN => k_asm); (case ada => exact News.isList (by k_asm) (by k_mem)); (case adb => exact News.isList (by k_asm) (by k_mem)); (case ade => exact catL _ _); (case adz => exact szLL (by first | with_reducible assumption | (simp only [List.length_take, List.length_drop]; omega)))); intro D' h' F' N' l1; (try k_sweep)))
def roundsOf (rs : List (Int × Int)) : List (List (Int × Int)) := (List.range rs.length).map fun k => rs.drop k ++ rs.take k
abbrev rdat (rs : List (Int × Int)) : List PySem.W.Dat := (roundsOf rs).map fun c => .list (c.map datP)
theorem rounds_dats {led : Led} {its rounds : List Value} {rs : List (Int × Int)} (h : All2 (RoundV led its) rounds (List.range its.length)) (hP : All2 (PlV led) its rs) : DatAll led rounds (rdat rs) := by
  unfold rdat roundsOf
  rw [List.map_map, ← hP.length]
  generalize List.range its.length = ks at h
  induction h with
  | nil => exact .nil
  | cons h _ ih =>
    obtain ⟨d, n, rfl, hm⟩ := h
    exact .cons (.list hm (PlV.dats ((hP.drop _).append (hP.take _)))) ih
theorem list_ok (ps : List (Int × Int)) : kqdOk 8 (.list (ps.map datP)) = true := by
  show (ps.map datP).all (kqdOk 7) = true
  rw [List.all_eq_true]
  intro d hd
  obtain ⟨p, _, rfl⟩ := List.mem_map.mp hd
  rfl
theorem rdat_ok (rs : List (Int × Int)) : ∀ d ∈ rdat rs, kqdOk 8 d = true := fun d hd => by
  obtain ⟨c, _, rfl⟩ := List.mem_map.mp hd
  exact list_ok c
theorem mem_rdat {cs : List (Int × Int)} {rs : List (Int × Int)} : PySem.W.Dat.list (cs.map datP) ∈ rdat rs ↔ cs ∈ roundsOf rs := by
  unfold rdat
  rw [List.mem_map]
  constructor
  · rintro ⟨c, hc, e⟩
    rw [PySem.W.Dat.list.injEq] at e
    rw [← datP_map_inj e]; exact hc
  · exact fun h => ⟨cs, h, rfl⟩
theorem All2.reverse {α β : Type} {R : α → β → Prop} {as : List α} {bs : List β} (h : All2 R as bs) : All2 R as.reverse bs.reverse := by
  induction h with
  | nil => exact .nil
  | cons h _ ih => rw [List.reverse_cons, List.reverse_cons]; exact ih.snoc h
local macro_rules | `(tactic| walk_at "call ref") => `(tactic| k_extra "my call")
local macro_rules | `(tactic| walk_at "call builtin:len") => `(tactic| (k_here; k_dflt (refine' lenL ?zlN ?zlm ?zlf ?_; (case zlN => k_asm); (case zlm => k_mem); (case zlf => exact fitL (by first | with_reducible assumption | omega | decide)); intro _)))
local macro_rules | `(tactic| walk_at "exec For Name Name cons nil") => `(tactic| (refine Hold.out ?_))
local macro_rules | `(tactic| walk_at "exec For Name Call cons nil") => `(tactic| (refine Hold.out ?_))
local macro_rules | `(tactic| walk_at "pyIter ref") => `(tactic| (refine Hold.out ?_))
local macro_rules | `(tactic| walk_at "FlPost") => `(tactic| (dsimp only [FlPost]))
local macro_rules | `(tactic| walk_at "FlEnd") => `(tactic| (refine Hold.out ?_))
local macro_rules | `(tactic| walk_at "compareOp Is ref ref") => `(tactic| (k_here; k_dflt (refine' is_ref ?N ?a ?b ?c ?_; (case N => k_asm); (case a => k_mem); (case b => k_mem); (case c => intro z; cases z))))
local macro_rules | `(tactic| walk_at "compareOp IsNot ref ref") => `(tactic| (k_here; k_dflt (refine' isnot_ref ?N ?a ?b ?c ?_; (case N => k_asm); (case a => k_mem); (case b => k_mem); (case c => intro z; cases z))))
local macro_rules | `(tactic| walk_at "call builtin:list.append") => `(tactic| (k_here; k_dflt (refine' append_U ?k1 ?k2 ?k3 ?_ ?z; (case k1 => k_asm); (case k2 => k_asm); (case k3 => k_mem); (case z => exact szL (by first | with_reducible assumption | omega)); intro h' F' N'; (try k_sweep))))
local macro_rules | `(tactic| walk_at "subscriptTail Name Name ref int") => `(tactic| k_extra "my item")
local macro_rules | `(tactic| walk_at "subscriptTail Name BinOp ref int") => `(tactic| k_extra "my item")
local macro_rules | `(tactic| walk_at "subscriptTail Name Constant ref int") => `(tactic| k_extra "my item")
local macro_rules | `(tactic| walk_at "subscriptTail Name UnaryOp ref int") => `(tactic| k_extra "my item")
local macro_rules | `(tactic| walk_at "subscriptTail Name Call ref int") => `(tactic| k_extra "my item")
local macro_rules | `(tactic| walk_at "call ref") => `(tactic| k_extra "my call")
local macro_rules | `(tactic| walk_at "call type:reversed") => `(tactic| first | k_extra "my rev" | (refine Hold.out ?_))
local macro_rules | `(tactic| walk_at "call type:list") => `(tactic| k_extra "my list")
local macro_rules | `(tactic| walk_at "compareOp In ref ref") => `(tactic| k_extra "my in")
theorem seg15 (w : World) (v : Value) (W : Int) (tw : Tok) (led0 : Led) (D5 D6 : Addr) (n5 n6 : Nat) (its5 its6 : List Value) (rs cs : List (Int × Int)) (h9 : its5.length ≤ 9)
    (hlaw : (0 ≤ W ∧ cs ∈ roundsOf rs) ∨ (W ≤ 0 ∧ cs ∈ roundsOf rs.reverse)) :
    Seg w (lawStmt 15) (fun h₀ L m led => led = led0 ∧ Has [(Str.ofString "told", v), (Str.ofString "whole", .int W tw)] m ∧ Cel led (L + 5) (some (.ref D5)) ∧ Cel led (L + 6) (some (.ref D6)) ∧ (D5, listOf its5.toArray n5) ∈ led ∧ (D6, listOf its6.toArray n6) ∈ led ∧ All2 (PlV led) its5 rs ∧ All2 (PlV led) its6 cs)
      (fun f L led m' led' => f = .next ∧ Has [(Str.ofString "told", v)] m' ∧ ∀ p ∈ led, p ∈ led') := by
  unfold Seg
  k_fill
  intro loose mean mg mb dp un gd cn a ccd outer A₀ base h₀ L m led s Q E B F X N TT hd9 hu9 hpre hE hret
  obtain ⟨rfl, hm, ⟨o5, hc5, hd5⟩, ⟨o6, hc6, hd6⟩, hD5, hD6, hP5, hP6⟩ := hpre
  have hu : un + 64 < cLine := by omega
  have h59 : its5.reverse.length ≤ 9 := by rw [List.length_reverse]; exact h9
  rcases hlaw with ⟨hw, hin⟩ | ⟨hw, hin⟩
  · have F3 := fr_kstB hm F
    dsimp only [kstB] at F3
    clear F
    conv in (occs := *) lawScope => all_goals whnf
    conv in lawStmt _ => whnf
    k_with_none
    k_with "my in" => k_dflt (refine' kqd_isIn ?zjN ?zjm ?zjc ?zjd ?zjD ?zjs ?zjX ?zjx ?zja ?zjb ?zju ?_; (case zjN => k_asm); (case zjm => k_asm); (case zjc => rfl); (case zjd => rfl); (case zjD => k_asm); (case zjs => exact fun _ h => h); (case zjX => k_asm); (case zjx => exact fun _ h => h); (case zja => exact rdat_ok _); (case zjb => exact list_ok _); (case zju => exact hu))
    k_with "my call" => k_dflt (refine' Spec.use (rounds_spec w led D5 n5 its5 hD5 h9) ?k1 ?k2 ?k3 ?k4 ?k5 ?kK ?kd ?ku ?_; (case k1 => k_asm); (case k2 => k_asm); (case k3 => k_asm); (case k4 => k_asm); (case k5 => k_asm); (case kK => exact rfl); (case kd => ktr_room); (case ku => ktr_units); intro r9 led9 h9 tk9 F9 N9 ho9; obtain ⟨hsub9, D9, n9, rounds9, e9, hm9, hr9⟩ := ho9; subst e9; have hDa9 := rounds_dats hr9 (hP5.mono fun _ _ h => h.mono hsub9); have hDx9 := DatIn.list (hsub9 _ hD6) (PlV.dats (hP6.mono fun _ _ h => h.mono hsub9)); have hc5 := hsub9 _ hc5; have hc6 := hsub9 _ hc6; (try k_sweep); (try k_fold))
    k_steps
    all_goals first
      | exact hret _ _ _ _ _ (by k_asm) (by k_asm) ⟨rfl, Has.cons rfl Has.nil, hsub9⟩
      | (exfalso; omega)
      | (exfalso; rename _ = false => hF; exact dec_f hF (mem_rdat.mpr hin))
  · have F3 := fr_kstB hm F
    dsimp only [kstB] at F3
    clear F
    conv in (occs := *) lawScope => all_goals whnf
    conv in lawStmt _ => whnf
    k_with_none
    k_with "my in" => k_dflt (refine' kqd_isIn ?zjN ?zjm ?zjc ?zjd ?zjD ?zjs ?zjX ?zjx ?zja ?zjb ?zju ?_; (case zjN => k_asm); (case zjm => k_asm); (case zjc => rfl); (case zjd => rfl); (case zjD => k_asm); (case zjs => exact fun _ h => h); (case zjX => k_asm); (case zjx => exact fun _ h => h); (case zja => exact rdat_ok _); (case zjb => exact list_ok _); (case zju => exact hu))
    k_with "my call" => k_dflt (refine' Spec.use (rounds_spec w led D5 n5 its5 hD5 h9) ?k1 ?k2 ?k3 ?k4 ?k5 ?kK ?kd ?ku ?_; (case k1 => k_asm); (case k2 => k_asm); (case k3 => k_asm); (case k4 => k_asm); (case k5 => k_asm); (case kK => exact rfl); (case kd => ktr_room); (case ku => ktr_units); intro r9 led9 h9 tk9 F9 N9 ho9; obtain ⟨hsub9, D9, n9, rounds9, e9, hm9, hr9⟩ := ho9; subst e9; have hDa9 := rounds_dats hr9 (hP5.mono fun _ _ h => h.mono hsub9); have hDx9 := DatIn.list (hsub9 _ hD6) (PlV.dats (hP6.mono fun _ _ h => h.mono hsub9)); have hc5 := hsub9 _ hc5; have hc6 := hsub9 _ hc6; (try k_sweep); (try k_fold))
    k_steps
    all_goals first
      | exact hret _ _ _ _ _ (by k_asm) (by k_asm) ⟨rfl, Has.cons rfl Has.nil, hsub9⟩
      | (exfalso; omega)
      | (refine id (α := wpAny _ _ _ _ _ _) ?_
         k_with "my rev" => k_dflt (refine' krv_reversed ?zrF ?zrN ?zrl ?_; (case zrF => k_asm); (case zrN => k_asm); (case zrl => exact News.isList (by k_asm) (by first | exact hsub9 _ hD5 | exact hD5)); intro DR hR9 FR9 NR9 lR; (try k_sweep))
         k_with "my list" => k_dflt (refine' call_list_rev ?zrh ?zrF ?zrN ?zro ?zrm ?zrn ?_; (case zrh => rfl); (case zrF => k_asm); (case zrN => k_asm); (case zro => exact fun p hp => Nat.ne_of_lt (lR p hp)); (case zrm => first | exact hsub9 _ hD5 | exact hD5); (case zrn => omega); intro DL cL hL9 tkL FL9 NL9; (try k_sweep))
         k_with "my call" => k_dflt (refine' Spec.use (rounds_spec w _ _ _ its5.reverse List.mem_cons_self h59) ?k1 ?k2 ?k3 ?k4 ?k5 ?kK ?kd ?ku ?_; (case k1 => k_asm); (case k2 => k_asm); (case k3 => k_asm); (case k4 => k_asm); (case k5 => k_asm); (case kK => exact rfl); (case kd => ktr_room); (case ku => ktr_units); intro rZ ledZ hZ tkZ FZ NZ hoZ; obtain ⟨hsubZ, DZ, nZ, roundsZ, eZ, hmZ, hrZ⟩ := hoZ; subst eZ; have hsubY : ∀ q ∈ led, q ∈ ledZ := fun q hq => hsubZ q (List.mem_cons_of_mem _ (by first | exact hsub9 q hq | exact hq)); have hDaZ := rounds_dats hrZ (hP5.reverse.mono fun _ _ h => h.mono hsubY); have hDxZ := DatIn.list (hsubY _ hD6) (PlV.dats (hP6.mono fun _ _ h => h.mono hsubY)); (try k_sweep); (try k_fold))
         k_steps
         all_goals first
           | exact hret _ _ _ _ _ (by k_asm) (by k_asm) ⟨rfl, Has.cons rfl Has.nil, hsubY⟩
           | (exfalso; rename _ = false => hF; exact dec_f hF (mem_rdat.mpr hin)))
end Mine
end

namespace Mine
theorem fresh_GL1 : True := by w_top off; first | walk1 | trivial
end Mine

section
open PySem PySem.W PyProof.Rows PySem.Calls PySem.Spec
namespace Mine
inductive CutF : List RN → List (RN × RN × RN) → List RN → Prop
  | nil (l : List RN) : CutF l [] l
  | cons {l T l' k} : k < l.length → 3 ≤ l.length → Ear (rotN k l) → CutF (l.take k ++ l.drop (k + 1)) T l' → CutF l ((cyc l (k + l.length - 1), cyc l k, cyc l (k + 1)) :: T) l'
theorem CutF.snoc {l l' : List RN} {T : List (RN × RN × RN)} (h : CutF l T l') {k : Nat} (hk : k < l'.length) (h3 : 3 ≤ l'.length) (he : Ear (rotN k l')) :
    CutF l (T ++ [(cyc l' (k + l'.length - 1), cyc l' k, cyc l' (k + 1))]) (l'.take k ++ l'.drop (k + 1)) := by
  induction h with
  | nil l => exact .cons hk h3 he (.nil _)
  | cons h1 h2 h4 _ ih => exact .cons h1 h2 h4 (ih hk h3 he)
theorem rotN_eq (l : List RN) : ∀ k, k ≤ l.length → rotN k l = l.drop k ++ l.take k := by
  intro k
  induction k with
  | zero => intro _; simp [rotN]
  | succ k ih =>
    intro hk
    rw [rotN, rotN_rot, ih (by omega), List.drop_eq_getElem_cons (by omega : k < l.length)]
    show l.drop (k + 1) ++ l.take k ++ [l[k]] = _
    rw [List.append_assoc, List.take_add_one, List.getElem?_eq_getElem (by omega : k < l.length)]
    rfl
theorem rotN_mod (l : List RN) (n : Nat) (h : 0 < l.length) : rotN n l = rotN (n % l.length) l := by
  refine ext_cyc (by rw [rotN_length, rotN_length]) fun j => ?_
  rw [cyc_rotN, cyc_rotN, ← cyc_mod l (j + n), ← cyc_mod l (j + n % l.length)]
  congr 1
  rw [Nat.add_mod_mod]
theorem rotN_tail {l : List RN} {k : Nat} (hk : k < l.length) : (rotN k l).tail = rotN k (l.take k ++ l.drop (k + 1)) := by
  have hl : (l.take k ++ l.drop (k + 1)).length = l.length - 1 := by rw [List.length_append, List.length_take, List.length_drop]; omega
  have htk : (l.take k).length = k := by rw [List.length_take]; omega
  rw [rotN_eq l k (by omega), List.drop_eq_getElem_cons hk, rotN_eq _ k (by omega)]
  show l.drop (k + 1) ++ l.take k = _
  rw [List.drop_left' htk, List.take_left' htk]
theorem steps_cuts {R r' : List RN} {T : List (RN × RN × RN)} (h : Steps R T r') : ∃ l' n, CutF R T l' ∧ r' = rotN n l' := by
  induction h with
  | refl => exact ⟨_, 0, .nil _, rfl⟩
  | rot _ ih =>
    obtain ⟨l', n, hc, rfl⟩ := ih
    exact ⟨l', n + 1, hc, by rw [rotN, rotN_rot]⟩
  | cut _ h3 he ih =>
    obtain ⟨l', n, hc, rfl⟩ := ih
    rw [rotN_length] at h3
    have h0 : 0 < l'.length := by omega
    have hk := Nat.mod_lt n h0
    rw [rotN_mod l' n h0] at he ⊢
    refine ⟨_, n % l'.length, ?_, rotN_tail hk⟩
    have := hc.snoc hk h3 he
    rw [rotN_length, cyc_rotN, cyc_rotN, cyc_rotN, Nat.zero_add, show l'.length - 1 + n % l'.length = n % l'.length + l'.length - 1 by omega, Nat.add_comm 1]
    exact this
theorem CutF.sub {l l' : List RN} {T : List (RN × RN × RN)} (h : CutF l T l') : ∀ x ∈ l', x ∈ l := by
  induction h with
  | nil => exact fun _ h => h
  | cons _ _ _ _ ih =>
    intro x hx
    rcases List.mem_append.mp (ih x hx) with h | h
    · exact List.mem_of_mem_take h
    · exact List.mem_of_mem_drop h
theorem CutF.sublist {l l' : List RN} {T : List (RN × RN × RN)} (h : CutF l T l') : l'.Sublist l := by
  induction h with
  | nil => exact List.Sublist.refl _
  | @cons l T l' k _ _ _ _ ih =>
    refine ih.trans ?_
    have h1 : (l.take k ++ l.drop (k + 1)).Sublist (l.take k ++ l.drop k) := (List.Sublist.refl _).append (by
      rw [← List.drop_drop]
      exact List.drop_sublist _ _)
    rwa [List.take_append_drop] at h1
end Mine
end

namespace Mine
theorem fresh_GL2 : True := by w_top off; first | walk1 | trivial
end Mine

section
open PySem PySem.W PyProof.Rows PySem.Calls PySem.Spec
namespace Mine
theorem lturn_area (a b c : RN) : lturn a b c = - area3 a b c := by
  unfold lturn area3
  omega
theorem bary_id (ax ay bx by' cx cy px py : Int) :
    ((bx - ax) * (py - by') - (by' - ay) * (px - bx)) + ((cx - bx) * (py - cy) - (cy - by') * (px - cx)) + ((ax - cx) * (py - ay) - (ay - cy) * (px - ax)) = (bx - ax) * (cy - by') - (by' - ay) * (cx - bx) := by
  grind
theorem bary_x (ax ay bx by' cx cy px py : Int) :
    ((bx - ax) * (py - by') - (by' - ay) * (px - bx)) * (cx - px) + ((cx - bx) * (py - cy) - (cy - by') * (px - cx)) * (ax - px) + ((ax - cx) * (py - ay) - (ay - cy) * (px - ax)) * (bx - px) = 0 := by
  grind
theorem bary_y (ax ay bx by' cx cy px py : Int) :
    ((bx - ax) * (py - by') - (by' - ay) * (px - bx)) * (cy - py) + ((cx - bx) * (py - cy) - (cy - by') * (px - cx)) * (ay - py) + ((ax - cx) * (py - ay) - (ay - cy) * (px - ax)) * (by' - py) = 0 := by
  grind
theorem wsum {u v w a b c : Int} (hu : 0 ≤ u) (hv : 0 ≤ v) (hw : 0 ≤ w) (hD : 0 < u + v + w) (h : u * a + v * b + w * c = 0) : ¬ (0 < a ∧ 0 < b ∧ 0 < c) ∧ ¬ (a < 0 ∧ b < 0 ∧ c < 0) := by
  constructor
  · rintro ⟨ha, hb, hc⟩
    have h1 := Int.mul_nonneg hu (Int.le_of_lt ha)
    have h2 := Int.mul_nonneg hv (Int.le_of_lt hb)
    have h3 := Int.mul_nonneg hw (Int.le_of_lt hc)
    have z1 : u = 0 := by
      rcases Int.lt_or_eq_of_le hu with h' | h'
      · have := Int.mul_pos h' ha; omega
      · exact h'.symm
    have z2 : v = 0 := by
      rcases Int.lt_or_eq_of_le hv with h' | h'
      · have := Int.mul_pos h' hb; omega
      · exact h'.symm
    have z3 : w = 0 := by
      rcases Int.lt_or_eq_of_le hw with h' | h'
      · have := Int.mul_pos h' hc; omega
      · exact h'.symm
    omega
  · rintro ⟨ha, hb, hc⟩
    have h1 := Int.mul_nonneg hu (by omega : 0 ≤ -a)
    have h2 := Int.mul_nonneg hv (by omega : 0 ≤ -b)
    have h3 := Int.mul_nonneg hw (by omega : 0 ≤ -c)
    rw [Int.mul_neg] at h1 h2 h3
    have z1 : u = 0 := by
      rcases Int.lt_or_eq_of_le hu with h' | h'
      · have := Int.mul_pos h' (by omega : 0 < -a); rw [Int.mul_neg] at this; omega
      · exact h'.symm
    have z2 : v = 0 := by
      rcases Int.lt_or_eq_of_le hv with h' | h'
      · have := Int.mul_pos h' (by omega : 0 < -b); rw [Int.mul_neg] at this; omega
      · exact h'.symm
    have z3 : w = 0 := by
      rcases Int.lt_or_eq_of_le hw with h' | h'
      · have := Int.mul_pos h' (by omega : 0 < -c); rw [Int.mul_neg] at this; omega
      · exact h'.symm
    omega
/-- a point within the triangle lies within its box, where the ear turns left -/
theorem box_of_tri {a b c p : RN} (h : 0 < lturn a b c) (h1 : 0 ≤ lturn a b p) (h2 : 0 ≤ lturn b c p) (h3 : 0 ≤ lturn c a p) : InBox a b c p := by
  unfold lturn at h h1 h2 h3
  have e := bary_id a.x a.y b.x b.y c.x c.y p.x p.y
  rw [← e] at h
  have hx := wsum h1 h2 h3 h (bary_x a.x a.y b.x b.y c.x c.y p.x p.y)
  have hy := wsum h1 h2 h3 h (bary_y a.x a.y b.x b.y c.x c.y p.x p.y)
  clear e h h1 h2 h3
  obtain ⟨x1, x2⟩ := hx
  obtain ⟨y1, y2⟩ := hy
  refine ⟨?_, ?_, ?_, ?_⟩
  · rcases Int.lt_or_le p.x (min (min a.x b.x) c.x) with hl | hl
    · exact absurd ⟨by omega, by omega, by omega⟩ x1
    · exact hl
  · rcases Int.lt_or_le (max (max a.x b.x) c.x) p.x with hl | hl
    · exact absurd ⟨by omega, by omega, by omega⟩ x2
    · exact hl
  · rcases Int.lt_or_le p.y (min (min a.y b.y) c.y) with hl | hl
    · exact absurd ⟨by omega, by omega, by omega⟩ y1
    · exact hl
  · rcases Int.lt_or_le (max (max a.y b.y) c.y) p.y with hl | hl
    · exact absurd ⟨by omega, by omega, by omega⟩ y2
    · exact hl
theorem intri_iff (a b c p : RN) : InTri a.x a.y b.x b.y c.x c.y p.x p.y ↔ 0 ≤ lturn a b p ∧ 0 ≤ lturn b c p ∧ 0 ≤ lturn c a p := by
  unfold InTri lturn
  have e1 : (a.x - p.x) * (b.y - p.y) - (b.x - p.x) * (a.y - p.y) = (b.x - a.x) * (p.y - b.y) - (b.y - a.y) * (p.x - b.x) := by grind
  have e2 : (b.x - p.x) * (c.y - p.y) - (c.x - p.x) * (b.y - p.y) = (c.x - b.x) * (p.y - c.y) - (c.y - b.y) * (p.x - c.x) := by grind
  have e3 : (c.x - p.x) * (a.y - p.y) - (a.x - p.x) * (c.y - p.y) = (a.x - c.x) * (p.y - a.y) - (a.y - c.y) * (p.x - a.x) := by grind
  rw [← e1, ← e2, ← e3]
  omega
/-- the law's ear is the ear of the ring turned so -/
theorem ear_iff {l : List RN} (h3 : 3 ≤ l.length) (k : Nat) : Ear (rotN k l) ↔ LEar l k := by
  unfold Ear LEar
  rw [rotN_length, cyc_rotN, cyc_rotN, cyc_rotN, show l.length - 1 + k = k + l.length - 1 by omega, Nat.zero_add, Nat.add_comm 1 k]
  have hb : ∀ j, 2 ≤ j → j < l.length - 1 → 0 < lturn (cyc l (k + l.length - 1)) (cyc l k) (cyc l (k + 1)) → (Blocks (rotN k l) j ↔ LBad l k j) := by
    intro j hj2 hj hpos
    unfold Blocks LBad
    rw [rotN_length, cyc_rotN, cyc_rotN, cyc_rotN, cyc_rotN, cyc_rotN, cyc_rotN, show l.length - 1 + k = k + l.length - 1 by omega, Nat.zero_add, Nat.add_comm 1 k, intri_iff, Nat.add_comm j k,
      show j + 1 + k = k + j + 1 by omega, show k + j + l.length - 1 = (j - 1 + k) + l.length by omega, cyc_add, lturn_area (cyc l (j - 1 + k))]
    constructor
    · rintro ⟨_, ⟨h1, h2, h3⟩, h4⟩
      exact ⟨by omega, by omega⟩
    · rintro ⟨h1, h4⟩
      have q1 : 0 ≤ lturn (cyc l (k + l.length - 1)) (cyc l k) (cyc l (k + j)) := by omega
      have q2 : 0 ≤ lturn (cyc l k) (cyc l (k + 1)) (cyc l (k + j)) := by omega
      have q3 : 0 ≤ lturn (cyc l (k + 1)) (cyc l (k + l.length - 1)) (cyc l (k + j)) := by omega
      exact ⟨box_of_tri hpos q1 q2 q3, ⟨q1, q2, q3⟩, by omega⟩
  have ea := lturn_area (cyc l (k + l.length - 1)) (cyc l k) (cyc l (k + 1))
  constructor
  · rintro ⟨h1, h2⟩
    have hpos : 0 < lturn (cyc l (k + l.length - 1)) (cyc l k) (cyc l (k + 1)) := by omega
    exact ⟨hpos, fun t ht2 ht hbad => h2 t ht2 ht ((hb t ht2 ht hpos).mpr hbad)⟩
  · rintro ⟨hpos, h2⟩
    exact ⟨by omega, fun t ht2 ht hbl => h2 t ht2 ht ((hb t ht2 ht hpos).mp hbl)⟩
end Mine
end

namespace Mine
theorem fresh_G24 : True := by w_top off; first | walk1 | trivial
end Mine

section
open PySem PySem.W PyProof.Rows PySem.Calls PySem.Spec
set_option maxRecDepth 100000
set_option maxHeartbeats 1000000
namespace Mine
open LCg
local macro_rules | `(tactic| k_mem) => `(tactic| first | assumption | exact upd_self (by assumption) | (refine upd_ne ?_ (by first | assumption | (apply Ne.symm; assumption)); k_mem))
local macro_rules | `(tactic| walk_at "eval ListComp") => `(tactic| (refine Hold.out ?_))
local macro_rules | `(tactic| walk_at "exec Assign cons ListComp") => `(tactic| fail "no")
local macro_rules | `(tactic| walk_at "storeName") => `(tactic| (k_here; k_dflt (refine' store_cellU ?zsF ?zsN ?zsc ?zsm ?zsd ?zsk ?zsl ?_; (case zsF => k_asm); (case zsN => k_asm); (case zsc => rfl); (case zsm => k_mem); (case zsd => k_asm); (case zsk => rfl); (case zsl => rfl)); intro h' o' F' N' d' kp'; (try k_sweep)))
local macro_rules | `(tactic| walk_at "CompSrc") => `(tactic| (refine Hold.out ?_))
local macro_rules | `(tactic| walk_at "CompSrcT") => `(tactic| (refine Hold.out ?_))
local macro_rules | `(tactic| walk_at "newTuple") => `(tactic| (k_here; k_dflt (refine' kup_newTuple ?ztF ?ztN ?_ ?ztz; (case ztF => k_asm); (case ztN => k_asm); (case ztz => kmk_size)); intro D' h' F' N' l1; (try k_sweep)))
local macro_rules | `(tactic| walk_at "subscriptTail Name Slice ref ref") => `(tactic| (k_here; (with_reducible show wpAny _ _ (subscriptTail _ (PySem.Expr.Slice _ _ none _) (Value.ref _) (Value.ref _)) _ _ _); k_dflt (refine' kmk_slice_lit ?slF ?slN ?sll ?slp ?slq ?sle ?_ ?sls ?slt ?slz; (case slF => k_asm); (case slN => k_asm); (case sll => exact News.isList (by k_asm) (by k_mem)); (case slp => kmk_part); (case slq => kmk_part); (case sle => first | exact pick_upto _ (by first | decide | with_reducible assumption | omega) | exact pick_from _ (by first | decide | with_reducible assumption | omega) | exact pick_neg _ (by first | decide | with_reducible assumption | omega)); (case sls => with_unfolding_all rfl); (case slt => kmk_pure); (case slz => exact szL (by first | with_reducible assumption | omega))); intro D' h' F' N' l1; (try k_sweep)))
local macro_rules | `(tactic| walk_at "binaryOp Add ref ref") => `(tactic| (k_here; k_dflt (refine' kmk_add_lit ?adF ?adN ?ada ?adb ?ade ?_ ?adz; (case adF => k_asm); (case adN => k_asm); (case ada => exact News.isList (by k_asm) (by k_mem)); (case adb => exact News.isList (by k_asm) (by k_mem)); (case ade => exact catL _ _); (case adz => exact szLL (by first | with_reducible assumption | (simp only [List.length_take, List.length_drop]; omega)))); intro D' h' F' N' l1; (try k_sweep)))
theorem NumsV.kf {ys : List Value} {ns : List Nat} (h : NumsV ys ns) : kf_ints ys = true := by
  unfold NumsV at h
  induction h with
  | nil => rfl
  | cons h _ ih => obtain ⟨t, rfl⟩ := h; exact ih
theorem NumsV.any {ys : List Value} {ns : List Nat} (h : NumsV ys ns) {x : Nat} (hx : x ∈ ns) : ys.any (isInt (x : Int)) = true := by
  unfold NumsV at h
  induction h with
  | nil => cases hx
  | cons h _ ih =>
    obtain ⟨t, rfl⟩ := h
    rw [List.any_cons]
    rcases List.mem_cons.mp hx with rfl | hx
    · simp [isInt]
    · rw [ih hx, Bool.or_true]
theorem NumsV.at {ys : List Value} {ns : List Nat} (h : NumsV ys ns) : ∀ {j x : Nat}, ns[j]? = some x → ns.Nodup → kf_at (x : Int) ys = some j := by
  unfold NumsV at h
  induction h with
  | nil => intro j x e; cases e
  | @cons v n vs ns' h _ ih =>
    obtain ⟨t, rfl⟩ := h
    intro j x e hnd
    obtain ⟨hn, hnd'⟩ := List.nodup_cons.mp hnd
    cases j with
    | zero =>
      cases e
      unfold kf_at
      simp [isInt]
    | succ j =>
      have hx : ns'[j]? = some x := e
      have hne : n ≠ x := fun e' => hn (e' ▸ List.mem_of_getElem? hx)
      unfold kf_at
      have : isInt (x : Int) (.int (n : Nat) t) = false := by simp [isInt]; omega
      rw [this, ih hx hnd']
      rfl
theorem NumsV.three {ys : List Value} {a b c : Nat} (h : NumsV ys [a, b, c]) : ∃ t1 t2 t3, ys = [.int a t1, .int b t2, .int c t3] := by
  unfold NumsV at h
  cases h with
  | cons h1 h => cases h with
    | cons h2 h => cases h with
      | cons h3 h => cases h with
        | nil =>
          obtain ⟨t1, rfl⟩ := h1
          obtain ⟨t2, rfl⟩ := h2
          obtain ⟨t3, rfl⟩ := h3
          exact ⟨t1, t2, t3, rfl⟩
theorem CutF.inv {l l' : List RN} {t : RN × RN × RN} {T : List (RN × RN × RN)} (h : CutF l (t :: T) l') : ∃ k, k < l.length ∧ 3 ≤ l.length ∧ Ear (rotN k l) ∧ t = (cyc l (k + l.length - 1), cyc l k, cyc l (k + 1)) ∧ CutF (l.take k ++ l.drop (k + 1)) T l' := by
  cases h with
  | cons h1 h2 h3 h4 => exact ⟨_, h1, h2, h3, rfl, h4⟩
theorem filter_one {n x : Nat} {b : Nat → Bool} (hx : x < n) (h : ∀ j, j < n → (b j = true ↔ j = x)) : (List.range n).filter b = [x] := by
  induction n with
  | zero => exact absurd hx (Nat.not_lt_zero _)
  | succ n ih =>
    rw [range_filter_succ]
    by_cases hxn : x = n
    · subst hxn
      have h0 : (List.range x).filter b = [] := by
        rw [List.filter_eq_nil_iff]
        intro j hj hb
        have hj' := List.mem_range.mp hj
        exact Nat.ne_of_lt hj' ((h j (by omega)).mp hb)
      rw [h0, if_pos ((h x (by omega)).mpr rfl)]; rfl
    · have hb : ¬ b n = true := fun hb => hxn ((h n (by omega)).mp hb).symm
      rw [ih (by omega) (fun j hj => h j (by omega)), if_neg hb]; rfl
/-- idx names the place of a node's point -/
structure Idx (pts : List PtR) (R : List RN) (idx : RN → Nat) : Prop where
  lt : ∀ r ∈ R, idx r < pts.length
  at' : ∀ r ∈ R, ∀ h : idx r < pts.length, pts[idx r].a = r.pt ∧ pts[idx r].x = r.x ∧ pts[idx r].y = r.y
  nodup : (R.map idx).Nodup
theorem Idx.filter {pts : List PtR} {R : List RN} {idx : RN → Nat} (X : Idx pts R idx) (hnd : (pts.map (·.a)).Nodup) {r : RN} (hr : r ∈ R) :
    (List.range pts.length).filter (fun j => decide ((pts[j]?.map (·.a)) = some r.pt)) = [idx r] := by
  have h1 := X.lt r hr
  refine filter_one h1 fun j hj => ?_
  rw [decide_eq_true_eq, List.getElem?_eq_getElem hj]
  show some pts[j].a = some r.pt ↔ _
  rw [Option.some.injEq, ← (X.at' r hr h1).1]
  constructor
  · intro e
    have : (pts.map (·.a))[j]'(by simpa using hj) = (pts.map (·.a))[idx r]'(by simpa using h1) := by simpa using e
    exact (List.getElem_inj hnd).mp this
  · rintro rfl; rfl
local macro_rules | `(tactic| walk_at "call ref") => `(tactic| k_extra "my call")
local macro_rules | `(tactic| walk_at "call builtin:len") => `(tactic| (k_here; k_dflt (refine' lenL ?zlN ?zlm ?zlf ?_; (case zlN => k_asm); (case zlm => k_mem); (case zlf => exact fitL (by first | with_reducible assumption | omega | decide)); intro _)))
local macro_rules | `(tactic| walk_at "exec For Name Name cons nil") => `(tactic| (refine Hold.out ?_))
local macro_rules | `(tactic| walk_at "exec For Name Call cons nil") => `(tactic| (refine Hold.out ?_))
local macro_rules | `(tactic| walk_at "pyIter ref") => `(tactic| (refine Hold.out ?_))
local macro_rules | `(tactic| walk_at "FlPost") => `(tactic| (dsimp only [FlPost]))
local macro_rules | `(tactic| walk_at "FlEnd") => `(tactic| (refine Hold.out ?_))
local macro_rules | `(tactic| walk_at "compareOp Is ref ref") => `(tactic| (k_here; k_dflt (refine' is_ref ?N ?a ?b ?c ?_; (case N => k_asm); (case a => k_mem); (case b => k_mem); (case c => intro z; cases z))))
local macro_rules | `(tactic| walk_at "compareOp IsNot ref ref") => `(tactic| (k_here; k_dflt (refine' isnot_ref ?N ?a ?b ?c ?_; (case N => k_asm); (case a => k_mem); (case b => k_mem); (case c => intro z; cases z))))
local macro_rules | `(tactic| walk_at "call builtin:list.append") => `(tactic| (k_here; k_dflt (refine' append_U ?k1 ?k2 ?k3 ?_ ?z; (case k1 => k_asm); (case k2 => k_asm); (case k3 => k_mem); (case z => exact szL (by first | with_reducible assumption | omega)); intro h' F' N'; (try k_sweep))))
local macro_rules | `(tactic| walk_at "subscriptTail Name Name ref int") => `(tactic| k_extra "my item")
local macro_rules | `(tactic| walk_at "subscriptTail Name BinOp ref int") => `(tactic| k_extra "my item")
local macro_rules | `(tactic| walk_at "subscriptTail Name Constant ref int") => `(tactic| k_extra "my item")
local macro_rules | `(tactic| walk_at "subscriptTail Name UnaryOp ref int") => `(tactic| k_extra "my item")
local macro_rules | `(tactic| walk_at "subscriptTail Name Call ref int") => `(tactic| k_extra "my item")
/-- left = order -/
theorem seg16 (w : World) (v : Value) (led0 : Led) (D4 : Addr) :
    Seg w (lawStmt 16) (fun h₀ L m led => led = led0 ∧ Has [(Str.ofString "told", v)] m ∧ Cel led (L + 4) (some (.ref D4)))
      (fun f L led m' led' => f = .next ∧ Has [(Str.ofString "told", v), (Str.ofString "left", .ref D4)] m' ∧ led' = led) := by
  unfold Seg
  k_fill
  intro loose mean mg mb dp un gd cn a ccd outer A₀ base h₀ L m led s Q E B F X N TT hd9 hu9 hpre hE hret
  obtain ⟨rfl, hm, ⟨o4, hc4, hd4⟩⟩ := hpre
  have F3 := fr_kstB hm F
  dsimp only [kstB] at F3
  clear F
  conv in (occs := *) lawScope => all_goals whnf
  conv in lawStmt _ => whnf
  k_with_none
  k_steps
  exact hret _ _ _ _ _ (by k_asm) (by k_asm) ⟨rfl, Has.cons rfl (Has.cons rfl Has.nil), rfl⟩
end Mine
end

namespace Mine
theorem fresh_G25 : True := by w_top off; first | walk1 | trivial
end Mine

section
open PySem PySem.W PyProof.Rows PySem.Calls PySem.Spec
set_option maxRecDepth 100000
set_option maxHeartbeats 1000000
namespace Mine
open LCg
local macro_rules | `(tactic| k_mem) => `(tactic| first | assumption | exact upd_self (by assumption) | (refine upd_ne ?_ (by first | assumption | (apply Ne.symm; assumption)); k_mem))
local macro_rules | `(tactic| walk_at "eval ListComp") => `(tactic| (refine Hold.out ?_))
local macro_rules | `(tactic| walk_at "exec Assign cons ListComp") => `(tactic| fail "no")
local macro_rules | `(tactic| walk_at "storeName") => `(tactic| (k_here; k_dflt (refine' store_cellU ?zsF ?zsN ?zsc ?zsm ?zsd ?zsk ?zsl ?_; (case zsF => k_asm); (case zsN => k_asm); (case zsc => rfl); (case zsm => k_mem); (case zsd => k_asm); (case zsk => rfl); (case zsl => rfl)); intro h' o' F' N' d' kp'; (try k_sweep)))
local macro_rules | `(tactic| walk_at "CompSrc") => `(tactic| (refine Hold.out ?_))
local macro_rules | `(tactic| walk_at "CompSrcT") => `(tactic| (refine Hold.out ?_))
local macro_rules | `(tactic| walk_at "newTuple") => `(tactic| (k_here; k_dflt (refine' kup_newTuple ?ztF ?ztN ?_ ?ztz; (case ztF => k_asm); (case ztN => k_asm); (case ztz => kmk_size)); intro D' h' F' N' l1; (try k_sweep)))
local macro_rules | `(tactic| walk_at "subscriptTail Name Slice ref ref") => `(tactic| (k_here; (with_reducible show wpAny _ _ (subscriptTail _ (PySem.Expr.Slice _ _ none _) (Value.ref _) (Value.ref _)) _ _ _); k_dflt (refine' kmk_slice_lit ?slF ?slN ?sll ?slp ?slq ?sle ?_ ?sls ?slt ?slz; (case slF => k_asm); (case slN => k_asm); (case sll => exact News.isList (by k_asm) (by k_mem)); (case slp => kmk_part); (case slq => kmk_part); (case sle => first | exact pick_upto _ (by first | decide | with_reducible assumption | omega) | exact pick_from _ (by first | decide | with_reducible assumption | omega) | exact pick_neg _ (by first | decide | with_reducible assumption | omega)); (case sls => with_unfolding_all rfl); (case slt => kmk_pure); (case slz => exact szL (by first | with_reducible assumption | omega))); intro D' h' F' N' l1; (try k_sweep)))
local macro_rules | `(tactic| walk_at "binaryOp Add ref ref") => `(tactic| (k_here; k_dflt (refine' kmk_add_lit ?adF ?adN ?ada ?adb ?ade ?_ ?adz; (case adF => k_asm); (case adN => k_asm); (case ada => exact News.isList (by k_asm) (by k_mem)); (case adb => exact News.isList (by k_asm) (by k_mem)); (case ade => exact catL _ _); (case adz => exact szLL (by first | with_reducible assumption | (simp only [List.length_take, List.length_drop]; omega)))); intro D' h' F' N' l1; (try k_sweep)))
theorem cel_ne {L : Addr} {a b : Nat} (h : a ≠ b) : (L + a : Addr) ≠ L + b := fun e => h (Nat.add_left_cancel (n := L) e)
theorem corners_at {led : Led} {its : List Value} {l : List RN} (h : All2 (PlV led) its (l.map fun r => (r.x, r.y))) : CornersAt led its.toArray l := by
  have hl : its.length = l.length := by rw [h.length, List.length_map]
  refine ⟨by simpa using hl, fun j hj => ?_⟩
  obtain ⟨v, e, a, rfl, ht⟩ := h.nth (i := j) (by simpa using hj)
  refine ⟨a, by simpa using e, ?_⟩
  rw [cyc_lt hj]
  simpa using ht
theorem Idx.pl {pts : List PtR} {R l : List RN} {idx : RN → Nat} {ps : List (Int × Int)} (X : Idx pts R idx) (hpc : pts.map (fun p => (p.x, p.y)) = ps) (hl : ∀ r ∈ l, r ∈ R) : (l.map idx).map (Mine.at' ps) = l.map fun r => (r.x, r.y) := by
  rw [List.map_map]
  refine List.map_congr_left fun r hr => ?_
  have h1 := X.lt r (hl r hr)
  have h2 := X.at' r (hl r hr) h1
  show Mine.at' ps (idx r) = _
  subst hpc
  rw [at_eq (by simpa using h1)]
  simp [h2.2.1, h2.2.2]
def trB (pts : List PtR) (a b c : Addr) (i j : Nat) : Bool := decide ((pts[j]?.map (·.a)) = some ([a, b, c].getD i 0))
theorem drop_get {α : Type} {l : List α} {i : Nat} {a : α} (h : l[i]? = some a) : l.drop i = a :: l.drop (i + 1) := by
  have hi : i < l.length := by
    rcases Nat.lt_or_ge i l.length with h' | h'
    · exact h'
    · rw [List.getElem?_eq_none h'] at h; cases h
  rw [List.getElem?_eq_getElem hi] at h
  rw [List.drop_eq_getElem_cons hi, Option.some.inj h]
theorem NumsV.get {ys : List Value} {ns : List Nat} (h : NumsV ys ns) {j x : Nat} (e : ns[j]? = some x) : ∃ t, ys[j]? = some (.int x t) := by
  have hj : j < ns.length := by
    rcases Nat.lt_or_ge j ns.length with h' | h'
    · exact h'
    · rw [List.getElem?_eq_none h'] at e; cases e
  obtain ⟨v, ev, t, rfl⟩ := All2.nth h hj
  rw [List.getElem?_eq_getElem hj] at e
  exact ⟨t, by rw [ev, Option.some.inj e]⟩
theorem map_cyc {l : List RN} (idx : RN → Nat) {j : Nat} (h : 0 < l.length) : (l.map idx)[j % l.length]? = some (idx (cyc l j)) := by
  have hm := Nat.mod_lt j h
  rw [← cyc_mod, cyc_lt hm, List.getElem?_map, List.getElem?_eq_getElem hm]; rfl
theorem emod_toNat {i : Int} {n j : Nat} (hn : 0 < n) (h : i % (n : Int) = (j : Int) % (n : Int)) : (i % (n : Int)).toNat = j % n := by
  rw [h]; omega
theorem end17 {h₀ h' : Heap} {L : Addr} {m' : Str → Option Value} {s : Shared} {I a : Addr} {oI ob : Obj} {rest ledc : Led} {J : Led → (Str → Option Value) → Prop} {tk : Nat}
    (F : Fr h₀ L h' m') (N : News h₀ L h' ((a, ob) :: rest)) (lt : ∀ p ∈ rest, p.1 < a) (hI : (I, oI) ∈ rest) (hb : ∀ p ∈ ledc, p ∈ rest) (off : ∀ p ∈ ledc, p.1 ≠ I) (hJ : J ((a, ob) :: ledc) m') :
    FlEnd h₀ L s I oI (fun c => c) J { s with heap := h', toks := tk } := by
  refine fl_end ((a, ob) :: ledc) F N (.tail _ hI) (fun p hp => ?_) (fun p hp => ?_) hJ
  · rcases List.mem_cons.mp hp with rfl | hp
    · exact .head _
    · exact .tail _ (hb p hp)
  · rcases List.mem_cons.mp hp with rfl | hp
    · exact Nat.ne_of_gt (lt _ hI)
    · exact off p hp
local macro_rules | `(tactic| walk_at "call ref") => `(tactic| k_extra "my call")
local macro_rules | `(tactic| walk_at "call builtin:len") => `(tactic| (k_here; k_dflt (refine' lenL ?zlN ?zlm ?zlf ?_; (case zlN => k_asm); (case zlm => k_mem); (case zlf => exact fitL (by first | with_reducible assumption | omega | decide)); intro _)))
local macro_rules | `(tactic| walk_at "exec For Name Name cons nil") => `(tactic| (refine Hold.out ?_))
local macro_rules | `(tactic| walk_at "exec For Name Call cons nil") => `(tactic| (refine Hold.out ?_))
local macro_rules | `(tactic| walk_at "pyIter ref") => `(tactic| (refine Hold.out ?_))
local macro_rules | `(tactic| walk_at "FlPost") => `(tactic| (dsimp only [FlPost]))
local macro_rules | `(tactic| walk_at "FlEnd") => `(tactic| (refine Hold.out ?_))
local macro_rules | `(tactic| walk_at "compareOp Is ref ref") => `(tactic| (k_here; k_dflt (refine' is_ref ?N ?a ?b ?c ?_; (case N => k_asm); (case a => k_mem); (case b => k_mem); (case c => intro z; cases z))))
local macro_rules | `(tactic| walk_at "compareOp IsNot ref ref") => `(tactic| (k_here; k_dflt (refine' isnot_ref ?N ?a ?b ?c ?_; (case N => k_asm); (case a => k_mem); (case b => k_mem); (case c => intro z; cases z))))
local macro_rules | `(tactic| walk_at "call builtin:list.append") => `(tactic| (k_here; k_dflt (refine' append_U ?k1 ?k2 ?k3 ?_ ?z; (case k1 => k_asm); (case k2 => k_asm); (case k3 => k_mem); (case z => exact szL (by first | with_reducible assumption | omega)); intro h' F' N'; (try k_sweep))))
local macro_rules | `(tactic| walk_at "subscriptTail Name Name ref int") => `(tactic| k_extra "my item")
local macro_rules | `(tactic| walk_at "subscriptTail Name BinOp ref int") => `(tactic| k_extra "my item")
local macro_rules | `(tactic| walk_at "subscriptTail Name Constant ref int") => `(tactic| k_extra "my item")
local macro_rules | `(tactic| walk_at "subscriptTail Name UnaryOp ref int") => `(tactic| k_extra "my item")
local macro_rules | `(tactic| walk_at "subscriptTail Name Call ref int") => `(tactic| k_extra "my item")
local macro_rules | `(tactic| walk_at "call ref") => `(tactic| k_extra "my call")
local macro_rules | `(tactic| walk_at "exec Assign cons ListComp") => `(tactic| (refine Hold.out ?_))
local macro_rules | `(tactic| walk_at "compareOp NotIn int ref") => `(tactic| k_extra "my notin")
local macro_rules | `(tactic| walk_at "call builtin:list.index") => `(tactic| k_extra "my index")
theorem seg17 (w : World) (led0 : Led) (T D0 D1 D4 : Addr) (n0 n1 n4 nT : Nat) (its ys4 items : List Value) (ps : List (Int × Int)) (pts : List PtR) (R lfin : List RN) (tris : List (RN × RN × RN)) (idx : RN → Nat)
    (hp9 : pts.length ≤ 9) (hR9 : R.length ≤ 9) (hpc : pts.map (fun p => (p.x, p.y)) = ps) (hX : Idx pts R idx) (hnd : (pts.map (·.a)).Nodup) (hcut : CutF R tris lfin) (hT : All2 (TriIt led0) items tris) (hP : All2 (PlV led0) its ps) (hPt : ∀ p ∈ pts, PtAt w.params led0 p) (hY4 : NumsV ys4 (R.map idx)) :
    Seg w (lawStmt 17) (fun h₀ L m led => led = led0 ∧ Has [(Str.ofString "told", .ref T), (Str.ofString "left", .ref D4)] m ∧ Cel led (L + 1) (some (.ref D0)) ∧ Cel led (L + 2) (some (.ref D1)) ∧ (∃ v6, Cel led (L + 6) v6) ∧ (D0, listOf its.toArray n0) ∈ led ∧ (D1, listOf (ptItems pts) n1) ∈ led ∧ (D4, listOf ys4.toArray n4) ∈ led ∧ (T, listOf items.toArray nT) ∈ led)
      (fun f L led m' led' => f = .next ∧ ∃ Dl n ys, Has [(Str.ofString "left", .ref Dl)] m' ∧ Kp (L + 6) led led' ∧ (∃ v6, Cel led' (L + 6) v6) ∧ (Dl, listOf ys.toArray n) ∈ led' ∧ NumsV ys (lfin.map idx)) := by
  unfold Seg
  k_fill
  intro loose mean mg mb dp un gd cn a ccd outer A₀ base h₀ L m led s Q E B F X N TT hd9 hu9 hpre hE hret
  obtain ⟨rfl, hm, hC1, hC2, hC6, hD0, hD1, hD4, hTl⟩ := hpre
  have hpsz : (ptItems pts).size = pts.length := by simp
  have hptl : (pts.map fun p => Value.ref p.a).length ≤ 200 := by rw [List.length_map]; omega
  have hil : its.length = pts.length := by rw [hP.length, ← hpc, List.length_map]
  have F3 := fr_kstB hm F
  dsimp only [kstB] at F3
  clear F
  conv in (occs := *) lawScope => all_goals whnf
  conv in lawStmt _ => whnf
  k_with_none
  k_steps
  refine id (α := wpAny _ _ _ _ _ _) ?_
  with_unfolding_all refine wpAny_For ?_ (by intro _; rfl)
  try k_fold
  k_steps
  refine id (α := wpAny _ _ _ _ _ _) ?_
  (rename Fr _ _ _ _ => F1); (rename News _ _ _ _ => N1)
  with_unfolding_all refine for_list (σ := Led) (items := items.toArray) (n0 := nT) (fun c => c) (fun i c m => ∃ l Dl n ys, CutF l (tris.drop i) lfin ∧ l.Sublist R ∧ Has [(Str.ofString "told", .ref T), (Str.ofString "left", .ref Dl)] m ∧ Kp (L + 6) led c ∧ (∃ v6, Cel c (L + 6) v6) ∧ (Dl, listOf ys.toArray n) ∈ c ∧ NumsV ys (l.map idx)) led rfl F1 N1 ?src ?hj ?turn ?done (by intro _ _; rfl) hE
  case src =>
    rintro k c m ⟨l, Dl, n, ys, _, _, _, hkp, _⟩
    exact hkp.obj _ hTl (fun v h => by cases h)
  case hj =>
    exact ⟨R, D4, n4, ys4, by simpa using hcut, List.Sublist.refl _, Has.cons rfl (Has.cons rfl Has.nil), Kp.sub (fun p hp => hp), hC6, hD4, hY4⟩
  case done =>
    rintro c m₁ h tk ⟨l, Dl, n, ys, hcut, _, hm2, hkp, hC6, hDl, hY⟩ F2 N2
    have hlf : l = lfin := by
      rw [List.size_toArray, hT.length, List.drop_length] at hcut
      cases hcut; rfl
    subst hlf
    clear F1 N1
    k_steps
    exact hret _ _ _ _ _ (by k_asm) (by k_asm) ⟨rfl, Dl, n, ys, fun p hp => hm2 p (List.mem_cons_of_mem _ hp), hkp, hC6, hDl, hY⟩
  case turn =>
    rintro i v c m₁ h tk I oI hv ⟨l, Dl, nl, ys, hcut, hsub, hm2, hkp, ⟨v6, o6, hc6, hd6⟩, hDl, hY⟩ F2 N2 off2
    obtain ⟨t, ht, x, n, rfl, hx⟩ := hT.get (show items[i]? = some v by simpa using hv)
    rw [drop_get ht] at hcut
    obtain ⟨k, hk, h3, hear, rfl, hcut'⟩ := hcut.inv
    refine wpAny_assign_Name (store_cellU F2 N2 (c := L + 6) rfl (.tail _ hc6) hd6 rfl rfl ?_)
    intro h' o' F4 N4 hd' kp3
    have hI6 : I ≠ L + 6 := Ne.symm (off2 _ hc6)
    have kpn : Kp (L + 6) led (upd (L + 6) o' ((I, oI) :: c)) := hkp.trans ((Kp.sub (fun p hp => .tail _ hp)).trans kp3)
    have kpc : Kp (L + 6) led (upd (L + 6) o' c) := hkp.trans (Kp.of_upd (news_tail N2) hc6 hd6 (fun p hp => hp) o')
    have hIn : (I, oI) ∈ upd (L + 6) o' ((I, oI) :: c) := upd_ne (.head _) hI6
    have hc6n : (L + 6, o') ∈ upd (L + 6) o' ((I, oI) :: c) := upd_self (.tail _ hc6)
    have hc6c : (L + 6, o') ∈ upd (L + 6) o' c := upd_self hc6
    have hback : ∀ p ∈ upd (L + 6) o' c, p ∈ upd (L + 6) o' ((I, oI) :: c) := fun p hp => List.mem_cons_of_mem _ hp
    have hoffI : ∀ p ∈ upd (L + 6) o' c, p.1 ≠ I := fun p hp => by
      rcases upd_mem hp with rfl | ⟨hp, _⟩
      · exact Ne.symm hI6
      · exact off2 _ hp
    generalize upd (L + 6) o' c = ledc at kpc hc6c hback hoffI
    generalize upd (L + 6) o' ((I, oI) :: c) = ledn at N4 kp3 kpn hIn hc6n hback
    have hDln : (Dl, listOf ys.toArray nl) ∈ ledn := kp3.obj _ (.tail _ hDl) (fun v h => by cases h)
    have F5 := fr_kstB hm2 F4
    dsimp only [kstB] at F5
    obtain ⟨o1, hc1, hd1⟩ := kpn.cel (L + 1) _ (cel_ne (by decide)) hC1
    obtain ⟨o2, hc2, hd2⟩ := kpn.cel (L + 2) _ (cel_ne (by decide)) hC2
    have hD0n := kpn.obj _ hD0 (fun v h => by cases h)
    have hD1n := kpn.obj _ hD1 (fun v h => by cases h)
    have hxn := kpn.obj _ hx (fun v h => by cases h)
    have hPtn : ∀ p ∈ pts, PtAt w.params ledn p := fun p hp => (hPt p hp).kp kpn
    have hPn : All2 (PlV ledn) its ps := hP.mono fun _ _ h => h.kp kpn
    have hlR : ∀ r ∈ l, r ∈ R := fun r hr => hsub.subset hr
    have hl9 : l.length ≤ 9 := Nat.le_trans hsub.length_le hR9
    have hal := hlR _ (cyc_mem (r := l) (by omega) (k + l.length - 1))
    have hbl := hlR _ (cyc_mem (r := l) (by omega) k)
    have hel := hlR _ (cyc_mem (r := l) (by omega) (k + 1))
    clear F1 N1 F2 N2 F4 hP hPt
    k_steps
    refine id (α := wpAny _ _ _ _ _ _) ?_
    have htri : ∃ aa ba ea, (cyc l (k + l.length - 1)).pt = aa ∧ (cyc l k).pt = ba ∧ (cyc l (k + 1)).pt = ea := ⟨_, _, _, rfl, rfl, rfl⟩
    have hptR : ∀ r ∈ R, ∃ d, (r.pt, instObj pointCls d) ∈ ledn := fun r hr => by
      have h1 := hX.lt r hr
      have h2 := (hPtn pts[idx r] (List.getElem_mem h1)).1
      rw [(hX.at' r hr h1).1] at h2
      exact ⟨_, h2⟩
    have hmem3 : ∀ q ∈ [(cyc l (k + l.length - 1)).pt, (cyc l k).pt, (cyc l (k + 1)).pt], ∃ d, (q, instObj pointCls d) ∈ ledn := by
      intro q hq
      simp only [List.mem_cons, List.not_mem_nil, or_false] at hq
      rcases hq with rfl | rfl | rfl
      · exact hptR _ hal
      · exact hptR _ hbl
      · exact hptR _ hel
    k_dflt (refine' Assign_2 (n2 := pts.length) (b := trB pts (cyc l (k + l.length - 1)).pt (cyc l k).pt (cyc l (k + 1)).pt) ?X F5 N4 hxn (.inr rfl) ⟨_, rfl⟩ rfl ?sw ?clos (by decide) rfl rfl ?h0 ?fin)
    case sw => with_unfolding_all rfl
    case clos => with_unfolding_all rfl
    case h0 =>
      intro Q' hQ
      k_steps
      exact hQ
    case X =>
      refine ⟨rfl, ?_, by omega, by decide, rfl, rfl, rfl, by decide, by decide, ?_, ?_, fun _ _ => rfl⟩
      · show 3 * pts.length ≤ 200; omega
      · intro j v I2 oI2 C oC D ys' m₂ h2 tk2 E' hj hv' hC hx' F6 N6
        have hc2 := List.mem_cons_of_mem (I2, oI2) (List.mem_cons_of_mem (C, oC) (List.mem_cons_of_mem (D, lst ys') hc2))
        have hD1n := List.mem_cons_of_mem (I2, oI2) (List.mem_cons_of_mem (C, oC) (List.mem_cons_of_mem (D, lst ys') hD1n))
        clear N4 F5
        k_steps
        all_goals first | exact F6 | exact N6 | assumption | (rw [← hpsz]; assumption)
      · intro j v jj tkj I1 oI1 I2 oI2 C oC D ys' m₂ h2 tk2 E' hj hv' hjj hC hx' hy' F6 N6
        have up : ∀ q ∈ ledn, q ∈ (I1, oI1) :: (I2, oI2) :: (C, oC) :: (D, lst ys') :: ledn := fun q hq => .tail _ (.tail _ (.tail _ (.tail _ hq)))
        have hc2 := up _ hc2
        have hD1n := up _ hD1n
        have hj3 : j < 3 := hj
        obtain ⟨q, hq, rfl⟩ : ∃ q, [(cyc l (k + l.length - 1)).pt, (cyc l k).pt, (cyc l (k + 1)).pt][j]? = some q ∧ v = .ref q := by
          match j, hj3 with
          | 0, _ => exact ⟨_, rfl, (Option.some.inj hv').symm⟩
          | 1, _ => exact ⟨_, rfl, (Option.some.inj hv').symm⟩
          | 2, _ => exact ⟨_, rfl, (Option.some.inj hv').symm⟩
        obtain ⟨dq, hdq⟩ := hmem3 q (List.mem_of_getElem? hq)
        have hq0 := up _ hdq
        have hpj0 := up _ (hPtn pts[jj] (List.getElem_mem hjj)).1
        have hidx : (ptItems pts)[((jj : Int) % ((ptItems pts).size : Int)).toNat]? = some (.ref pts[jj].a) := by
          rw [hpsz, Int.emod_eq_of_lt (by omega) (by omega), Int.toNat_natCast]
          simp [hjj]
        have hob : trB pts (cyc l (k + l.length - 1)).pt (cyc l k).pt (cyc l (k + 1)).pt j jj = decide (pts[jj].a = q) := by
          unfold trB
          rw [List.getElem?_eq_getElem hjj, List.getD, hq]
          simp
        rw [hob]
        clear N4 F5
        k_with "my item" => k_dflt (refine' itemC ?ziN ?zim ?zia ?zib ?zic ?zid ?_ ?zie; (case ziN => k_asm); (case zim => exact hD1n); (case zia => omega); (case zib => omega); (case zic => omega); (case zid => exact hidx); (case zie => with_unfolding_all rfl))
        k_steps
        all_goals first | exact F6 | exact N6 | assumption
    case fin =>
      intro Dn hn tkn ysn F6 N6 offD hys
      have hys3 : NumsV ysn [idx (cyc l (k + l.length - 1)), idx (cyc l k), idx (cyc l (k + 1))] := by
        have e : pick2 (trB pts (cyc l (k + l.length - 1)).pt (cyc l k).pt (cyc l (k + 1)).pt) pts.length 3 = [idx (cyc l (k + l.length - 1)), idx (cyc l k), idx (cyc l (k + 1))] := by
          have e0 := hX.filter hnd hal
          have e1 := hX.filter hnd hbl
          have e2 := hX.filter hnd hel
          show (([] ++ (List.range pts.length).filter (trB pts (cyc l (k + l.length - 1)).pt (cyc l k).pt (cyc l (k + 1)).pt 0)) ++ (List.range pts.length).filter (trB pts (cyc l (k + l.length - 1)).pt (cyc l k).pt (cyc l (k + 1)).pt 1)) ++ (List.range pts.length).filter (trB pts (cyc l (k + l.length - 1)).pt (cyc l k).pt (cyc l (k + 1)).pt 2) = _
          rw [show trB pts (cyc l (k + l.length - 1)).pt (cyc l k).pt (cyc l (k + 1)).pt 0 = fun j => decide ((pts[j]?.map (·.a)) = some (cyc l (k + l.length - 1)).pt) from rfl,
            show trB pts (cyc l (k + l.length - 1)).pt (cyc l k).pt (cyc l (k + 1)).pt 1 = fun j => decide ((pts[j]?.map (·.a)) = some (cyc l k).pt) from rfl,
            show trB pts (cyc l (k + l.length - 1)).pt (cyc l k).pt (cyc l (k + 1)).pt 2 = fun j => decide ((pts[j]?.map (·.a)) = some (cyc l (k + 1)).pt) from rfl, e0, e1, e2]
          rfl
        rw [← e]; exact hys
      obtain ⟨ta, tb, te, rfl⟩ := hys3.three
      clear N4 F5 hys
      have up : ∀ q ∈ ledn, q ∈ (Dn, lst [Value.int (idx (cyc l (k + l.length - 1))) ta, .int (idx (cyc l k)) tb, .int (idx (cyc l (k + 1))) te]) :: ledn := fun q hq => .tail _ hq
      have hc1 := up _ hc1
      have hc2 := up _ hc2
      have hc6n := up _ hc6n
      have hDln := up _ hDln
      have hD0n := up _ hD0n
      have hxn := up _ hxn
      have hyl : ys.length = l.length := by rw [hY.length, List.length_map]
      have hysz : ys.toArray.size = l.length := by rw [List.size_toArray, hyl]
      have hypos : (0 : Int) < (ys.toArray.size : Int) := by omega
      have hyfit : (ys.toArray.size : Int) < 2 ^ 63 := by omega
      have hli : (l.map idx).Nodup := List.Nodup.sublist (hsub.map idx) hX.nodup
      have hbk : (l.map idx)[k]? = some (idx (cyc l k)) := by
        have := map_cyc idx (l := l) (j := k) (by omega)
        rwa [Nat.mod_eq_of_lt hk] at this
      obtain ⟨t1', hy1⟩ := hY.get (map_cyc idx (l := l) (j := k + l.length - 1) (by omega))
      obtain ⟨t2', hy2⟩ := hY.get (map_cyc idx (l := l) (j := k + 1) (by omega))
      have yi1 : ys.toArray[(((k : Int) - 1) % (ys.toArray.size : Int)).toNat]? = some (.int (idx (cyc l (k + l.length - 1))) t1') := by
        have e : (((k : Int) - 1) % (ys.toArray.size : Int)).toNat = (k + l.length - 1) % l.length := by
          rw [hysz, show ((k : Int) - 1) % (l.length : Int) = ((k + l.length - 1 : Nat) : Int) % (l.length : Int) by rw [← Int.add_emod_right]; congr 1; omega]
          omega
        rw [e]; simpa using hy1
      have yi2 : ys.toArray[(Int.fmod ((k : Int) + 1) (ys.toArray.size : Int) % (ys.toArray.size : Int)).toNat]? = some (.int (idx (cyc l (k + 1))) t2') := by
        have e : (Int.fmod ((k : Int) + 1) (ys.toArray.size : Int) % (ys.toArray.size : Int)).toNat = (k + 1) % l.length := by
          rw [fmod_mod _ hypos, hysz, show ((k : Int) + 1) % (l.length : Int) = ((k + 1 : Nat) : Int) % (l.length : Int) from rfl]
          omega
        rw [e]; simpa using hy2
      have hnot : (!ys.toArray.toList.any (isInt ((idx (cyc l k) : Nat) : Int))) = false := by
        have := hY.any (List.mem_of_getElem? hbk)
        show (!ys.any _) = false
        rw [this]; rfl
      have hat : kf_at ((idx (cyc l k) : Nat) : Int) ys.toArray.toList = some k := hY.at hbk hli
      have hyl200 : ys.toArray.toList.length ≤ sizeLine := szL (vs := ys) (by omega)
      k_with "my item" => k_dflt (refine' itemC ?ziN ?zim ?zia ?zib ?zic ?zid ?_ ?zie; (case ziN => k_asm); (case zim => exact hDln); (case zia => first | exact ix1 hypos | omega); (case zib => first | exact fmod_hi _ hypos | omega); (case zic => exact hyfit); (case zid => first | exact yi1 | exact yi2); (case zie => with_unfolding_all rfl))
      k_with "my notin" => k_dflt (refine' kf_notin (b := false) ?znN ?znm ?zni ?zne ?_; (case znN => k_asm); (case znm => exact hDln); (case zni => exact hY.kf); (case zne => exact hnot))
      k_with "my index" => k_dflt (refine' kf_index (j := k) ?znN ?znm ?zni ?zne ?znk ?znz ?_; (case znN => k_asm); (case znm => exact hDln); (case zni => exact hY.kf); (case zne => exact hat); (case znk => exact rfl); (case znz => exact hyl200))
      k_steps
      all_goals first
        | exact absurd (rfl : ((idx (cyc l (k + l.length - 1)) : Nat) : Int) = [((idx (cyc l (k + l.length - 1)) : Nat) : Int), ((idx (cyc l k) : Nat) : Int), ((idx (cyc l (k + 1)) : Nat) : Int)].getD (Int.toNat 0) 0) (by assumption)
        | exact absurd (rfl : ((idx (cyc l (k + 1)) : Nat) : Int) = [((idx (cyc l (k + l.length - 1)) : Nat) : Int), ((idx (cyc l k) : Nat) : Int), ((idx (cyc l (k + 1)) : Nat) : Int)].getD (Int.toNat 2) 0) (by assumption)
        | skip
      refine id (α := wpAny _ _ _ _ _ _) ?_
      have hPm := hPn.mono fun _ _ h => h.mono up
      have hIm := up _ hIn
      have hbackm := fun p hp => up p (hback p hp)
      clear hback hIn hxn up kpn kp3 hPtn hptR hmem3
      generalize ((Dn, lst [Value.int (idx (cyc l (k + l.length - 1))) ta, .int (idx (cyc l k)) tb, .int (idx (cyc l (k + 1))) te]) :: ledn) = ledm at *
      k_dflt (refine LCg.ListComp_U (F₀ := by k_asm) (by rfl) (by decide) (by rfl) (by decide) (by rfl) ?_)
      k_steps
      (rename Fr _ _ _ _ => F7); (rename News _ _ _ _ => N7)
      refine LCg.CompSrc.ledger (by rfl) F7 N7 hDln (szL (by omega)) ?_
      intro g
      refine rest_ind (σ := Unit) _ (fun _ => ledm) (fun j _ ys' => Pick its ys' ((l.map idx).take j)) ?turn2 ?fin2 _ _ () _ (Nat.zero_add _) .nil
      case turn2 =>
        rintro j _ ys' v I2 oI2 C oC D m₂ h2 tk2 E' hj hP' hJ hC hx' F8 N8 off8 ne
        clear F7 N7
        obtain ⟨nn, hni, t, rfl⟩ := All2.get hY (show ys[j]? = some v by simpa using hP')
        have hnn : nn < its.length := by
          obtain ⟨r, hr, rfl⟩ := List.mem_map.mp (List.mem_of_getElem? hni)
          rw [hil]; exact hX.lt r (hlR r hr)
        have hit := item_at (List.getElem?_eq_getElem hnn)
        have hsz : its.toArray.size = its.length := by simp
        have hm0 : (D0, listOf its.toArray n0) ∈ (I2, oI2) :: (C, oC) :: (D, lst ys') :: ledm := .tail _ (.tail _ (.tail _ hD0n))
        have hc1 : (L + 1, o1) ∈ (I2, oI2) :: (C, oC) :: (D, lst ys') :: ledm := .tail _ (.tail _ (.tail _ hc1))
        k_with "my item" => k_dflt (refine' itemC ?ziN ?zim ?zia ?zib ?zic ?zid ?_ ?zie; (case ziN => k_asm); (case zim => exact hm0); (case zia => omega); (case zib => omega); (case zic => omega); (case zid => exact hit); (case zie => with_unfolding_all rfl))
        k_steps
        (rename Fr _ _ _ _ => F9); (rename News _ _ _ _ => N9)
        refine ct_end () F9 N9 (fun p hp => hp) off8 (.inr ⟨_, hDln, rfl, _, rfl⟩) ?_
        rw [take_snoc hni]
        exact All2.snoc hJ (List.getElem?_eq_getElem hnn)
      case fin2 =>
        rintro _ ys' hJ
        unfold LCg.FinE
        intro D2 h2 tk2 F8 N8 o8
        have hJ' : Pick its ys' (l.map idx) := by
          have := hJ
          rwa [List.take_of_length_le (by rw [List.size_toArray, hyl, List.length_map]; exact Nat.le_refl _)] at this
        have hCA : CornersAt ((D2, lst ys') :: ledm) ys'.toArray l := corners_at (by
          rw [← hX.pl hpc hlR]
          exact (hJ'.pl hPm).mono fun _ _ h => h.mono fun q hq => .tail _ hq)
        have hlear : LEar l k := (ear_iff h3 k).mp hear
        have hDln := List.mem_cons_of_mem (D2, lst ys') hDln
        clear F7 N7
        k_with "my call" => k_dflt (refine' Spec.use (law_ear_spec w ((D2, lst ys') :: ledm) D2 _ ys'.toArray l k _ (.head _) hCA h3 (by omega) hk) ?k1 ?k2 ?k3 ?k4 ?k5 ?kK ?kd ?ku ?_; (case k1 => k_asm); (case k2 => k_asm); (case k3 => k_asm); (case k4 => k_asm); (case k5 => k_asm); (case kK => exact rfl); (case kd => ktr_room); (case ku => ktr_units); intro r9 led9 h9 tk9 F9 N9 ho9; obtain ⟨e9, bb, e9', hbb⟩ := ho9; have e9 := e9.symm; subst e9 e9'; have hbt := hbb.mpr hlear; subst hbt; (try k_sweep); (try k_fold))
        k_steps
        unfold Hold
        (rename Fr _ _ _ _ => FZ); (rename News _ _ _ _ => NZ)
        rename ∀ (p : Addr × Obj), p ∈ _ :: _ :: _ :: _ → p.1 < _ => ltZ
        have ek : (k : Int).toNat = k := Int.toNat_natCast k
        have ek1 : ((k : Int) + 1).toNat = k + 1 := by omega
        rw [ek, ek1] at NZ ltZ
        refine end17 FZ NZ ltZ (.tail _ (.tail _ (.tail _ hIm))) (fun p hp => .tail _ (.tail _ (.tail _ (hbackm p hp)))) hoffI
          ⟨l.take k ++ l.drop (k + 1), _, _, _, hcut', ?_, Has.cons rfl (Has.cons rfl Has.nil), kpc.trans (Kp.sub fun p hp => .tail _ hp), ⟨_, o', .tail _ hc6c, hd'⟩, .head _, ?_⟩
        · refine List.Sublist.trans ?_ hsub
          have h1 : (l.take k ++ l.drop (k + 1)).Sublist (l.take k ++ l.drop k) := (List.Sublist.refl _).append (by
            rw [← List.drop_drop]
            exact List.drop_sublist _ _)
          rwa [List.take_append_drop] at h1
        · rw [List.map_append, List.map_take, List.map_drop]
          exact All2.append (All2.take hY k) (All2.drop hY (k + 1))
end Mine
end

namespace Mine
theorem fresh_GM1 : True := by w_top off; first | walk1 | trivial
end Mine

section
open PySem PySem.W PyProof.Rows PySem.Calls PySem.Spec
namespace Mine
def xsum : Int × Int → List (Int × Int) → Int
  | _, [] => 0
  | p, q :: l => (p.1 * q.2 - p.2 * q.1) + xsum q l
def lastP (p : Int × Int) : List (Int × Int) → Int × Int
  | [] => p
  | q :: l => lastP q l
theorem lastP_snoc (p x : Int × Int) : ∀ l, lastP p (l ++ [x]) = x
  | [] => rfl
  | q :: l => lastP_snoc q x l
theorem xsum_append (p : Int × Int) : ∀ l l', xsum p (l ++ l') = xsum p l + xsum (lastP p l) l'
  | [], l' => by simp [xsum, lastP]
  | q :: l, l' => by
    show _ + xsum q (l ++ l') = _ + xsum q l + xsum (lastP q l) l'
    have h := xsum_append q l l'
    omega
theorem sa_tel (acc : Int) (prev : PtR) (l : List PtR) : (l.foldl saStep (acc, prev)).1 = acc - xsum (prev.x, prev.y) (l.map fun p => (p.x, p.y)) + (lastP (prev.x, prev.y) (l.map fun p => (p.x, p.y))).1 * (lastP (prev.x, prev.y) (l.map fun p => (p.x, p.y))).2 - prev.x * prev.y := by
  induction l generalizing acc prev with
  | nil => simp [xsum, lastP]
  | cons q l ih =>
    rw [List.foldl_cons]
    show (l.foldl saStep (acc + (q.x - prev.x) * (q.y + prev.y), q)).1 = _
    rw [ih]
    show _ = acc - ((prev.x * q.y - prev.y * q.x) + xsum (q.x, q.y) _) + _ - _
    have e : (q.x - prev.x) * (q.y + prev.y) = q.x * q.y - prev.x * prev.y - (prev.x * q.y - prev.y * q.x) := by grind
    rw [e]
    have el : lastP (prev.x, prev.y) ((q :: l).map fun p => (p.x, p.y)) = lastP (q.x, q.y) (l.map fun p => (p.x, p.y)) := rfl
    rw [el]
    omega
theorem sarea_x (pre : List PtR) (z : PtR) : sarea (pre ++ [z]) = - xsum (z.x, z.y) ((pre ++ [z]).map fun p => (p.x, p.y)) := by
  unfold sarea
  rw [List.getLast?_append]
  show ((pre ++ [z]).foldl saStep (0, z)).1 = _
  rw [sa_tel, List.map_append, List.map_cons, List.map_nil, lastP_snoc]
  show 0 - _ + z.x * z.y - z.x * z.y = _
  omega
theorem sum_shift (f : Nat → Int) (n : Nat) : ((List.range (n + 1)).map f).sum = f 0 + ((List.range n).map fun k => f (k + 1)).sum := by
  rw [List.range_succ_eq_map, List.map_cons, List.sum_cons, List.map_map]; rfl
theorem xsum_range (l : List (Int × Int)) : ∀ p, xsum p l = ((List.range l.length).map fun k => (at' (p :: l) k).1 * (at' l k).2 - (at' (p :: l) k).2 * (at' l k).1).sum := by
  induction l with
  | nil => intro p; rfl
  | cons q l ih =>
    intro p
    rw [List.length_cons, sum_shift]
    show _ + xsum q l = _
    rw [ih q]
    rfl
theorem whole_x (l : List (Int × Int)) (z : Int × Int) : wholeOf (l ++ [z]) = xsum z (l ++ [z]) := by
  rw [xsum_range]
  unfold wholeOf
  congr 1
  refine List.map_congr_left fun k hk => ?_
  have hk := List.mem_range.mp hk
  have hl : (l ++ [z]).length = l.length + 1 := by simp
  rw [hl] at hk
  unfold crossAt
  have e : at' (l ++ [z]) ((k + (l ++ [z]).length - 1) % (l ++ [z]).length) = at' (z :: (l ++ [z])) k := by
    rw [hl]
    cases k with
    | zero =>
      rw [show (0 + (l.length + 1) - 1) % (l.length + 1) = l.length by rw [Nat.mod_eq_of_lt (by omega)]; omega]
      show (l ++ [z]).getD l.length (0, 0) = z
      simp [List.getD]
    | succ k =>
      rw [show (k + 1 + (l.length + 1) - 1) % (l.length + 1) = k by rw [show k + 1 + (l.length + 1) - 1 = k + (l.length + 1) by omega, Nat.add_mod_right, Nat.mod_eq_of_lt (by omega)]]
      rfl
  rw [e]
theorem rot_last (A : List (Int × Int)) (x : Int × Int) : x :: A ∈ roundsOf (A ++ [x]) := by
  unfold roundsOf
  refine List.mem_map.mpr ⟨A.length, List.mem_range.mpr (by simp), ?_⟩
  simp
theorem rot_zero {A : List (Int × Int)} (h : A ≠ []) : A ∈ roundsOf A := by
  unfold roundsOf
  refine List.mem_map.mpr ⟨0, List.mem_range.mpr (List.length_pos_iff.mpr h), ?_⟩
  simp
abbrev co (p : PtR) : Int × Int := (p.x, p.y)
theorem ring_closed (p z : PtR) (mid : List PtR) (h : co p = co z) : ringOf ((p :: mid ++ [z]).map co) = (p :: mid).map co := by
  have e : (p :: mid ++ [z]).map co = (p :: mid).map co ++ [co z] := by simp
  unfold ringOf
  rw [e, if_pos]
  · rw [List.length_append, List.length_singleton, Nat.add_sub_cancel, List.take_left' rfl]
  · refine ⟨by simp, ?_⟩
    rw [List.length_append, List.length_singleton, Nat.add_sub_cancel]
    simp [h]
theorem ring_open (p z : PtR) (mid : List PtR) (h : co p ≠ co z) : ringOf ((p :: mid ++ [z]).map co) = (p :: mid ++ [z]).map co := by
  unfold ringOf
  rw [if_neg]
  rintro ⟨_, e⟩
  have e1 : (p :: mid ++ [z]).map co = (p :: mid).map co ++ [co z] := by simp
  rw [e1, List.length_append, List.length_singleton, Nat.add_sub_cancel] at e
  simp at e
  exact h (Prod.ext e.1 e.2)
/-- twice the area, by the law and by the program -/
theorem whole_sarea (p z : PtR) (mid : List PtR) : wholeOf (ringOf ((p :: mid ++ [z]).map co)) = - sarea (p :: mid ++ [z]) := by
  rw [sarea_x, Int.neg_neg]
  by_cases h : co p = co z
  · rw [ring_closed p z mid h]
    show _ = xsum (co z) ((p :: mid ++ [z]).map co)
    have e : (p :: mid ++ [z]).map co = co p :: (mid.map co ++ [co z]) := by simp
    rw [e]
    show _ = ((co z).1 * (co p).2 - (co z).2 * (co p).1) + xsum (co p) (mid.map co ++ [co z])
    rw [h, Int.mul_comm (co z).2, Int.sub_self, Int.zero_add, ← h]
    rcases List.eq_nil_or_concat mid with rfl | ⟨m', y, rfl⟩
    · show wholeOf ([] ++ [co p]) = _
      rw [whole_x, h]
      show ((co z).1 * (co z).2 - (co z).2 * (co z).1) + 0 = ((co z).1 * (co z).2 - (co z).2 * (co z).1) + 0
      rfl
    · have e2 : (p :: (m' ++ [y])).map co = (co p :: m'.map co) ++ [co y] := by simp
      have e3 : (m' ++ [y]).map co = m'.map co ++ [co y] := by simp
      rw [List.concat_eq_append, e2, whole_x, e3, xsum_append (co p) (m'.map co ++ [co y]), lastP_snoc]
      show ((co y).1 * (co p).2 - (co y).2 * (co p).1) + xsum (co p) (m'.map co ++ [co y]) = _ + (((co y).1 * (co p).2 - (co y).2 * (co p).1) + 0)
      omega
  · rw [ring_open p z mid h]
    have e : (p :: mid ++ [z]).map co = (p :: mid).map co ++ [co z] := by simp
    rw [e, whole_x]
end Mine
end

namespace Mine
theorem fresh_GM2 : True := by w_top off; first | walk1 | trivial
end Mine

section
open PySem PySem.W PyProof.Rows PySem.Calls PySem.Spec
namespace Mine
abbrev rc (r : RN) : Int × Int := (r.x, r.y)
theorem All2.split {α β : Type} {R : α → β → Prop} : ∀ {as bs : List α} {cs : List β}, All2 R (as ++ bs) cs → ∃ c1 c2, cs = c1 ++ c2 ∧ All2 R as c1 ∧ All2 R bs c2
  | [], bs, cs, h => ⟨[], cs, rfl, .nil, h⟩
  | a :: as, bs, _, .cons h h' => by
    obtain ⟨c1, c2, rfl, h1, h2⟩ := All2.split (as := as) h'
    exact ⟨_ :: c1, c2, rfl, .cons h h1, h2⟩
theorem np_rc {R : List RN} {ps : List PtR} (h : All2 NP R ps) : R.map rc = ps.map co := by
  induction h with
  | nil => rfl
  | cons h _ ih => rw [List.map_cons, List.map_cons, ih]; unfold rc co; rw [h.2.1, h.2.2]
theorem np_pt {R : List RN} {ps : List PtR} (h : All2 NP R ps) : R.map (·.pt) = ps.map (·.a) := by
  induction h with
  | nil => rfl
  | cons h _ ih => rw [List.map_cons, List.map_cons, ih, h.1]
theorem np_mem {R : List RN} {ps : List PtR} (h : All2 NP R ps) : ∀ r ∈ R, ∃ p ∈ ps, NP r p := by
  induction h with
  | nil => exact fun _ h => nomatch h
  | cons h _ ih =>
    intro r hr
    rcases List.mem_cons.mp hr with rfl | hr
    · exact ⟨_, .head _, h⟩
    · obtain ⟨p, hp, hn⟩ := ih r hr
      exact ⟨p, .tail _ hp, hn⟩

theorem ll_ring {P : Params} {led led' : Led} {pts : List PtR} {v : Value} (h : LLPost P led led' (if sarea pts < 0 then pts else pts.reverse) v) (hnd : (pts.map (·.a)).Nodup) :
    (∀ s ∈ led, s ∈ led') ∧ ∃ R rsq, v = nodeV R 0 ∧ (R ≠ [] → RingIn P led' R) ∧ (R = [] → pts = []) ∧ R.length ≤ pts.length ∧ All2 NP R rsq ∧ (rsq.map (·.a)).Nodup ∧ (∀ p ∈ rsq, p ∈ pts) ∧
      (pts ≠ [] → (0 ≤ wholeOf (ringOf (pts.map co)) ∧ R.map rc ∈ roundsOf (ringOf (pts.map co))) ∨ (wholeOf (ringOf (pts.map co)) ≤ 0 ∧ R.map rc ∈ roundsOf (ringOf (pts.map co)).reverse)) := by
  have hm : ∀ p, p ∈ (if sarea pts < 0 then pts else pts.reverse) → p ∈ pts := fun p hp => by
    split at hp
    · exact hp
    · exact List.mem_reverse.mp hp
  have hndq : ((if sarea pts < 0 then pts else pts.reverse).map (·.a)).Nodup := by
    split
    · exact hnd
    · rw [List.map_reverse]; exact (List.reverse_perm _).nodup_iff.mpr hnd
  have hlq : (if sarea pts < 0 then pts else pts.reverse).length = pts.length := by
    split
    · rfl
    · exact List.length_reverse
  have hor : (sarea pts < 0 ∧ (if sarea pts < 0 then pts else pts.reverse) = pts) ∨ (0 ≤ sarea pts ∧ pts = (if sarea pts < 0 then pts else pts.reverse).reverse) := by
    by_cases hs : sarea pts < 0
    · exact .inl ⟨hs, if_pos hs⟩
    · exact .inr ⟨Int.not_lt.mp hs, by rw [if_neg hs, List.reverse_reverse]⟩
  generalize (if sarea pts < 0 then pts else pts.reverse) = qs at h hm hndq hlq hor
  rcases h with ⟨rfl, rfl, hk⟩ | ⟨q, ds, z, hnp, hk, _, hc⟩
  · have hp : pts = [] := List.eq_nil_of_length_eq_zero hlq.symm
    subst hp
    exact ⟨hk, [], [], rfl, fun h => absurd rfl h, fun _ => rfl, Nat.le_refl _, .nil, .nil, fun _ h => h, fun h => absurd rfl h⟩
  · refine ⟨hk, ?_⟩
    obtain ⟨c1, c2, rfl, h1, h2⟩ := All2.split hnp
    cases h1 with
    | @cons _ pq _ mid hq h1 =>
    cases h2 with
    | @cons _ pz _ _ hz h2 =>
    cases h2
    have hcq : co pq = rc q := by unfold co rc; rw [hq.2.1, hq.2.2]
    have hcz : co pz = rc z := by unfold co rc; rw [hz.2.1, hz.2.2]
    have hml := h1.length
    have hpl : (pq :: mid ++ [pz]).length = mid.length + 2 := by simp
    rw [hpl] at hlq
    have hsub1 : (pq :: mid).Sublist (pq :: mid ++ [pz]) := List.sublist_append_left _ _
    have hperm : (pz :: pq :: mid).Perm (pq :: mid ++ [pz]) := (List.perm_append_singleton pz (pq :: mid)).symm
    have hrev : (pq :: mid ++ [pz]).reverse = pz :: mid.reverse ++ [pq] := by simp
    rcases hc with ⟨ex, ey, rfl, hR⟩ | ⟨hne, rfl, hR⟩
    · refine ⟨q :: ds, pq :: mid, by unfold nodeV; rw [if_neg (by simp), cyc_zero], fun _ => hR, fun h => absurd h (by simp), by rw [List.length_cons]; omega, .cons hq h1, List.Nodup.sublist (hsub1.map _) hndq, fun p hp => hm p (hsub1.subset hp), fun _ => ?_⟩
      have hcc : co pq = co pz := by rw [hcq, hcz]; unfold rc; rw [ex, ey]
      rw [np_rc (All2.cons hq h1)]
      rcases hor with ⟨hs, rfl⟩ | ⟨hs, rfl⟩
      · refine .inl ⟨by rw [whole_sarea]; omega, ?_⟩
        rw [ring_closed pq pz mid hcc]
        exact rot_zero (by simp)
      · rw [hrev] at hs ⊢
        refine .inr ⟨by rw [whole_sarea]; omega, ?_⟩
        rw [ring_closed pz pq mid.reverse hcc.symm]
        have e1 : ((pz :: mid.reverse).map co).reverse = mid.map co ++ [co pz] := by simp
        rw [e1, List.map_cons, hcc]
        exact rot_last _ _
    · refine ⟨z :: q :: ds, pz :: pq :: mid, by unfold nodeV; rw [if_neg (by simp), cyc_zero], fun _ => hR, fun h => absurd h (by simp), by rw [List.length_cons, List.length_cons]; omega, .cons hz (.cons hq h1), (hperm.map _).nodup_iff.mpr hndq, fun p hp => hm p (hperm.mem_iff.mp hp), fun _ => ?_⟩
      have hcc : co pq ≠ co pz := by
        rw [hcq, hcz]
        intro e
        unfold rc at e
        rw [Prod.mk.injEq] at e
        exact hne ⟨e.1.symm, e.2.symm⟩
      rw [np_rc (All2.cons hz (All2.cons hq h1))]
      have e2 : (pz :: pq :: mid).map co = co pz :: (pq :: mid).map co := rfl
      have e3 : (pq :: mid ++ [pz]).map co = (pq :: mid).map co ++ [co pz] := by simp
      rcases hor with ⟨hs, rfl⟩ | ⟨hs, rfl⟩
      · refine .inl ⟨by rw [whole_sarea]; omega, ?_⟩
        rw [ring_open pq pz mid hcc, e2, e3]
        exact rot_last _ _
      · rw [hrev] at hs ⊢
        refine .inr ⟨by rw [whole_sarea]; omega, ?_⟩
        rw [ring_open pz pq mid.reverse (fun h => hcc h.symm), ← List.map_reverse]
        have e4 : (pz :: mid.reverse ++ [pq]).reverse = pq :: mid ++ [pz] := by simp
        rw [e4, e2, e3]
        exact rot_last _ _

def idxOf (pts : List PtR) (r : RN) : Nat := pts.findIdx fun p => p.a == r.pt
theorem idx_ok {pts rsq : List PtR} {R : List RN} (h : All2 NP R rsq) (hnd : (pts.map (·.a)).Nodup) (hsub : ∀ p ∈ rsq, p ∈ pts) (hndr : (rsq.map (·.a)).Nodup) : Idx pts R (idxOf pts) := by
  have hlt : ∀ r ∈ R, idxOf pts r < pts.length := fun r hr => by
    obtain ⟨p, hp, hn⟩ := np_mem h r hr
    exact List.findIdx_lt_length_of_exists ⟨p, hsub p hp, by simp [hn.1]⟩
  have hat : ∀ r ∈ R, ∀ h : idxOf pts r < pts.length, pts[idxOf pts r].a = r.pt := fun r hr h => by
    have := List.findIdx_getElem (p := fun p : PtR => p.a == r.pt) (w := h)
    exact eq_of_beq this
  refine ⟨hlt, fun r hr hh => ?_, ?_⟩
  · have ha := hat r hr hh
    obtain ⟨p, hp, hn⟩ := np_mem h r hr
    obtain ⟨j, hj, e⟩ := List.mem_iff_getElem.mp (hsub p hp)
    have hij : idxOf pts r = j := by
      have e2 : (pts.map (·.a))[idxOf pts r]'(by simpa using hh) = (pts.map (·.a))[j]'(by simpa using hj) := by simp [ha, e, hn.1]
      exact (List.getElem_inj hnd).mp e2
    refine ⟨ha, ?_, ?_⟩
    · rw [hn.2.1, ← e]; simp [hij]
    · rw [hn.2.2, ← e]; simp [hij]
  · have hp : (R.map (·.pt)).Nodup := by rw [np_pt h]; exact hndr
    unfold List.Nodup at hp ⊢
    rw [List.pairwise_map] at hp ⊢
    refine hp.imp_of_mem fun {a b} ha hb hne e => hne ?_
    have h1 := hlt a ha
    have h2 := hlt b hb
    rw [← hat a ha h1, ← hat b hb h2]
    simp [e]
theorem pick2_idx {pts : List PtR} {R : List RN} {idx : RN → Nat} (X : Idx pts R idx) (hnd : (pts.map (·.a)).Nodup) : pick2 (ordB pts R) pts.length R.length = R.map idx := by
  have : ∀ i, i ≤ R.length → pick2 (ordB pts R) pts.length i = (R.take i).map idx := by
    intro i
    induction i with
    | zero => intro _; rfl
    | succ i ih =>
      intro hi
      have hi' : i < R.length := hi
      rw [pick2, ih (by omega), take_snoc (a := R[i]) (List.getElem?_eq_getElem hi'), List.map_append]
      congr 1
      have := X.filter hnd (r := R[i]) (List.getElem_mem hi')
      rw [List.map_cons, List.map_nil, ← this]
      congr 1
      funext j
      unfold ordB
      rw [cyc_lt hi']
  rw [this _ (Nat.le_refl _), List.take_length]
theorem ring_unrot {P : Params} {led : Led} {l : List RN} {n : Nat} (h : RingIn P led (rotN n l)) (h0 : 0 < l.length) : RingIn P led l := by
  have e : rotN (l.length - n % l.length) (rotN n l) = l := by
    refine ext_cyc (by rw [rotN_length, rotN_length]) fun j => ?_
    have hm := Nat.mod_lt n h0
    rw [cyc_rotN, cyc_rotN, ← cyc_mod l (j + (l.length - n % l.length) + n), ← cyc_mod l j]
    congr 1
    have hd := Nat.div_add_mod n l.length
    have e2 : j + (l.length - n % l.length) + n = j + l.length * (1 + n / l.length) := by
      rw [Nat.mul_add, Nat.mul_one]; omega
    rw [e2, Nat.add_mul_mod_self_left]
  rw [← e]
  exact h.rotN' _
end Mine
end

namespace Mine
theorem fresh_G26 : True := by w_top off; first | walk1 | trivial
end Mine

section
open PySem PySem.W PyProof.Rows PySem.Calls PySem.Spec
set_option maxRecDepth 100000
set_option maxHeartbeats 1000000
namespace Mine
open LCg
local macro_rules | `(tactic| k_mem) => `(tactic| first | assumption | exact upd_self (by assumption) | (refine upd_ne ?_ (by first | assumption | (apply Ne.symm; assumption)); k_mem))
local macro_rules | `(tactic| walk_at "eval ListComp") => `(tactic| (refine Hold.out ?_))
local macro_rules | `(tactic| walk_at "exec Assign cons ListComp") => `(tactic| fail "no")
local macro_rules | `(tactic| walk_at "storeName") => `(tactic| (k_here; k_dflt (refine' store_cellU ?zsF ?zsN ?zsc ?zsm ?zsd ?zsk ?zsl ?_; (case zsF => k_asm); (case zsN => k_asm); (case zsc => rfl); (case zsm => k_mem); (case zsd => k_asm); (case zsk => rfl); (case zsl => rfl)); intro h' o' F' N' d' kp'; (try k_sweep)))
local macro_rules | `(tactic| walk_at "CompSrc") => `(tactic| (refine Hold.out ?_))
local macro_rules | `(tactic| walk_at "CompSrcT") => `(tactic| (refine Hold.out ?_))
local macro_rules | `(tactic| walk_at "newTuple") => `(tactic| (k_here; k_dflt (refine' kup_newTuple ?ztF ?ztN ?_ ?ztz; (case ztF => k_asm); (case ztN => k_asm); (case ztz => kmk_size)); intro D' h' F' N' l1; (try k_sweep)))
local macro_rules | `(tactic| walk_at "subscriptTail Name Slice ref ref") => `(tactic| (k_here; (with_reducible show wpAny _ _ (subscriptTail _ (PySem.Expr.Slice _ _ none _) (Value.ref _) (Value.ref _)) _ _ _); k_dflt (refine' kmk_slice_lit ?slF ?slN ?sll ?slp ?slq ?sle ?_ ?sls ?slt ?slz; (case slF => k_asm); (case slN => k_asm); (case sll => exact News.isList (by k_asm) (by k_mem)); (case slp => kmk_part); (case slq => kmk_part); (case sle => first | exact pick_upto _ (by first | decide | with_reducible assumption | omega) | exact pick_from _ (by first | decide | with_reducible assumption | omega) | exact pick_neg _ (by first | decide | with_reducible assumption | omega)); (case sls => with_unfolding_all rfl); (case slt => kmk_pure); (case slz => exact szL (by first | with_reducible assumption | omega))); intro D' h' F' N' l1; (try k_sweep)))
local macro_rules | `(tactic| walk_at "binaryOp Add ref ref") => `(tactic| (k_here; k_dflt (refine' kmk_add_lit ?adF ?adN ?ada ?adb ?ade ?_ ?adz; (case adF => k_asm); (case adN => k_asm); (case ada => exact News.isList (by k_asm) (by k_mem)); (case adb => exact News.isList (by k_asm) (by k_mem)); (case ade => exact catL _ _); (case adz => exact szLL (by first | with_reducible assumption | (simp only [List.length_take, List.length_drop]; omega)))); intro D' h' F' N' l1; (try k_sweep)))
local macro_rules | `(tactic| walk_at "call ref") => `(tactic| k_extra "my call")
local macro_rules | `(tactic| walk_at "call builtin:len") => `(tactic| (k_here; k_dflt (refine' lenL ?zlN ?zlm ?zlf ?_; (case zlN => k_asm); (case zlm => k_mem); (case zlf => exact fitL (by first | with_reducible assumption | omega | decide)); intro _)))
local macro_rules | `(tactic| walk_at "exec For Name Name cons nil") => `(tactic| (refine Hold.out ?_))
local macro_rules | `(tactic| walk_at "exec For Name Call cons nil") => `(tactic| (refine Hold.out ?_))
local macro_rules | `(tactic| walk_at "pyIter ref") => `(tactic| (refine Hold.out ?_))
local macro_rules | `(tactic| walk_at "FlPost") => `(tactic| (dsimp only [FlPost]))
local macro_rules | `(tactic| walk_at "FlEnd") => `(tactic| (refine Hold.out ?_))
local macro_rules | `(tactic| walk_at "compareOp Is ref ref") => `(tactic| (k_here; k_dflt (refine' is_ref ?N ?a ?b ?c ?_; (case N => k_asm); (case a => k_mem); (case b => k_mem); (case c => intro z; cases z))))
local macro_rules | `(tactic| walk_at "compareOp IsNot ref ref") => `(tactic| (k_here; k_dflt (refine' isnot_ref ?N ?a ?b ?c ?_; (case N => k_asm); (case a => k_mem); (case b => k_mem); (case c => intro z; cases z))))
local macro_rules | `(tactic| walk_at "call builtin:list.append") => `(tactic| (k_here; k_dflt (refine' append_U ?k1 ?k2 ?k3 ?_ ?z; (case k1 => k_asm); (case k2 => k_asm); (case k3 => k_mem); (case z => exact szL (by first | with_reducible assumption | omega)); intro h' F' N'; (try k_sweep))))
local macro_rules | `(tactic| walk_at "subscriptTail Name Name ref int") => `(tactic| k_extra "my item")
local macro_rules | `(tactic| walk_at "subscriptTail Name BinOp ref int") => `(tactic| k_extra "my item")
local macro_rules | `(tactic| walk_at "subscriptTail Name Constant ref int") => `(tactic| k_extra "my item")
local macro_rules | `(tactic| walk_at "subscriptTail Name UnaryOp ref int") => `(tactic| k_extra "my item")
local macro_rules | `(tactic| walk_at "subscriptTail Name Call ref int") => `(tactic| k_extra "my item")
local macro_rules | `(tactic| walk_at "call ref") => `(tactic| k_extra "my call")
local macro_rules | `(tactic| walk_at "compareOp NotEq ref ref") => `(tactic| k_extra "my eq")
local macro_rules | `(tactic| walk_at "compareOp Eq ref ref") => `(tactic| k_extra "my eq")
local macro_rules | `(tactic| walk_at "call builtin:list.index") => `(tactic| k_extra "my index")
/-- corners = [places[name] for name in left] -/
theorem seg18 (w : World) (led0 : Led) (D0 Dl : Addr) (n0 nl : Nat) (its ys : List Value) (ns : List Nat) (hits : its.length ≤ 9) (hns : ∀ n ∈ ns, n < its.length) (hn9 : ns.length ≤ 9) :
    Seg w (lawStmt 18) (fun h₀ L m led => led = led0 ∧ Has [(Str.ofString "left", .ref Dl)] m ∧ Cel led (L + 1) (some (.ref D0)) ∧ (∃ v6, Cel led (L + 6) v6) ∧ (D0, listOf its.toArray n0) ∈ led ∧ (Dl, listOf ys.toArray nl) ∈ led ∧ NumsV ys ns)
      (fun f L led m' led' => f = .next ∧ Has [(Str.ofString "left", .ref Dl)] m' ∧ Kp (L + 6) led led' ∧ ∃ D n its', Cel led' (L + 6) (some (.ref D)) ∧ (D, listOf its'.toArray n) ∈ led' ∧ Pick its its' ns) := by
  unfold Seg
  k_fill
  intro loose mean mg mb dp un gd cn a ccd outer A₀ base h₀ L m led s Q E B F X N TT hd9 hu9 hpre hE hret
  obtain ⟨rfl, hm, ⟨o1, hc1, hd1⟩, ⟨v6, o6, hc6, hd6⟩, hD0, hD4, hY⟩ := hpre
  have hyl := hY.length
  have F3 := fr_kstB hm F
  dsimp only [kstB] at F3
  clear F
  conv in (occs := *) lawScope => all_goals whnf
  conv in lawStmt _ => whnf
  k_with_none
  k_steps
  refine id (α := wpAny _ _ _ _ _ _) ?_
  k_dflt (refine LCg.ListComp_U (F₀ := by k_asm) (by rfl) (by decide) (by rfl) (by decide) (by rfl) ?_)
  k_steps
  (rename Fr _ _ _ _ => F1); (rename News _ _ _ _ => N1)
  refine LCg.CompSrc.ledger (by rfl) F1 N1 hD4 (szL (by omega)) ?_
  intro g
  refine rest_ind (σ := Unit) _ (fun _ => led) (fun i _ ys' => Pick its ys' (ns.take i)) ?turn ?fin _ _ () _ (Nat.zero_add _) .nil
  case turn =>
    rintro i _ ys' v I oI C oC D m₂ h tk E' hi hP' hJ hC hx F2 N2 off ne
    clear F1 N1
    obtain ⟨n, hni, t, rfl⟩ := All2.get hY (show ys[i]? = some v by simpa using hP')
    have hn : n < its.length := hns n (List.mem_of_getElem? hni)
    have hit := item_at (List.getElem?_eq_getElem hn)
    have hsz : its.toArray.size = its.length := by simp
    have hm0 : (D0, listOf its.toArray n0) ∈ (I, oI) :: (C, oC) :: (D, lst ys') :: led := .tail _ (.tail _ (.tail _ hD0))
    k_with "my item" => k_dflt (refine' itemC ?ziN ?zim ?zia ?zib ?zic ?zid ?_ ?zie; (case ziN => k_asm); (case zim => exact hm0); (case zia => omega); (case zib => omega); (case zic => omega); (case zid => exact hit); (case zie => with_unfolding_all rfl))
    k_steps
    (rename Fr _ _ _ _ => F4); (rename News _ _ _ _ => N4)
    refine ct_end () F4 N4 (fun p hp => hp) off (.inr ⟨_, hD4, rfl, _, rfl⟩) ?_
    rw [take_snoc hni]
    exact All2.snoc hJ (List.getElem?_eq_getElem hn)
  case fin =>
    rintro _ ys' hJ
    unfold LCg.FinE
    intro D h tk F2 N2 o1
    have hc6 := List.mem_cons_of_mem (D, lst ys') hc6
    clear F1 N1
    k_steps
    rename Kp _ _ _ => kp
    refine hret _ _ _ _ _ (by k_asm) (by k_asm) ⟨rfl, Has.cons rfl Has.nil, (Kp.sub fun p hp => List.mem_cons_of_mem _ hp).trans kp, D, _, ys', ⟨_, upd_self hc6, by assumption⟩, kp.obj _ List.mem_cons_self (fun v h => by cases h), ?_⟩
    have := hJ
    rwa [List.take_of_length_le (by rw [List.size_toArray, hyl]; exact Nat.le_refl _)] at this
theorem lcs_dat (led : Led) (D : Addr) (n : Nat) (h : (D, listOf ([] : List Value).toArray n) ∈ led) : DatIn led (.ref D) (.list []) := DatIn.list h .nil
/-- no ear is left -/
theorem seg19 (w : World) (led0 : Led) (Dl D6 : Addr) (nl n6 : Nat) (ys its6 : List Value) (lf : List RN) (idx : RN → Nat) (h9 : lf.length ≤ 9) (hno : 2 < lf.length → ∀ k, k < lf.length → ¬ LEar lf k) :
    Seg w (lawStmt 19) (fun h₀ L m led => led = led0 ∧ Has [(Str.ofString "left", .ref Dl)] m ∧ Cel led (L + 6) (some (.ref D6)) ∧ (D6, listOf its6.toArray n6) ∈ led ∧ (Dl, listOf ys.toArray nl) ∈ led ∧ NumsV ys (lf.map idx) ∧ CornersAt led its6.toArray lf)
      (fun f L led m' led' => f = .next ∧ Has [(Str.ofString "left", .ref Dl)] m' ∧ ∀ p ∈ led, p ∈ led') := by
  unfold Seg
  k_fill
  intro loose mean mg mb dp un gd cn a ccd outer A₀ base h₀ L m led s Q E B F X N TT hd9 hu9 hpre hE hret
  obtain ⟨rfl, hm, ⟨o6, hc6, hd6⟩, hD6, hDl, hY, hCA⟩ := hpre
  have hu : un + 64 < cLine := by omega
  have hyl : ys.length = lf.length := by rw [hY.length, List.length_map]
  have hysz : ys.toArray.size = lf.length := by rw [List.size_toArray, hyl]
  have F3 := fr_kstB hm F
  dsimp only [kstB] at F3
  clear F
  conv in (occs := *) lawScope => all_goals whnf
  conv in lawStmt _ => whnf
  k_with_none
  k_steps
  · refine id (α := wpAny _ _ _ _ _ _) ?_
    have hbig : 2 < lf.length := by
      have h1 : (2 : Int) < (ys.toArray.size : Nat) := by assumption
      omega
    have hno := hno hbig
    k_dflt (refine LCt.ListComp_T (F₀ := by k_asm) (by with_unfolding_all rfl) (by decide) (by rfl) (by decide) (by rfl) ?_)
    k_steps
    (rename Fr _ _ _ _ => F1); (rename News _ _ _ _ => N1); (rename IsRange _ _ _ _ _ _ _ _ => R1)
    refine LCt.CompSrcT.range (n := lf.length) (by rfl) F1 N1 R1 (small_one (by omega) (by omega) (by omega) (by omega)) (by rw [hysz]; exact rangeSize_nat _ _) (Nat.le_trans h9 (Nat.le_of_ble_eq_true rfl)) ?_
    intro g
    refine rest_indT (σ := Unit) _ (fun _ => led) (fun i _ ys' => ys' = []) ?turn ?fin _ _ () _ (Nat.zero_add _) rfl
    case turn =>
      rintro i _ ys' v I oI C oC D m₂ h tk E' hi hP' rfl hC hx F2 N2 off ne
      clear F1 N1
      obtain ⟨t, rfl⟩ := hP'
      rw [Int.zero_add] at hx
      have hCA' : CornersAt ((I, oI) :: (C, oC) :: (D, lst []) :: led) its6.toArray lf := ⟨hCA.size, fun j hj => by
        obtain ⟨a, e, ht⟩ := hCA.at' j hj
        exact ⟨a, e, ht.mono fun q hq => .tail _ (.tail _ (.tail _ hq))⟩⟩
      have hc6 : (L + 6, o6) ∈ (I, oI) :: (C, oC) :: (D, lst []) :: led := .tail _ (.tail _ (.tail _ hc6))
      k_with "my call" => k_dflt (refine' Spec.use (law_ear_spec w ((I, oI) :: (C, oC) :: (D, lst []) :: led) D6 n6 its6.toArray lf i t (.tail _ (.tail _ (.tail _ hD6))) hCA' (by omega) (by omega) hi) ?k1 ?k2 ?k3 ?k4 ?k5 ?kK ?kd ?ku ?_; (case k1 => k_asm); (case k2 => k_asm); (case k3 => k_asm); (case k4 => k_asm); (case k5 => k_asm); (case kK => exact rfl); (case kd => ktr_room); (case ku => ktr_units); intro r9 led9 h9 tk9 F9 N9 ho9; obtain ⟨e9, bb, e9', hbb⟩ := ho9; have e9 := e9.symm; subst e9 e9'; have hbf : bb = false := Bool.eq_false_iff.mpr (fun h => hno i hi (hbb.mp h)); subst hbf; (try k_sweep); (try k_fold))
      k_steps
      exact ct_end () F9 N9 (fun p hp => hp) off trivial rfl
    case fin =>
      rintro _ ys' rfl
      unfold LCg.FinE
      intro D h tk F2 N2 o1
      clear F1 N1
      k_with "my eq" => k_dflt (refine' dat_ne ?zqN (lcs_dat _ _ _ ?zqa) (lcs_dat _ _ _ ?zqb) rfl rfl ?zqu ?_; (case zqN => k_asm); (case zqa => exact .tail _ (.head _)); (case zqb => exact .head _); (case zqu => exact hu))
      k_steps
      exact hret _ _ _ _ _ (by k_asm) (by k_asm) ⟨rfl, Has.cons rfl Has.nil, fun p hp => .tail _ (.tail _ hp)⟩
  · exact hret _ _ _ _ _ (by k_asm) (by k_asm) ⟨rfl, Has.cons rfl Has.nil, fun p hp => hp⟩

/-- stay = [nodes[order.index(name)] for name in left] -/
theorem seg20 (w : World) (led0 : Led) (D3 D4 Dl : Addr) (n3 n4 nl : Nat) (ys4 ys : List Value) (R lf : List RN) (idx : RN → Nat) (hR9 : R.length ≤ 9) (hl9 : lf.length ≤ 9) (hli : (R.map idx).Nodup) (hsub : ∀ r ∈ lf, r ∈ R) :
    Seg w (lawStmt 20) (fun h₀ L m led => led = led0 ∧ Has [(Str.ofString "left", .ref Dl)] m ∧ Cel led (L + 3) (some (.ref D3)) ∧ Cel led (L + 4) (some (.ref D4)) ∧ Cel led (L + 7) none ∧ (D3, listOf (nodeItems R).toArray n3) ∈ led ∧ (D4, listOf ys4.toArray n4) ∈ led ∧ (Dl, listOf ys.toArray nl) ∈ led ∧ NumsV ys4 (R.map idx) ∧ NumsV ys (lf.map idx))
      (fun f L led m' led' => f = .next ∧ Kp (L + 7) led led' ∧ ∃ D n, Cel led' (L + 7) (some (.ref D)) ∧ (D, listOf (nodeItems lf).toArray n) ∈ led') := by
  unfold Seg
  k_fill
  intro loose mean mg mb dp un gd cn a ccd outer A₀ base h₀ L m led s Q E B F X N TT hd9 hu9 hpre hE hret
  obtain ⟨rfl, hm, ⟨o3, hc3, hd3⟩, ⟨o4, hc4, hd4⟩, ⟨o7, hc7, hd7⟩, hD3, hD4, hDl, hY4, hY⟩ := hpre
  have hyl : ys.length = lf.length := by rw [hY.length, List.length_map]
  have hyl4 : ys4.length = R.length := by rw [hY4.length, List.length_map]
  have hnsz : (nodeItems R).toArray.size = R.length := by simp
  have F3 := fr_kstB hm F
  dsimp only [kstB] at F3
  clear F
  conv in (occs := *) lawScope => all_goals whnf
  conv in lawStmt _ => whnf
  k_with_none
  k_steps
  refine id (α := wpAny _ _ _ _ _ _) ?_
  k_dflt (refine LCg.ListComp_U (F₀ := by k_asm) (by rfl) (by decide) (by rfl) (by decide) (by rfl) ?_)
  k_steps
  (rename Fr _ _ _ _ => F1); (rename News _ _ _ _ => N1)
  refine LCg.CompSrc.ledger (by rfl) F1 N1 hDl (szL (by omega)) ?_
  intro g
  refine rest_ind (σ := Unit) _ (fun _ => led) (fun i _ ys' => ys' = nodeItems (lf.take i)) ?turn ?fin _ _ () _ (Nat.zero_add _) rfl
  case turn =>
    rintro i _ ys' v I oI C oC D m₂ h tk E' hi hP' hJ hC hx F2 N2 off ne
    clear F1 N1
    obtain ⟨nn, hni, t, rfl⟩ := All2.get hY (show ys[i]? = some v by simpa using hP')
    rw [List.getElem?_map] at hni
    obtain ⟨r, hr, rfl⟩ := Option.map_eq_some_iff.mp hni
    obtain ⟨p, hp, hpr⟩ := List.mem_iff_getElem.mp (hsub r (List.mem_of_getElem? hr))
    have hpm : (R.map idx)[p]? = some (idx r) := by rw [List.getElem?_map, List.getElem?_eq_getElem hp, hpr]; rfl
    have hat : kf_at ((idx r : Nat) : Int) ys4.toArray.toList = some p := hY4.at hpm hli
    have hyl200 : ys4.toArray.toList.length ≤ sizeLine := szL (vs := ys4) (by omega)
    have up : ∀ q ∈ led, q ∈ (I, oI) :: (C, oC) :: (D, lst ys') :: led := fun q hq => .tail _ (.tail _ (.tail _ hq))
    have hc3 := up _ hc3
    have hc4 := up _ hc4
    have hm3 := up _ hD3
    have hm4 := up _ hD4
    have hit := item_at (its := nodeItems R) (n := p) (v := .ref r.a) (by rw [List.getElem?_map, List.getElem?_eq_getElem hp, hpr]; rfl)
    k_with "my item" => k_dflt (refine' itemC ?ziN ?zim ?zia ?zib ?zic ?zid ?_ ?zie; (case ziN => k_asm); (case zim => exact hm3); (case zia => omega); (case zib => omega); (case zic => omega); (case zid => exact hit); (case zie => with_unfolding_all rfl))
    k_with "my index" => k_dflt (refine' kf_index (j := p) ?znN ?znm ?zni ?zne ?znk ?znz ?_; (case znN => k_asm); (case znm => exact hm4); (case zni => exact hY4.kf); (case zne => exact hat); (case znk => exact rfl); (case znz => exact hyl200))
    k_steps
    (rename Fr _ _ _ _ => F4); (rename News _ _ _ _ => N4)
    refine ct_end () F4 N4 (fun p hp => hp) off (.inr ⟨_, hDl, rfl, _, rfl⟩) ?_
    rw [hJ, take_snoc hr]
    simp only [nodeItems, List.map_append, List.map_cons, List.map_nil]
  case fin =>
    rintro _ ys' hJ
    unfold LCg.FinE
    intro D h tk F2 N2 o1
    have hc7 := List.mem_cons_of_mem (D, lst ys') hc7
    have hJ' : ys' = nodeItems lf := by
      rw [hJ, List.take_of_length_le (by rw [List.size_toArray, hyl]; exact Nat.le_refl _)]
    clear F1 N1
    k_steps
    rename Kp _ _ _ => kp
    refine hret _ _ _ _ _ (by k_asm) (by k_asm) ⟨rfl, (Kp.sub fun p hp => List.mem_cons_of_mem _ hp).trans kp, D, ys'.length, ⟨_, upd_self hc7, by assumption⟩, ?_⟩
    rw [← hJ']
    exact kp.obj _ List.mem_cons_self (fun v h => by cases h)
/-- the links of what is left -/
theorem seg21 (w : World) (led0 : Led) (D7 : Addr) (n7 : Nat) (R : List RN) (h9 : R.length ≤ 9) :
    Seg w (lawStmt 21) (fun h₀ L m led => led = led0 ∧ Cel led (L + 7) (some (.ref D7)) ∧ (D7, listOf (nodeItems R).toArray n7) ∈ led ∧ RingIn w.params led R)
      (fun f L led m' led' => f = .ret (.bool true)) := by
  unfold Seg
  k_fill
  intro loose mean mg mb dp un gd cn a ccd outer A₀ base h₀ L m led s Q E B F X N TT hd9 hu9 hpre hE hret
  obtain ⟨rfl, ⟨o7, hc7, hd7⟩, hD7, hR⟩ := hpre
  have hu : un + 64 < cLine := by omega
  have hnsz : (nodeItems R).toArray.size = R.length := by simp
  have hnl : (nodeItems R).length ≤ 200 := by rw [List.length_map]; omega
  have hfit : ((nodeItems R).toArray.size : Int) < 2 ^ 63 := by omega
  conv in (occs := *) lawScope => all_goals whnf
  conv in lawStmt _ => whnf
  k_with_none
  k_steps
  refine id (α := wpAny _ _ _ _ _ _) ?_
  k_dflt (refine LCt.ListComp_T (F₀ := by k_asm) (by with_unfolding_all rfl) (by decide) (by rfl) (by decide) (by rfl) ?_)
  k_steps
  (rename Fr _ _ _ _ => F1); (rename News _ _ _ _ => N1); (rename IsRange _ _ _ _ _ _ _ _ => R1)
  refine LCt.CompSrcT.range (n := R.length) (by rfl) F1 N1 R1 (small_one (by omega) (by omega) (by omega) (by omega)) (by rw [hnsz]; exact rangeSize_nat _ _) (Nat.le_trans h9 (Nat.le_of_ble_eq_true rfl)) ?_
  intro g
  refine rest_indT (σ := Unit) _ (fun _ => led) (fun i _ ys' => ys' = []) ?turn ?fin _ _ () _ (Nat.zero_add _) rfl
  case turn =>
    rintro i _ ys' v I oI C oC D m₂ h tk E' hi hP' rfl hC hx F2 N2 off ne
    clear F1 N1
    obtain ⟨t, rfl⟩ := hP'
    have h1 : (nodeItems R).toArray[((0 + (i : Int) - 1) % ((nodeItems R).toArray.size : Int)).toNat]? = some (.ref (cyc R (i + R.length - 1)).a) := by
      have : ((0 + (i : Int) - 1) % (R.length : Int)).toNat = (i + R.length - 1) % R.length := by
        rw [show (0 + (i : Int) - 1) % (R.length : Int) = ((i + R.length - 1 : Nat) : Int) % (R.length : Int) by rw [← Int.add_emod_right]; congr 1; omega]
        omega
      rw [hnsz, this, ← cyc_mod, cyc_lt (Nat.mod_lt _ (by omega))]
      simp [Nat.mod_lt _ (show 0 < R.length by omega)]
    have h2 : (nodeItems R).toArray[((0 + (i : Int)) % ((nodeItems R).toArray.size : Int)).toNat]? = some (.ref (cyc R i).a) := by
      have : ((0 + (i : Int)) % (R.length : Int)).toNat = i := by
        rw [Int.emod_eq_of_lt (by omega) (by omega)]; omega
      rw [hnsz, this, cyc_lt hi]
      simp [hi]
    have up : ∀ q ∈ led, q ∈ (I, oI) :: (C, oC) :: (D, lst []) :: led := fun q hq => .tail _ (.tail _ (.tail _ hq))
    obtain ⟨p0, p1, p2, p3⟩ := hR.node i
    have hq := hR.node (i + R.length - 1)
    rw [show i + R.length - 1 + 1 = i + R.length by omega, cyc_add] at hq
    obtain ⟨q0, q1, q2, q3⟩ := hq
    have p0 := up _ p0
    have p1 := up _ p1
    have q0 := up _ q0
    have q1 := up _ q1
    have hc7 := up _ hc7
    have hm7 := up _ hD7
    k_with "my item" => k_dflt (refine' itemC ?ziN ?zim ?zia ?zib ?zic ?zid ?_ ?zie; (case ziN => k_asm); (case zim => exact hm7); (case zia => omega); (case zib => omega); (case zic => exact hfit); (case zid => first | exact h1 | exact h2); (case zie => with_unfolding_all rfl))
    k_steps
    all_goals first
      | exact absurd (rfl : ((cyc R (i + R.length - 1)).r (cyc R (i + R.length - 1 + R.length - 1)).a (cyc R i).a).nx = (cyc R i).a) (by assumption)
      | exact absurd (rfl : ((cyc R i).r (cyc R (i + R.length - 1)).a (cyc R (i + 1)).a).pv = (cyc R (i + R.length - 1)).a) (by assumption)
      | ((rename Fr _ _ _ _ => F4); (rename News _ _ _ _ => N4); exact ct_end () F4 N4 (fun p hp => hp) off trivial rfl)
  case fin =>
    rintro _ ys' rfl
    unfold LCg.FinE
    intro D h tk F2 N2 o1
    clear F1 N1
    k_with "my eq" => k_dflt (refine' dat_eq ?zqN (lcs_dat _ _ _ ?zqa) (lcs_dat _ _ _ ?zqb) rfl rfl ?zqu ?_; (case zqN => k_asm); (case zqa => exact .tail _ (.head _)); (case zqb => exact .head _); (case zqu => exact hu))
    k_steps
    exact hret _ _ _ _ _ (by k_asm) (by k_asm) rfl
end Mine
end

namespace Mine
theorem fresh_GZ : True := by w_top off; first | walk1 | trivial
end Mine

section
open PySem PySem.W PyProof.Rows PySem.Calls PySem.Spec
set_option maxRecDepth 100000
set_option maxHeartbeats 1000000
namespace Mine
theorem law_len : lawBody.length = 22 := by rfl
theorem drop_step {k : Nat} (h : k < 22) : lawBody.drop k = lawStmt k :: lawBody.drop (k + 1) := by
  have h' : k < lawBody.length := by rw [law_len]; exact h
  rw [List.drop_eq_getElem_cons h']
  congr 1
  unfold lawStmt
  rw [List.getD, List.getElem?_eq_getElem h']; rfl
theorem seg_step {k : Nat} (hk : k < 22) {w : World} {pre : Heap → Addr → (Str → Option Value) → Led → Prop} {post : Flow → Addr → Led → (Str → Option Value) → Led → Prop} (G : Seg w (lawStmt k) pre post)
    {loose : List Str} {mean : ExcName → Option Value} {mg mb : Str → Option Value} {dp un : Nat} {gd : Option (List Code)} {cn : Str} {a : Addr} {ccd : Value} {outer : List Env} {A₀ : Around} {base h₀ : Heap} {L : Addr} {m : Str → Option Value} {led : Led} {s : Shared}
    {Q : Flow → Shared → Prop} {E : Value → Shared → Prop}
    (B : Below A₀ base outer h₀) (F : Fr h₀ L s.heap m) (X : (hd.heap_39 w.params).In h₀) (N : News h₀ L s.heap led) (T : Top hd.view_39 loose mean mg mb h₀) (hd9 : dp + 20 < recursionLimit) (hu9 : un + 200 < cLine) (hpre : pre h₀ L m led)
    (hE : PassesOwn (model PySem.Challenge.rw_fy0008_01.row.prog w) (ktrTop dp un gd cn lawScope L a ccd (cellsFrom (L + 1) lawScope.names []) outer) (envOfC cn lawScope L a ccd) E)
    (next : ∀ f m' led' h' tk', Fr h₀ L h' m' → News h₀ L h' led' → post f L led m' led' →
      (f = .next ∧ wpAny (model PySem.Challenge.rw_fy0008_01.row.prog w) (ktrTop dp un gd cn lawScope L a ccd (cellsFrom (L + 1) lawScope.names []) outer) (execs (lawBody.drop (k + 1)) (envOfC cn lawScope L a ccd)) Q E { s with heap := h', toks := tk' }) ∨
      (f = .ret (.bool true) ∧ Q (.ret (.bool true)) { s with heap := h', toks := tk' })) :
    wpAny (model PySem.Challenge.rw_fy0008_01.row.prog w) (ktrTop dp un gd cn lawScope L a ccd (cellsFrom (L + 1) lawScope.names []) outer) (execs (lawBody.drop k) (envOfC cn lawScope L a ccd)) Q E s := by
  rw [drop_step hk]
  refine wpAny_execs_cons (G _ _ _ _ _ _ _ _ _ _ _ _ _ _ _ _ _ _ _ _ B F X N T hd9 hu9 hpre hE fun f m' led' h' tk' F' N' hp => ?_)
  rcases next f m' led' h' tk' F' N' hp with ⟨rfl, h⟩ | ⟨rfl, h⟩
  · exact h
  · exact h

/-- the objects stay -/
def Ob (l l' : Led) : Prop := ∀ p ∈ l, (∀ v, p.2.data ≠ .cell v) → p ∈ l'
theorem Ob.trans {a b c : Led} (h : Ob a b) (h' : Ob b c) : Ob a c := fun p hp hn => h' p (h p hp hn) hn
theorem Ob.sub {a b : Led} (h : ∀ p ∈ a, p ∈ b) : Ob a b := fun p hp _ => h p hp
theorem Kp.ob {c : Addr} {a b : Led} (h : Kp c a b) : Ob a b := h.obj
theorem Ob.lst {a b : Led} (h : Ob a b) {D : Addr} {its : Array Value} {n : Nat} (hm : (D, listOf its n) ∈ a) : (D, listOf its n) ∈ b := h _ hm (fun v h => by cases h)
theorem Ob.plv {a b : Led} (h : Ob a b) {its : List Value} {ps : List (Int × Int)} (hp : All2 (PlV a) its ps) : All2 (PlV b) its ps :=
  hp.mono fun _ _ ⟨x, e, ⟨tx, ty, n, hm⟩, hb⟩ => ⟨x, e, ⟨tx, ty, n, h _ hm (fun v h => by cases h)⟩, hb⟩
theorem Ob.tri {a b : Led} (h : Ob a b) {its : List Value} {ts : List (RN × RN × RN)} (hp : All2 (TriIt a) its ts) : All2 (TriIt b) its ts :=
  hp.mono fun _ _ ⟨x, n, e, hm⟩ => ⟨x, n, e, h _ hm (fun v h => by cases h)⟩
theorem Ob.pt {a b : Led} (h : Ob a b) {P : Params} {p : PtR} (hp : PtAt P a p) : PtAt P b p :=
  ⟨h _ hp.1 (fun v h => by cases h), h _ hp.2.1 (fun v h => by cases h), hp.2.2⟩
theorem Ob.ring {a b : Led} (h : Ob a b) {P : Params} {R : List RN} (hR : RingIn P a R) : RingIn P b R :=
  ⟨fun j => ⟨h _ (hR.node j).1 (fun v h => by cases h), h _ (hR.node j).2.1 (fun v h => by cases h), (hR.node j).2.2⟩, hR.nodup, hR.nodupa⟩
theorem Cel.mono {a b : Led} {c : Addr} {v : Option Value} (h : Cel a c v) (k : ∀ p ∈ a, p ∈ b) : Cel b c v := by
  obtain ⟨o, hm, hd⟩ := h
  exact ⟨o, k _ hm, hd⟩
theorem pt_ne_node (P : Params) (p : PtR) (r : RN) (pv nx : Addr) : p.o P ≠ (r.r pv nx).o P := by
  intro h
  have h2 : Data.dict _ _ = Data.dict _ _ := congrArg Obj.data h
  have h3 := (Data.dict.inj h2).1
  have h4 : (2 : Nat) = 10 := congrArg Array.size h3
  exact absurd h4 (by decide)
theorem no_ears {lf : List RN} {n : Nat} (h3 : 2 < lf.length) (h : ∀ j, j < (rotN n lf).length → ¬ Ear (rotN j (rotN n lf))) : ∀ k, k < lf.length → ¬ LEar lf k := by
  intro k hk he
  have h0 : 0 < lf.length := by omega
  have hm := Nat.mod_lt n h0
  have hj := Nat.mod_lt (k + (lf.length - n % lf.length)) h0
  refine h ((k + (lf.length - n % lf.length)) % lf.length) (by rw [rotN_length]; exact hj) ?_
  have e : rotN ((k + (lf.length - n % lf.length)) % lf.length) (rotN n lf) = rotN k lf := by
    refine ext_cyc (by rw [rotN_length, rotN_length, rotN_length]) fun i => ?_
    rw [cyc_rotN, cyc_rotN, cyc_rotN, ← cyc_mod lf (i + _ + n), ← cyc_mod lf (i + k)]
    congr 1
    have hd := Nat.div_add_mod n lf.length
    rw [Nat.add_right_comm, Nat.add_mod_mod, show i + n + (k + (lf.length - n % lf.length)) = i + k + lf.length * (1 + n / lf.length) by rw [Nat.mul_add, Nat.mul_one]; omega, Nat.add_mul_mod_self_left]
  rw [e]
  exact (ear_iff (by omega) k).mpr he

theorem law_all (w : World) (ax : Addr) (vs : List Value) (xs : List Int) (hI : IntsAre vs xs) (hlen : xs.length ≤ 63)
    {loose : List Str} {mean : ExcName → Option Value} {mg mb : Str → Option Value} {dp un : Nat} {gd : Option (List Code)} {cn : Str} {a : Addr} {ccd : Value} {outer : List Env} {A₀ : Around} {base h₀ : Heap} {L : Addr} {m : Str → Option Value} {led : Led} {s : Shared}
    {Q : Flow → Shared → Prop} {E : Value → Shared → Prop}
    (B : Below A₀ base outer h₀) (F : Fr h₀ L s.heap m) (X : (hd.heap_39 w.params).In h₀) (N : News h₀ L s.heap led) (T : Top hd.view_39 loose mean mg mb h₀) (hd9 : dp + 20 < recursionLimit) (hu9 : un + 200 < cLine)
    (hm : Has [(Str.ofString "script", .ref ax)] m) (hax : h₀.IsList ax vs.toArray)
    (hc : Cel led (L + 1) none ∧ Cel led (L + 2) none ∧ Cel led (L + 3) none ∧ Cel led (L + 4) none ∧ Cel led (L + 5) none ∧ Cel led (L + 6) none ∧ Cel led (L + 7) none)
    (hE : PassesOwn (model PySem.Challenge.rw_fy0008_01.row.prog w) (ktrTop dp un gd cn lawScope L a ccd (cellsFrom (L + 1) lawScope.names []) outer) (envOfC cn lawScope L a ccd) E)
    (hQ : ∀ h' tk' m' led', Fr h₀ L h' m' → News h₀ L h' led' → Q (.ret (.bool true)) { s with heap := h', toks := tk' }) :
    wpAny (model PySem.Challenge.rw_fy0008_01.row.prog w) (ktrTop dp un gd cn lawScope L a ccd (cellsFrom (L + 1) lawScope.names []) outer) (execs lawBody (envOfC cn lawScope L a ccd)) Q E s := by
  obtain ⟨c1, c2, c3, c4, c5, c6, c7⟩ := hc
  show wpAny _ _ (execs (lawBody.drop 0) _) _ _ _
  -- places
  refine seg_step (by decide) (seg0 w ax vs xs hI hlen) B F X N T hd9 hu9 ⟨hm, hax, c1⟩ hE ?_
  rintro _ m0 l0 h0 t0 F0 N0 ⟨rfl, hm0, kp0, D00, its0, n00, c1, hD00, hP0⟩
  refine .inl ⟨rfl, ?_⟩
  replace c2 := kp0.cel _ _ (cel_ne (by decide)) c2
  replace c3 := kp0.cel _ _ (cel_ne (by decide)) c3
  replace c4 := kp0.cel _ _ (cel_ne (by decide)) c4
  replace c5 := kp0.cel _ _ (cel_ne (by decide)) c5
  replace c6 := kp0.cel _ _ (cel_ne (by decide)) c6
  replace c7 := kp0.cel _ _ (cel_ne (by decide)) c7
  have hlen0 : ((xs.take 8).map numPl).length = min 8 xs.length := by rw [List.length_map, List.length_take]
  have hits0 := hP0.length
  -- closed
  refine seg_step (by decide) (seg1 w ax vs xs hI hlen D00 its0 n00 _ (by omega)) B F0 X N0 T hd9 hu9 ⟨hm0, hax, c1, hD00, hP0⟩ hE ?_
  rintro _ m1 l1 h1 t1 F1 N1 ⟨rfl, hm1, kp1, D0, its, n0, c1, hD0, hP⟩
  refine .inl ⟨rfl, ?_⟩
  replace c2 := kp1.cel _ _ (cel_ne (by decide)) c2
  replace c3 := kp1.cel _ _ (cel_ne (by decide)) c3
  replace c4 := kp1.cel _ _ (cel_ne (by decide)) c4
  replace c5 := kp1.cel _ _ (cel_ne (by decide)) c5
  replace c6 := kp1.cel _ _ (cel_ne (by decide)) c6
  replace c7 := kp1.cel _ _ (cel_ne (by decide)) c7
  obtain ⟨ps, hpsd⟩ : ∃ ps, ps = (if xs.length % 2 = 1 then (xs.take 8).map numPl ++ ((xs.take 8).map numPl).take 1 else (xs.take 8).map numPl) := ⟨_, rfl⟩
  rw [← hpsd] at hP
  have hps : ps.length ≤ 9 ∧ ps.length ≠ 1 := by
    subst hpsd
    split
    · rw [List.length_append, List.length_take, hlen0]; omega
    · rw [hlen0]; omega
  obtain ⟨hps9, hps1⟩ := hps
  clear hpsd
  have hits := hP.length
  -- points
  refine seg_step (by decide) (seg2 w D0 its n0 ps (by omega)) B F1 X N1 T hd9 hu9 ⟨c1, hD0, hP, c2⟩ hE ?_
  rintro _ m2 l2 h2 t2 F2 N2 ⟨rfl, kp2, D1, itsP, n1, pts, c2, hD1, hV, hPt, hco, hnd⟩
  subst hV
  refine .inl ⟨rfl, ?_⟩
  replace c1 := kp2.cel _ _ (cel_ne (by decide)) c1
  replace c3 := kp2.cel _ _ (cel_ne (by decide)) c3
  replace c4 := kp2.cel _ _ (cel_ne (by decide)) c4
  replace c5 := kp2.cel _ _ (cel_ne (by decide)) c5
  replace c6 := kp2.cel _ _ (cel_ne (by decide)) c6
  replace c7 := kp2.cel _ _ (cel_ne (by decide)) c7
  have hD0 := kp2.ob.lst hD0
  have hP := kp2.ob.plv hP
  have hpl : pts.length = ps.length := by rw [← hco, List.length_map]
  -- start
  refine seg_step (by decide) (seg3 w D1 n1 pts (by omega) (by omega)) B F2 X N2 T hd9 hu9 ⟨c2, hD1, hPt⟩ hE ?_
  rintro _ m3 l3 h3 t3 F3 N3 ⟨rfl, v, hm3, hLL⟩
  refine .inl ⟨rfl, ?_⟩
  obtain ⟨hk3, R, rsq, hv, hR, hRe, hRl, hnp, hndr, hsubr, hlaw⟩ := ll_ring hLL hnd
  have hX := idx_ok hnp hnd hsubr hndr
  replace c1 := c1.mono hk3
  replace c2 := c2.mono hk3
  replace c3 := c3.mono hk3
  replace c4 := c4.mono hk3
  replace c5 := c5.mono hk3
  replace c6 := c6.mono hk3
  replace c7 := c7.mono hk3
  have hD0 := hk3 _ hD0
  have hD1 := hk3 _ hD1
  have hP := (Ob.sub hk3).plv hP
  have hPt := fun p hp => (Ob.sub hk3).pt (hPt p hp)
  -- nodes, node
  refine seg_step (by decide) (seg4 w v) B F3 X N3 T hd9 hu9 ⟨hm3, c3⟩ hE ?_
  rintro _ m4 l4 h4 t4 F4 N4 ⟨rfl, hm4, kp4, Dn, nn, c3', hDn, hfr⟩
  refine .inl ⟨rfl, ?_⟩
  have hR4 : R ≠ [] → RingIn w.params l4 R := fun h => kp4.ob.ring (hR h)
  -- the loop over the nodes
  refine seg_step (by decide) (seg5 w l4 D1 Dn n1 nn pts R v (by omega) hRl hv hRe) B F4 X N4 T hd9 hu9 ⟨rfl, hm4, kp4.cel _ _ (cel_ne (by decide)) c2, c3', kp4.ob.lst hD1, hDn, hR4, hfr _ hD1⟩ hE ?_
  rintro _ m5 l5 h5 t5 F5 N5 ⟨rfl, hm5, hk5, nn', hDn5⟩
  refine .inl ⟨rfl, ?_⟩
  have ob35 : Ob l3 l5 := fun p hp hn => hk5 p (kp4.obj p hp hn) (hfr p hp)
  have cel35 : ∀ c v, c ≠ L + 3 → Cel l3 c v → Cel l5 c v := fun c v hne hc => by
    obtain ⟨o, ho, hd⟩ := hc
    obtain ⟨o', ho', hd'⟩ := kp4.cel c v hne ⟨o, ho, hd⟩
    have hne' : c ≠ Dn := hfr _ ho
    exact ⟨o', hk5 _ ho' hne', hd'⟩
  have c3 : Cel l5 (L + 3) (some (.ref Dn)) := by
    obtain ⟨o, ho, _⟩ := c3
    obtain ⟨o', ho', hd'⟩ := c3'
    have hne' : L + 3 ≠ Dn := hfr _ ho
    exact ⟨o', hk5 _ ho' hne', hd'⟩
  replace c1 := cel35 _ _ (cel_ne (by decide)) c1
  replace c2 := cel35 _ _ (cel_ne (by decide)) c2
  replace c4 := cel35 _ _ (cel_ne (by decide)) c4
  replace c5 := cel35 _ _ (cel_ne (by decide)) c5
  replace c6 := cel35 _ _ (cel_ne (by decide)) c6
  replace c7 := cel35 _ _ (cel_ne (by decide)) c7
  have hD0 := ob35.lst hD0
  have hD1 := ob35.lst hD1
  have hP := ob35.plv hP
  have hPt := fun p hp => ob35.pt (hPt p hp)
  have hR := fun h => ob35.ring (hR h)
  -- the links
  refine seg_step (by decide) (seg6 w l5 Dn nn' R (by omega) v) B F5 X N5 T hd9 hu9 ⟨rfl, hm5, c3, hDn5, hR⟩ hE ?_
  rintro _ m6 l6 h6 t6 F6 N6 ⟨rfl, hm6, rfl⟩
  refine .inl ⟨rfl, ?_⟩
  -- order
  refine seg_step (by decide) (seg7 w l6 Dn D1 nn' n1 R pts (by omega) (by omega) v (fun r hr => by
    obtain ⟨p, hp, hn⟩ := np_mem hnp r hr
    exact ⟨p, hsubr p hp, hn⟩)) B F6 X N6 T hd9 hu9 ⟨rfl, hm6, c2, c3, c4, hDn5, hD1, hR, hPt⟩ hE ?_
  rintro _ m7 l7 h7 t7 F7 N7 ⟨rfl, hm7, kp7, D4, ys4, n4, c4, hD4, hY4⟩
  rw [pick2_idx hX hnd] at hY4
  refine .inl ⟨rfl, ?_⟩
  replace c1 := kp7.cel _ _ (cel_ne (by decide)) c1
  replace c2 := kp7.cel _ _ (cel_ne (by decide)) c2
  replace c3 := kp7.cel _ _ (cel_ne (by decide)) c3
  replace c5 := kp7.cel _ _ (cel_ne (by decide)) c5
  replace c6 := kp7.cel _ _ (cel_ne (by decide)) c6
  replace c7 := kp7.cel _ _ (cel_ne (by decide)) c7
  have hD0 := kp7.ob.lst hD0
  have hD1 := kp7.ob.lst hD1
  have hDn := kp7.ob.lst hDn5
  have hP := kp7.ob.plv hP
  have hPt := fun p hp => kp7.ob.pt (hPt p hp)
  have hR := fun h => kp7.ob.ring (hR h)
  clear kp0 kp1 kp2 kp4 kp7 hk3 hk5 ob35 cel35 hR4 hDn5 hfr hLL hP0 hD00
  -- told
  refine seg_step (by decide) (seg8 w v) B F7 X N7 T hd9 hu9 hm7 hE ?_
  rintro _ m8 l8 h8 t8 F8 N8 ⟨rfl, DT, nT, hm8, hT8, hk8, hf8⟩
  refine .inl ⟨rfl, ?_⟩
  have hR8 := fun h => (Ob.sub hk8).ring (hR h)
  -- earcut
  refine seg_step (by decide) (seg9 w v l8 DT nT R (by omega) hv) B F8 X N8 T hd9 hu9 ⟨rfl, hm8, hT8, hR8⟩ hE ?_
  rintro _ m9 l9 h9 t9 F9 N9 ⟨rfl, hm9, hor⟩
  refine .inl ⟨rfl, ?_⟩
  rcases hor with ⟨hRn, rfl⟩ | ⟨hRn, c, hcl, hEc, hend⟩
  · have hpn : ps = [] := List.eq_nil_of_length_eq_zero (by rw [← hpl, hRe hRn]; rfl)
    have hvn : v = .none := by rw [hv]; unfold nodeV; rw [if_pos hRn]
    refine seg_step (by decide) (seg10 w v l9 DT D0 nT n0 its ps (fun _ => hvn)) B F9 X N9 T hd9 hu9 ⟨rfl, hm9, c1.mono hk8, hk8 _ hD0, (Ob.sub hk8).plv hP, fun _ => hT8⟩ hE ?_
    rintro f m10 l10 h10 t10 F10 N10 (⟨_, rfl⟩ | ⟨hne, _⟩)
    · exact .inr ⟨rfl, hQ _ _ _ _ F10 N10⟩
    · exact absurd hpn hne
  · have hpne : ps ≠ [] := fun h => hRn (by
      have h0 : pts.length = 0 := by rw [hpl, h]; rfl
      exact List.eq_nil_of_length_eq_zero (by omega))
    have hptne : pts ≠ [] := fun h => hpne (List.eq_nil_of_length_eq_zero (by rw [← hpl, h]; rfl))
    have hRlen : 0 < R.length := List.length_pos_iff.mpr hRn
    subst hcl
    -- what earcut keeps
    have kd : ∀ p ∈ l7, (∀ r pv nx, p.2 ≠ (RN.r r pv nx).o w.params) → p ∈ c.led := fun p hp hn => hEc.keep p (hk8 p hp) (hf8 p hp) (fun r hr => by
      obtain ⟨j, _, rfl⟩ := mem_cyc hr
      exact news_ne N8 (hk8 p hp) (((Ob.sub hk8).ring (hR hRn)).node j).2.1 (hn _ _ _))
    have nl : ∀ (its : Array Value) (n : Nat) (r : RN) (pv nx : Addr), listOf its n ≠ (r.r pv nx).o w.params := fun its n r pv nx => ne_cls (a := "list") (b := "dict") rfl rfl (by decide)
    have kl : ∀ {D : Addr} {its : Array Value} {n : Nat}, (D, listOf its n) ∈ l7 → (D, listOf its n) ∈ c.led := fun h => kd _ h (nl _ _)
    have kc : ∀ {j : Addr} {v : Option Value}, Cel l7 j v → Cel c.led j v := fun {j v} ⟨o, ho, hd⟩ => ⟨o, kd _ ho (fun r pv nx e => by
      have e' : o = (RN.r r pv nx).o w.params := e
      rw [e'] at hd; cases hd), hd⟩
    have kp : ∀ {its : List Value} {qs : List (Int × Int)}, All2 (PlV l7) its qs → All2 (PlV c.led) its qs := fun h => h.mono fun _ _ ⟨x, e, ⟨tx, ty, n, hm⟩, hb⟩ => ⟨x, e, ⟨tx, ty, n, kd _ hm (fun r pv nx => ne_cls (a := "tuple") (b := "dict") rfl rfl (by decide))⟩, hb⟩
    have kpt : ∀ p ∈ pts, PtAt w.params c.led p := fun p hp => ⟨kd _ (hPt p hp).1 (fun r pv nx e => by
      have e2 := congrArg Obj.cls e
      cases e2), kd _ (hPt p hp).2.1 (fun r pv nx => pt_ne_node _ _ _ _ _), (hPt p hp).2.2⟩
    replace c1 := kc c1
    replace c2 := kc c2
    replace c3 := kc c3
    replace c4 := kc c4
    replace c5 := kc c5
    replace c6 := kc c6
    replace c7 := kc c7
    have hD0 := kl hD0
    have hD1 := kl hD1
    have hDn := kl hDn
    have hD4 := kl hD4
    have hP := kp hP
    clear kd nl kl kc kp
    obtain ⟨lf, n, hcut, hrot⟩ := steps_cuts hEc.steps
    have hlfl : c.ring.length = lf.length := by rw [hrot, rotN_length]
    have hlf0 : 0 < lf.length := by have := hEc.pos; omega
    have hRing : RingIn w.params c.led lf := ring_unrot (n := n) (by rw [← hrot]; exact hEc.ring) hlf0
    have hlfs := hcut.sublist
    have hlf9 : lf.length ≤ 9 := Nat.le_trans hlfs.length_le (by omega)
    have hlfR : ∀ r ∈ lf, r ∈ R := fun r hr => hlfs.subset hr
    have hTl := hEc.tl
    have hTri := hEc.tri
    -- places == []
    refine seg_step (by decide) (seg10 w v c.led DT D0 nT n0 its ps (fun h => absurd h hpne)) B F9 X N9 T hd9 hu9 ⟨rfl, hm9, c1, hD0, hP, fun h => absurd h hpne⟩ hE ?_
    rintro f m10 l10 h10 t10 F10 N10 (⟨h, _⟩ | ⟨_, rfl, hm10, hk10⟩)
    · exact absurd h hpne
    refine .inl ⟨rfl, ?_⟩
    replace c1 := c1.mono hk10
    replace c2 := c2.mono hk10
    replace c3 := c3.mono hk10
    replace c4 := c4.mono hk10
    replace c5 := c5.mono hk10
    replace c6 := c6.mono hk10
    replace c7 := c7.mono hk10
    have ob := Ob.sub hk10
    -- ring
    refine seg_step (by decide) (seg11 w (.ref DT) _ rfl l10 D0 n0 its ps hps9 (by have := List.length_pos_iff.mpr hpne; omega)) B F10 X N10 T hd9 hu9 ⟨rfl, fun p hp => hm10 p (List.mem_cons_of_mem _ hp), c1, c5, ob.lst hD0, ob.plv hP⟩ hE ?_
    rintro _ m11 l11 h11 t11 F11 N11 ⟨rfl, hm11, kp11, D5, n5, its5, c5, hD5, hP5⟩
    refine .inl ⟨rfl, ?_⟩
    replace c1 := kp11.cel _ _ (cel_ne (by decide)) c1
    replace c2 := kp11.cel _ _ (cel_ne (by decide)) c2
    replace c3 := kp11.cel _ _ (cel_ne (by decide)) c3
    replace c4 := kp11.cel _ _ (cel_ne (by decide)) c4
    replace c6 := kp11.cel _ _ (cel_ne (by decide)) c6
    replace c7 := kp11.cel _ _ (cel_ne (by decide)) c7
    have ob := ob.trans kp11.ob
    have hits9 : its.length ≤ 9 := by omega
    have hip : its.length = pts.length := by omega
    have hordlt : ∀ k ∈ R.map (idxOf pts), k < its.length := fun k hk => by
      obtain ⟨r, hr, rfl⟩ := List.mem_map.mp hk
      rw [hip]; exact hX.lt r hr
    have hl5 : its5.length ≤ 9 ∧ 1 ≤ its5.length := by
      rw [hP5.length]
      unfold ringOf
      split
      · rw [List.length_take]; omega
      · have := List.length_pos_iff.mpr hpne; omega
    -- corners
    refine seg_step (by decide) (seg12 w (.ref DT) l11 D0 D4 n0 n4 its ys4 (R.map (idxOf pts)) hits9 hordlt (by rw [List.length_map]; omega)) B F11 X N11 T hd9 hu9 ⟨rfl, hm11, c1, c4, c6, ob.lst hD0, ob.lst hD4, hY4⟩ hE ?_
    rintro _ m12 l12 h12 t12 F12 N12 ⟨rfl, hm12, kp12, D6, n6, its6, c6, hD6, hpick6⟩
    refine .inl ⟨rfl, ?_⟩
    replace c1 := kp12.cel _ _ (cel_ne (by decide)) c1
    replace c2 := kp12.cel _ _ (cel_ne (by decide)) c2
    replace c3 := kp12.cel _ _ (cel_ne (by decide)) c3
    replace c4 := kp12.cel _ _ (cel_ne (by decide)) c4
    replace c5 := kp12.cel _ _ (cel_ne (by decide)) c5
    replace c7 := kp12.cel _ _ (cel_ne (by decide)) c7
    have ob := ob.trans kp12.ob
    have hD5 := kp12.ob.lst hD5
    have hP5 := kp12.ob.plv hP5
    -- whole
    refine seg_step (by decide) (seg13 w (.ref DT) l12 D5 n5 its5 (ringOf ps) hl5.1 (by rw [← hP5.length]; exact hl5.2)) B F12 X N12 T hd9 hu9 ⟨rfl, hm12, c5, hD5, hP5⟩ hE ?_
    rintro _ m13 l13 h13 t13 F13 N13 ⟨rfl, ⟨tw, hm13⟩, hk13⟩
    refine .inl ⟨rfl, ?_⟩
    replace c1 := c1.mono hk13
    replace c2 := c2.mono hk13
    replace c3 := c3.mono hk13
    replace c4 := c4.mono hk13
    replace c5 := c5.mono hk13
    replace c6 := c6.mono hk13
    replace c7 := c7.mono hk13
    have ob := ob.trans (Ob.sub hk13)
    have hD5 := hk13 _ hD5
    have hP5 := (Ob.sub hk13).plv hP5
    have hD6 := hk13 _ hD6
    -- the names are all different
    refine seg_step (by decide) (seg14 w (.ref DT) (wholeOf (ringOf ps)) tw l13 Dn D4 nn' n4 (nodeItems R) ys4 (R.map (idxOf pts)) (by rw [List.length_map]; omega) hX.nodup (by rw [List.length_map, List.length_map])) B F13 X N13 T hd9 hu9 ⟨rfl, hm13, c3, c4, ob.lst hDn, ob.lst hD4, hY4⟩ hE ?_
    rintro _ m14 l14 h14 t14 F14 N14 ⟨rfl, hm14, hk14⟩
    refine .inl ⟨rfl, ?_⟩
    replace c1 := c1.mono hk14
    replace c2 := c2.mono hk14
    replace c3 := c3.mono hk14
    replace c4 := c4.mono hk14
    replace c5 := c5.mono hk14
    replace c6 := c6.mono hk14
    replace c7 := c7.mono hk14
    have ob := ob.trans (Ob.sub hk14)
    have hD5 := hk14 _ hD5
    have hP5 := (Ob.sub hk14).plv hP5
    have hD6 := hk14 _ hD6
    have hP6 : All2 (PlV l14) its6 (R.map rc) := by
      have h := hpick6.pl (ob.plv hP)
      rwa [hX.pl hco (fun r hr => hr)] at h
    -- the order
    refine seg_step (by decide) (seg15 w (.ref DT) (wholeOf (ringOf ps)) tw l14 D5 D6 n5 n6 its5 its6 (ringOf ps) (R.map rc) hl5.1 (by
      have h := hlaw hptne
      rwa [show pts.map co = ps from hco] at h)) B F14 X N14 T hd9 hu9 ⟨rfl, hm14, c5, c6, hD5, hD6, hP5, hP6⟩ hE ?_
    rintro _ m15 l15 h15 t15 F15 N15 ⟨rfl, hm15, hk15⟩
    refine .inl ⟨rfl, ?_⟩
    replace c1 := c1.mono hk15
    replace c2 := c2.mono hk15
    replace c3 := c3.mono hk15
    replace c4 := c4.mono hk15
    replace c6 := c6.mono hk15
    replace c7 := c7.mono hk15
    have ob := ob.trans (Ob.sub hk15)
    -- left = order
    refine seg_step (by decide) (seg16 w (.ref DT) l15 D4) B F15 X N15 T hd9 hu9 ⟨rfl, hm15, c4⟩ hE ?_
    rintro _ m16 l16 h16 t16 F16 N16 ⟨rfl, hm16, rfl⟩
    refine .inl ⟨rfl, ?_⟩
    -- the triangles
    refine seg_step (by decide) (seg17 w l16 DT D0 D1 D4 n0 n1 n4 c.n its ys4 c.items ps pts R lf c.T (idxOf pts) (by omega) (by omega) hco hX hnd hcut (ob.tri hTri) (ob.plv hP) (fun p hp => ob.pt (kpt p hp)) hY4) B F16 X N16 T hd9 hu9 ⟨rfl, hm16, c1, c2, ⟨_, c6⟩, ob.lst hD0, ob.lst hD1, ob.lst hD4, ob.lst hTl⟩ hE ?_
    rintro _ m17 l17 h17 t17 F17 N17 ⟨rfl, Dl, nl, ys, hm17, kp17, c6, hDl, hY⟩
    refine .inl ⟨rfl, ?_⟩
    replace c1 := kp17.cel _ _ (cel_ne (by decide)) c1
    replace c3 := kp17.cel _ _ (cel_ne (by decide)) c3
    replace c4 := kp17.cel _ _ (cel_ne (by decide)) c4
    replace c7 := kp17.cel _ _ (cel_ne (by decide)) c7
    have ob := ob.trans kp17.ob
    have hlflt : ∀ k ∈ lf.map (idxOf pts), k < its.length := fun k hk => by
      obtain ⟨r, hr, rfl⟩ := List.mem_map.mp hk
      rw [hip]; exact hX.lt r (hlfR r hr)
    -- the corners of what is left
    refine seg_step (by decide) (seg18 w l17 D0 Dl n0 nl its ys (lf.map (idxOf pts)) hits9 hlflt (by rw [List.length_map]; exact hlf9)) B F17 X N17 T hd9 hu9 ⟨rfl, hm17, c1, c6, ob.lst hD0, hDl, hY⟩ hE ?_
    rintro _ m18 l18 h18 t18 F18 N18 ⟨rfl, hm18, kp18, D6', n6', its6', c6, hD6, hpick⟩
    refine .inl ⟨rfl, ?_⟩
    replace c3 := kp18.cel _ _ (cel_ne (by decide)) c3
    replace c4 := kp18.cel _ _ (cel_ne (by decide)) c4
    replace c7 := kp18.cel _ _ (cel_ne (by decide)) c7
    have ob := ob.trans kp18.ob
    have hDl := kp18.ob.lst hDl
    have hCA : CornersAt l18 its6'.toArray lf := corners_at (by
      rw [← hX.pl hco hlfR]
      exact hpick.pl (ob.plv hP))
    -- no ear is left
    refine seg_step (by decide) (seg19 w l18 Dl D6' nl n6' ys its6' lf (idxOf pts) hlf9 (fun h2 => by
      rcases hend with hend | hend
      · omega
      · rw [hrot] at hend
        exact no_ears h2 hend)) B F18 X N18 T hd9 hu9 ⟨rfl, hm18, c6, hD6, hDl, hY, hCA⟩ hE ?_
    rintro _ m19 l19 h19 t19 F19 N19 ⟨rfl, hm19, hk19⟩
    refine .inl ⟨rfl, ?_⟩
    have ob := ob.trans (Ob.sub hk19)
    -- stay
    refine seg_step (by decide) (seg20 w l19 Dn D4 Dl nn' n4 nl ys4 ys R lf (idxOf pts) (by omega) hlf9 hX.nodup hlfR) B F19 X N19 T hd9 hu9 ⟨rfl, hm19, c3.mono hk19, c4.mono hk19, c7.mono hk19, ob.lst hDn, ob.lst hD4, hk19 _ hDl, hY4, hY⟩ hE ?_
    rintro _ m20 l20 h20 t20 F20 N20 ⟨rfl, kp20, D7, n7, c7, hD7⟩
    refine .inl ⟨rfl, ?_⟩
    have ob := ob.trans kp20.ob
    -- the links of what is left
    refine seg_step (by decide) (seg21 w l20 D7 n7 lf hlf9) B F20 X N20 T hd9 hu9 ⟨rfl, c7, hD7, ob.ring hRing⟩ hE ?_
    rintro f m21 l21 h21 t21 F21 N21 rfl
    exact .inr ⟨rfl, hQ _ _ _ _ F21 N21⟩
end Mine
end

namespace Mine
theorem fresh_H7 : True := by w_top off; first | walk1 | trivial
end Mine

open PySem PySem.W PyProof.Rows Mine
set_option maxRecDepth 100000
set_option maxHeartbeats 8000000
theorem PySem.Challenge.cw_fy0008_01_holds : PySem.Challenge.rw_fy0008_01.Holds := by
  refine hd ?_
  w_strict (k_go0; (all_goals try k_fold); (rename IntsAre _ _ => hI9); (rename Heap.IsList _ _ _ => hL9); (rename Below _ _ _ _ => B9); (rename Fr _ _ _ _ => F9); (rename News _ _ _ _ => N9); (rename Frag.In _ _ => X9); (rename Top _ _ _ _ _ _ => T9); refine law_all (hI := hI9) (hlen := ?hlen) (B := B9) (F := F9) (X := X9) (N := N9) (T := T9) (hd9 := ?r1) (hu9 := ?r2) (hm := ?hm) (hax := hL9) (hc := ?hc) (hE := ?hE) (hQ := ?hQ); (case hlen => omega); (case r1 => decide); (case r2 => decide); (case hm => exact Has.cons rfl Has.nil); (case hE => passes_own); (case hQ => (intro h' tk' m' led' F' N'; k_steps)); (case hc => exact ⟨⟨_, .tail _ (.tail _ (.tail _ (.tail _ (.tail _ (.tail _ (.head _)))))), by assumption⟩, ⟨_, .tail _ (.tail _ (.tail _ (.tail _ (.tail _ (.head _))))), by assumption⟩, ⟨_, .tail _ (.tail _ (.tail _ (.tail _ (.head _)))), by assumption⟩, ⟨_, .tail _ (.tail _ (.tail _ (.head _))), by assumption⟩, ⟨_, .tail _ (.tail _ (.head _)), by assumption⟩, ⟨_, .tail _ (.head _), by assumption⟩, ⟨_, .head _, by assumption⟩⟩))
