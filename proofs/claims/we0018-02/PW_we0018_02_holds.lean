import PyProof.Rows.All
import PyProof.CompMap
import PyProof.EqAt
import PyProof.NeKinds
import PyProof.FitsBits
import PyProof.LetGo
import PyProof.Rows.SeqIn
import PyProof.Rows.SeqSlice
import PyProof.Rows.SeqItemCall
import KE.KNestM
import KE.KRevIter
import KE.KRevSl
import KE.KSuperObj
import Wide.FinOn
import OpenK.AllK
import Wide.All
import Lean
import PySem.Challenge.RW_we0018_02
set_option Elab.async false
set_option maxRecDepth 100000
set_option maxHeartbeats 8000000
open PySem PySem.W PySem.W.X PyProof.Rows PySem.Spec PySem.Calls
noncomputable section
namespace Mine
open_top hd for PySem.Challenge.rw_we0018_02
end Mine

namespace Mine
abbrev PP : Program := PySem.Challenge.pw_we0018_02
noncomputable abbrev KK (w : World) : Frag := hd.heap_39 w.params
abbrev aGI : Addr := 28
abbrev aD2N : Addr := 35
abbrev aI2D : Addr := 49
abbrev cI2D : Addr := 48
abbrev tI2D : Addr := 44
abbrev aD2I : Addr := 56
abbrev cD2I : Addr := 55
abbrev tD2I : Addr := 51
abbrev aDMP : Addr := 63
abbrev aIDM : Addr := 70
abbrev aI2A : Addr := 77
abbrev aLEX : Addr := 115
abbrev aINIT : Addr := 91
abbrev aRC : Addr := 98
abbrev aGT : Addr := 105
abbrev aLL : Addr := 126
abbrev cLL : Addr := 125
abbrev tLL : Addr := 121
abbrev aLR : Addr := 131
abbrev aLS : Addr := 138
abbrev tabs : List Addr := [44, 51, 121]
abbrev pI2D : Int := 49
abbrev pD2I : Int := 64
abbrev pLL : Int := 151
end Mine

namespace Mine

structure Gd (w : World) (mg mb : Str → Option Value) (g0 : Heap) : Prop where
  X : (KK w).In g0
  g : g0.Ns mainGlobals mg
  b : g0.Ns builtinsNs mb
  bi : ∀ x : Str, x ≠ "__name__" → mb x = bootBuiltins x
  nl : g0.NoLimit
  ba : ∀ P ∈ tabs, g0.BuiltinsAt mg P
  h1 : CodeHd g0 cI2D tI2D
  h2 : CodeHd g0 cD2I tD2I
  h3 : CodeHd g0 cLL tLL
  lt : ∀ t ∈ tabs, t < g0.objs.size
  tb : ∀ P ∈ tabs, g0.get? P = some (tabObj #[])

def NC (o : Obj) : Prop := ∀ (vs : Array Value) (q : Str) (t : Tok), o.data = .fields vs → vs[1]? = some (.str q t) → q = ""

def TI (h : Heap) (P : Addr) (ln : Int) (q : Str) : Prop :=
  ∃ ps, h.get? P = some (tabObj ps) ∧ (ps = #[] ∨ ∃ c : Addr, ps = #[.int ln 0, .int 4 0, .ref c] ∧ h.CodeRec (.ref c) q)

abbrev qI2D : Str := "_int2digits.<locals>.inner"
abbrev qD2I : Str := "_digits2int.<locals>.inner"
abbrev qLL : Str := "_law_lexer.<locals>._law_next"

structure OK (g0 h : Heap) : Prop where
  sz : g0.objs.size ≤ h.objs.size
  kp : ∀ b o, g0.get? b = some o → b ∉ tabs → h.get? b = some o
  lt : ∀ t ∈ tabs, t < g0.objs.size
  t1 : TI h tI2D pI2D qI2D
  t2 : TI h tD2I pD2I qD2I
  t3 : TI h tLL pLL qLL

structure Kp (T : List Addr) (h h' : Heap) : Prop where
  sz : h.objs.size ≤ h'.objs.size
  kp : ∀ b o, h.get? b = some o → b ∉ tabs → b ∉ T → h'.get? b = some o

theorem Kp.refl {T : List Addr} {h : Heap} : Kp T h h := ⟨Nat.le_refl _, fun _ _ e _ _ => e⟩
theorem Kp.trans {T : List Addr} {a b c : Heap} (x : Kp T a b) (y : Kp T b c) : Kp T a c := ⟨Nat.le_trans x.sz y.sz, fun d o e h1 h2 => y.kp d o (x.kp d o e h1 h2) h1 h2⟩
theorem Kp.weak {T T' : List Addr} {a b : Heap} (x : Kp T a b) (hT : ∀ t ∈ T, t ∈ T') : Kp T' a b := ⟨x.sz, fun d o e h1 h2 => x.kp d o e h1 fun q => h2 (hT _ q)⟩

theorem CodeRec.ne {h : Heap} {c : Addr} {q : Str} (hq : q ≠ "") (C : h.CodeRec (.ref c) q) {a : Addr} {o : Obj} (e : h.get? a = some o) (n : NC o) : c ≠ a := by
  obtain ⟨c', o', vs, t, e1, e2, e3, e4⟩ := C
  cases e1
  rintro rfl
  rw [e] at e2
  cases e2
  exact hq (n vs q t e3 e4)

theorem TI.keeps {h h' : Heap} {P : Addr} {ln : Int} {q : Str} (t : TI h P ln q) (hP : ∀ o, h.get? P = some o → h'.get? P = some o)
    (hc : ∀ (c : Addr) o, h.CodeRec (.ref c) q → h.get? c = some o → h'.get? c = some o) : TI h' P ln q := by
  obtain ⟨ps, e, r⟩ := t
  refine ⟨ps, hP _ e, r.imp id fun ⟨c, e1, e2⟩ => ⟨c, e1, ?_⟩⟩
  obtain ⟨c', o', vs, tt, f1, f2, f3, f4⟩ := e2
  cases f1
  exact ⟨c, o', vs, tt, rfl, hc c o' ⟨c, o', vs, tt, rfl, f2, f3, f4⟩ f2, f3, f4⟩

theorem OK.step {g0 h h' : Heap} (k : OK g0 h) {a : Addr} (ha : g0.objs.size ≤ a) (hn : ∀ o, h.get? a = some o → NC o) (sz : h.objs.size ≤ h'.objs.size)
    (kp : ∀ b o, b ≠ a → h.get? b = some o → h'.get? b = some o) : OK g0 h' := by
  have ht : ∀ t ∈ tabs, t ≠ a := fun t q => Nat.ne_of_lt (Nat.lt_of_lt_of_le (k.lt t q) ha)
  have hc : ∀ (q : Str), q ≠ "" → ∀ (c : Addr) o, h.CodeRec (.ref c) q → h.get? c = some o → h'.get? c = some o := fun q hq c o C e =>
    kp c o (fun z => by subst z; exact CodeRec.ne hq C e (hn _ e) rfl) e
  refine ⟨Nat.le_trans k.sz sz, fun b o e q => kp b o (Nat.ne_of_lt (Nat.lt_of_lt_of_le (Heap.lt_size e) ha)) (k.kp b o e q), k.lt, ?_, ?_, ?_⟩
  · exact k.t1.keeps (fun o e => kp _ _ (ht _ (by decide)) e) (hc _ (by decide))
  · exact k.t2.keeps (fun o e => kp _ _ (ht _ (by decide)) e) (hc _ (by decide))
  · exact k.t3.keeps (fun o e => kp _ _ (ht _ (by decide)) e) (hc _ (by decide))
theorem OK.ext {g0 h h' : Heap} (k : OK g0 h) (sz : h.objs.size ≤ h'.objs.size) (kp : ∀ b o, h.get? b = some o → h'.get? b = some o) : OK g0 h' := by
  refine ⟨Nat.le_trans k.sz sz, fun b o e q => kp b o (k.kp b o e q), k.lt, ?_, ?_, ?_⟩
  · exact k.t1.keeps (fun o e => kp _ _ e) (fun c o _ e => kp _ _ e)
  · exact k.t2.keeps (fun o e => kp _ _ e) (fun c o _ e => kp _ _ e)
  · exact k.t3.keeps (fun o e => kp _ _ e) (fun c o _ e => kp _ _ e)

structure FS (g0 g : Heap) (T : List Addr) (L : Addr) (h : Heap) (m : Str → Option Value) (nw : List (Addr × Obj)) : Prop where
  ok : OK g0 h
  kp : Kp T g h
  g0g : g0.objs.size ≤ g.objs.size
  ns : h.Ns L m
  le : g.objs.size ≤ L
  nws : ∀ p ∈ nw, h.get? p.1 = some p.2
  lo : ∀ p ∈ nw, g.objs.size ≤ p.1 ∨ (p.1 ∈ T ∧ g0.objs.size ≤ p.1)
  nd : (nw.map (·.1)).Nodup
  nL : ∀ p ∈ nw, @Ne Nat p.1 L

theorem ns_lt {h : Heap} {L : Addr} {m : Str → Option Value} (n : h.Ns L m) : L < h.objs.size := by
  obtain ⟨o, _, _, e, _⟩ := n
  exact Heap.lt_size e
theorem ns_nc {h : Heap} {L : Addr} {m : Str → Option Value} (n : h.Ns L m) : ∀ o, h.get? L = some o → NC o := by
  obtain ⟨o, es, ep, e, d, _⟩ := n
  intro o' e'
  rw [e] at e'
  cases e'
  intro vs q t hd
  rw [d] at hd
  cases hd
theorem ns_same {h h' : Heap} {a L : Addr} {m : Str → Option Value} (n : h.Ns L m) (hne : L ≠ a) (s : Heap.SameBut a h h') : h'.Ns L m := by
  obtain ⟨o, es, ep, e, r⟩ := n
  exact ⟨o, es, ep, (s.2 L hne).trans e, r⟩

section
variable {g0 g : Heap} {T : List Addr} {L : Addr} {h h' : Heap} {m m' : Str → Option Value} {nw : List (Addr × Obj)}
theorem same_sz {a : Addr} (s : Heap.SameBut a h h') : h.objs.size ≤ h'.objs.size := Nat.le_of_eq s.1.symm
theorem FS.lo0 (F : FS g0 g T L h m nw) {p : Addr × Obj} (hp : p ∈ nw) : g0.objs.size ≤ p.1 := (F.lo p hp).elim (Nat.le_trans F.g0g) (·.2)
theorem FS.kpT (F : FS g0 g T L h m nw) {a : Addr} (ha : g.objs.size ≤ a ∨ a ∈ T) (sz : h.objs.size ≤ h'.objs.size) (k : ∀ b o, b ≠ a → h.get? b = some o → h'.get? b = some o) : Kp T g h' :=
  ⟨Nat.le_trans F.kp.sz sz, fun b o e h1 h2 => k b o (fun z => by subst z; exact ha.elim (fun q => absurd (Heap.lt_size e) (Nat.not_lt.mpr q)) h2) (F.kp.kp b o e h1 h2)⟩

theorem FS.sto (F : FS g0 g T L h m nw) (n : h'.Ns L m') (s : Heap.SameBut L h h') : FS g0 g T L h' m' nw where
  ok := F.ok.step (Nat.le_trans F.g0g F.le) (ns_nc F.ns) (same_sz s) (fun b o hb e => (s.2 b hb).trans e)
  kp := F.kpT (.inl F.le) (same_sz s) (fun b o hb e => (s.2 b hb).trans e)
  g0g := F.g0g
  ns := n
  le := F.le
  nws := fun p hp => (s.2 _ (F.nL p hp)).trans (F.nws p hp)
  lo := F.lo
  nd := F.nd
  nL := F.nL
theorem FS.ext (F : FS g0 g T L h m nw) (sz : h.objs.size ≤ h'.objs.size) (k : ∀ b o, h.get? b = some o → h'.get? b = some o) : FS g0 g T L h' m nw where
  ok := F.ok.ext sz k
  kp := ⟨Nat.le_trans F.kp.sz sz, fun b o e h1 h2 => k _ _ (F.kp.kp b o e h1 h2)⟩
  g0g := F.g0g
  ns := F.ns.keeps k
  le := F.le
  nws := fun p hp => k _ _ (F.nws p hp)
  lo := F.lo
  nd := F.nd
  nL := F.nL
theorem FS.gsz (F : FS g0 g T L h m nw) : g.objs.size ≤ h.objs.size := F.kp.sz
theorem FS.add (F : FS g0 g T L h m nw) {a : Addr} {o : Obj} (e : h.get? a = some o) (ha : g.objs.size ≤ a) (hf : ∀ p ∈ nw, @Ne Nat p.1 a) (hL : @Ne Nat a L) : FS g0 g T L h m ((a, o) :: nw) where
  ok := F.ok
  kp := F.kp
  g0g := F.g0g
  ns := F.ns
  le := F.le
  nws := fun p hp => by
    rcases List.mem_cons.mp hp with rfl | hp
    · exact e
    · exact F.nws p hp
  lo := fun p hp => by
    rcases List.mem_cons.mp hp with rfl | hp
    · exact .inl ha
    · exact F.lo p hp
  nd := by
    rw [List.map_cons]
    refine List.nodup_cons.mpr ⟨fun hm => ?_, F.nd⟩
    obtain ⟨p, hp, hpa⟩ := List.mem_map.mp hm
    exact hf p hp hpa
  nL := fun p hp => by
    rcases List.mem_cons.mp hp with rfl | hp
    · exact hL
    · exact F.nL p hp
theorem FS.fresh (F : FS g0 g T L h m nw) {a : Addr} (ha : h.objs.size ≤ a) : (∀ p ∈ nw, @Ne Nat p.1 a) ∧ @Ne Nat a L :=
  ⟨fun p hp => Nat.ne_of_lt (Nat.lt_of_lt_of_le (Heap.lt_size (F.nws p hp)) ha), (Nat.ne_of_lt (Nat.lt_of_lt_of_le (ns_lt F.ns) ha)).symm⟩
theorem FS.psh (F : FS g0 g T L h m nw) (o : Obj) (hf : o.isFreed = false := by rfl) : FS g0 g T L (h.push o) m ((h.objs.size, o) :: nw) :=
  (F.ext (by rw [Heap.size_push]; omega) (fun b o' e => Heap.get?_push_of_some o e)).add (Heap.get?_push_size h hf) F.gsz (F.fresh (Nat.le_refl _)).1 (F.fresh (Nat.le_refl _)).2
theorem FS.psh0 (F : FS g0 g T L h m nw) (o : Obj) : FS g0 g T L (h.push o) m nw := F.ext (by rw [Heap.size_push]; omega) (fun b o' e => Heap.get?_push_of_some o e)
theorem FS.at (F : FS g0 g T L h m nw) (i : Nat) {a : Addr} {o : Obj} (hi : nw[i]? = some (a, o)) : h.get? a = some o := F.nws _ (List.mem_of_getElem? hi)
theorem FS.drop (F : FS g0 g T L h m nw) {nw' : List (Addr × Obj)} (hs : nw'.Sublist nw) : FS g0 g T L h m nw' where
  ok := F.ok
  kp := F.kp
  g0g := F.g0g
  ns := F.ns
  le := F.le
  nws := fun p hp => F.nws p (hs.subset hp)
  lo := fun p hp => F.lo p (hs.subset hp)
  nd := F.nd.sublist (hs.map _)
  nL := fun p hp => F.nL p (hs.subset hp)
theorem set_mem {l : List (Addr × Obj)} {i : Nat} {a : Addr} {o o' : Obj} (hi : l[i]? = some (a, o)) (nd : (l.map (·.1)).Nodup) {p : Addr × Obj} (hp : p ∈ l.set i (a, o')) : p = (a, o') ∨ (p ∈ l ∧ p.1 ≠ a) := by
  induction l generalizing i with
  | nil => cases hp
  | cons x l ih =>
    rw [List.map_cons, List.nodup_cons] at nd
    cases i with
    | zero =>
      cases hi
      rcases List.mem_cons.mp hp with rfl | hp
      · exact .inl rfl
      · exact .inr ⟨.tail _ hp, fun z => nd.1 (List.mem_map.mpr ⟨p, hp, z⟩)⟩
    | succ i =>
      rcases List.mem_cons.mp hp with rfl | hp
      · exact .inr ⟨.head _, fun z => nd.1 (List.mem_map.mpr ⟨(a, o), List.mem_of_getElem? hi, z.symm⟩)⟩
      · exact (ih hi nd.2 hp).imp id fun q => ⟨.tail _ q.1, q.2⟩
theorem set_keys {l : List (Addr × Obj)} {i : Nat} {a : Addr} {o o' : Obj} (hi : l[i]? = some (a, o)) : (l.set i (a, o')).map (·.1) = l.map (·.1) := by
  induction l generalizing i with
  | nil => rfl
  | cons x l ih =>
    cases i with
    | zero => cases hi; rfl
    | succ i => rw [List.set_cons_succ, List.map_cons, List.map_cons, ih hi]
theorem FS.upd (F : FS g0 g T L h m nw) (i : Nat) {a : Addr} {o o' : Obj} (hi : nw[i]? = some (a, o)) (hn : NC o) (sz : h.objs.size ≤ h'.objs.size) (k : ∀ b o, b ≠ a → h.get? b = some o → h'.get? b = some o) (e : h'.get? a = some o') :
    FS g0 g T L h' m (nw.set i (a, o')) where
  ok := F.ok.step (F.lo0 (List.mem_of_getElem? hi)) (fun o2 e2 => by rw [F.at i hi] at e2; cases e2; exact hn) sz k
  kp := F.kpT ((F.lo _ (List.mem_of_getElem? hi)).imp id (·.1)) sz k
  g0g := F.g0g
  ns := by
    obtain ⟨oL, es, ep, eL, r⟩ := F.ns
    exact ⟨oL, es, ep, k _ _ (Ne.symm (F.nL _ (List.mem_of_getElem? hi))) eL, r⟩
  le := F.le
  nws := fun p hp => by
    rcases set_mem hi F.nd hp with rfl | ⟨q, hne⟩
    · exact e
    · exact k _ _ hne (F.nws p q)
  lo := fun p hp => by
    rcases set_mem hi F.nd hp with rfl | ⟨q, hne⟩
    · exact F.lo (a, o) (List.mem_of_getElem? hi)
    · exact F.lo p q
  nd := by rw [set_keys hi]; exact F.nd
  nL := fun p hp => by
    rcases set_mem hi F.nd hp with rfl | ⟨q, hne⟩
    · exact F.nL (a, o) (List.mem_of_getElem? hi)
    · exact F.nL p q
theorem FS.updS (F : FS g0 g T L h m nw) (i : Nat) {a : Addr} {o o' : Obj} (hi : nw[i]? = some (a, o)) (hn : NC o) (s : Heap.SameBut a h h') (e : h'.get? a = some o') :
    FS g0 g T L h' m (nw.set i (a, o')) := F.upd i hi hn (same_sz s) (fun b o hb e => (s.2 b hb).trans e) e
theorem FS.call (F : FS g0 g T L h m nw) (k : OK g0 h') (K : Kp [] h h') : FS g0 g T L h' m nw := by
  have nt : ∀ a, g0.objs.size ≤ a → a ∉ tabs := fun a ha q => absurd (F.ok.lt a q) (Nat.not_lt.mpr ha)
  refine ⟨k, F.kp.trans (K.weak (fun _ q => nomatch q)), F.g0g, ?_, F.le, fun p hp => ?_, F.lo, F.nd, F.nL⟩
  · obtain ⟨oL, es, ep, eL, r⟩ := F.ns
    exact ⟨oL, es, ep, K.kp _ _ eL (nt _ (Nat.le_trans F.g0g F.le)) List.not_mem_nil, r⟩
  · exact K.kp _ _ (F.nws p hp) (nt _ (F.lo0 hp)) List.not_mem_nil
theorem FS.call1 (F : FS g0 g T L h m nw) (i : Nat) {a : Addr} {o o' : Obj} (hi : nw[i]? = some (a, o)) (k : OK g0 h') (K : Kp [a] h h') (e : h'.get? a = some o') : FS g0 g T L h' m (nw.set i (a, o')) := by
  have nt : ∀ a, g0.objs.size ≤ a → a ∉ tabs := fun a ha q => absurd (F.ok.lt a q) (Nat.not_lt.mpr ha)
  have hm := List.mem_of_getElem? hi
  have n1 : ∀ b, b ≠ a → b ∉ [a] := fun b hb q => hb (List.mem_singleton.mp q)
  refine ⟨k, ⟨Nat.le_trans F.kp.sz K.sz, fun b ob eb h1 h2 => K.kp _ _ (F.kp.kp b ob eb h1 h2) h1 (n1 b fun z => ?_)⟩, F.g0g, ?_, F.le, fun p hp => ?_, fun p hp => ?_, by rw [set_keys hi]; exact F.nd, fun p hp => ?_⟩
  · subst z
    rcases F.lo _ hm with q | q
    · exact absurd (Heap.lt_size eb) (Nat.not_lt.mpr q)
    · exact h2 q.1
  · obtain ⟨oL, es, ep, eL, r⟩ := F.ns
    exact ⟨oL, es, ep, K.kp _ _ eL (nt _ (Nat.le_trans F.g0g F.le)) (n1 _ (Ne.symm (F.nL _ hm))), r⟩
  · rcases set_mem hi F.nd hp with rfl | ⟨q, hne⟩
    · exact e
    · exact K.kp _ _ (F.nws p q) (nt _ (F.lo0 q)) (n1 _ hne)
  · rcases set_mem hi F.nd hp with rfl | ⟨q, hne⟩
    · exact F.lo (a, o) hm
    · exact F.lo p q
  · rcases set_mem hi F.nd hp with rfl | ⟨q, hne⟩
    · exact F.nL (a, o) hm
    · exact F.nL p q
end

structure Rm (A : Around) (n : Nat) : Prop where
  hd : A.handled = none
  dp : A.depth + n < recursionLimit
  un : A.units + 20 * n < cLine
theorem Rm.le {A : Around} {n k : Nat} (r : Rm A n) (h : k ≤ n) : Rm A k := ⟨r.hd, by have := r.dp; omega, by have := r.un; omega⟩
theorem Rm.in1 {A : Around} {n : Nat} (r : Rm A (n + 1)) : Rm A.in1 n := ⟨r.hd, by have := r.dp; simp only [Around.in1_depth]; omega, by have := r.un; simp only [Around.in1_units]; omega⟩
theorem Rm.deeper {A : Around} {n : Nat} (r : Rm A (n + 1)) (env : Env) : Rm (A.deeper env) n := ⟨r.hd, by have := r.dp; show A.depth + 1 + n < _; omega, by have := r.un; simp only [Around.deeper_units]; omega⟩
end Mine

namespace Mine
abbrev RetP (R : Result → Shared → Prop) (fl : Flow) (s : Shared) : Prop := R (.ok (.ret (match fl with | .ret v => v | _ => .none))) s
abbrev AsP (w : World) (A : Around) (env : Env) (x : Str) (rest : List Stmt) (Q : Flow → Shared → Prop) (E : Value → Shared → Prop) (v : Value) (s : Shared) : Prop :=
  wpAny (model PP w) A (storeName env x v) (fun _ s₂ => wpAny (model PP w) A (execs rest env) Q E s₂) E s
section
variable {g0 g : Heap} {T : List Addr} {L : Addr} {h h' : Heap} {m m' : Str → Option Value} {nw : List (Addr × Obj)} {w : World} {mg mb : Str → Option Value}
theorem OK.ns0 (k : OK g0 h) {a : Addr} {m : Str → Option Value} (n : g0.Ns a m) (ha : a ∉ tabs) : h.Ns a m := by
  obtain ⟨o, es, ep, e, r⟩ := n
  exact ⟨o, es, ep, k.kp a o e ha, r⟩
theorem OK.at0 (k : OK g0 h) (G : Gd w mg mb g0) {a : Addr} {o : Obj} (e : (KK w).lookup a = some o) (ha : a ∉ tabs := by decide) : h.get? a = some o := k.kp a o (G.X _ _ e) ha
theorem OK.code (k : OK g0 h) (G : Gd w mg mb g0) {c : Addr} {q : Str} (e : codeIn (KK w) (.ref c) q = true) (hc : c ∉ tabs := by decide) : h.CodeRec (.ref c) q := by
  obtain ⟨c', o, vs, t, e1, e2, r⟩ := codeRec_of G.X e
  cases e1
  exact ⟨c, o, vs, t, rfl, k.kp _ _ e2 hc, r⟩
theorem CodeRec.same {cv : Value} {q : Str} {a : Addr} (C : h.CodeRec cv q) (hq : q ≠ "") (s : Heap.SameBut a h h') (hn : ∀ o, h.get? a = some o → NC o) : h'.CodeRec cv q := by
  obtain ⟨c, o, vs, t, rfl, e2, r⟩ := C
  refine ⟨c, o, vs, t, rfl, (s.2 c fun z => ?_).trans e2, r⟩
  subst z
  exact CodeRec.ne hq ⟨c, o, vs, t, rfl, e2, r⟩ e2 (hn _ e2) rfl
theorem Kp.list {l : Addr} {xs : Array Value} (K : Kp T h h') (e : h.IsList l xs) (h1 : l ∉ tabs) (h2 : l ∉ T) : h'.IsList l xs := by
  obtain ⟨o, a, r⟩ := e
  exact ⟨o, K.kp _ _ a h1 h2, r⟩
theorem Kp.cell {l : Addr} {v : Option Value} (K : Kp T h h') (e : h.IsCell l v) (h1 : l ∉ tabs) (h2 : l ∉ T) : h'.IsCell l v := by
  obtain ⟨o, a, r⟩ := e
  exact ⟨o, K.kp _ _ a h1 h2, r⟩
theorem Kp.codeRec {c : Addr} {q : Str} (K : Kp T h h') (e : h.CodeRec (.ref c) q) (h1 : c ∉ tabs) (h2 : c ∉ T) : h'.CodeRec (.ref c) q := by
  obtain ⟨c', o, vs, t, e1, a, r⟩ := e
  cases e1
  exact ⟨c, o, vs, t, rfl, K.kp _ _ a h1 h2, r⟩
theorem OK.nt (k : OK g0 h) {a : Addr} (ha : g0.objs.size ≤ a) : a ∉ tabs := fun q => absurd (k.lt a q) (Nat.not_lt.mpr ha)
theorem OK.lim (k : OK g0 h) (G : Gd w mg mb g0) : h.NoLimit := by
  obtain ⟨mc, n, r⟩ := G.nl
  exact ⟨mc, k.ns0 n (by decide), r⟩

theorem enter {A : Around} {n : Nat} {R : Result → Shared → Prop} {s : Shared} {f : Addr} {o : Obj} {fd : FuncData} {body : List Stmt} {args : List Value} {binds : List (Str × Value)}
    (G : Gd w mg mb g0) (k : OK g0 s.heap) (rm : Rm A (n + 1)) (ho : s.heap.get? f = some o) (hd : o.data = .func fd) (hcd : s.heap.CodeRec fd.code fd.qualname) (hb : fd.body = .stmts body)
    (hbind : bindArgs fd ⟨args, []⟩ = pure binds) (hloc' : (binds.all fun x => decide (fd.scope.names.lookup x.1 = some .local)) = true) (hcell' : (fd.scope.names.all fun x => !(x.2 == .cell)) = true)
    (hco : fd.scope.isCoroutine = false) (hgen : fd.scope.isGenerator = false) (hk : fd.scope.kind = .function)
    (h : ∀ h₁, FS g0 s.heap T s.heap.objs.size h₁ (fun x => binds.reverse.lookup x) [] →
      Rm (A.deeper (newEnv fd.scope s.heap.objs.size fd.globals fd.closure (fd.qualname ++ ".<locals>.") (some f) fd.code none fd.builtins)) n →
      (∀ b ob, s.heap.get? b = some ob → h₁.get? b = some ob) →
      wpAny (model PP w) (A.deeper (newEnv fd.scope s.heap.objs.size fd.globals fd.closure (fd.qualname ++ ".<locals>.") (some f) fd.code none fd.builtins))
        (execs body (newEnv fd.scope s.heap.objs.size fd.globals fd.closure (fd.qualname ++ ".<locals>.") (some f) fd.code none fd.builtins))
        (RetP R) (fun _ _ => False) { s with heap := h₁, toks := s.toks + binds.length }) :
    codeAny (model PP w) A (.call (.ref f) ⟨args, []⟩) R s := by
  have hloc := locs hloc'
  have hcell : ∀ x ∈ fd.scope.names, x.2 ≠ .cell := fun x hx => by have q := List.all_eq_true.mp hcell' x hx; simpa using q
  refine codeAny_call_function (by have := rm.dp; omega) ho hd hco hgen hb hcd ?_
  rw [hbind]
  refine wpAny_pure (wpAny_newFunctionEnv hcell hloc (fun h₁ hns hsb => ⟨(k.lim G).fresh _ hsb, codeAny_func ?_⟩) hk)
  have kk : ∀ b ob, s.heap.get? b = some ob → h₁.get? b = some ob := fun b ob e => (hsb.2 b (Nat.ne_of_lt (Heap.lt_size e))).trans (Heap.get?_push_of_some _ e)
  have sz : s.heap.objs.size ≤ h₁.objs.size := by rw [hsb.1, Heap.size_push]; omega
  refine wpAny_mono (h h₁ ⟨k.ext sz kk, ⟨sz, fun b ob e _ _ => kk b ob e⟩, k.sz, hns, Nat.le_refl _, fun _ q => (nomatch q), fun _ q => (nomatch q), List.nodup_nil, fun _ q => (nomatch q)⟩ (rm.deeper _) kk) (fun _ _ x => x) (fun _ _ x => x.elim)

theorem enterC {A : Around} {n : Nat} {R : Result → Shared → Prop} {s : Shared} {f : Addr} {o : Obj} {fd : FuncData} {body : List Stmt} {args : List Value} {binds : List (Str × Value)}
    (G : Gd w mg mb g0) (k : OK g0 s.heap) (rm : Rm A (n + 1)) (ho : s.heap.get? f = some o) (hd : o.data = .func fd) (hcd : s.heap.CodeRec fd.code fd.qualname) (hb : fd.body = .stmts body)
    (hbind : bindArgs fd ⟨args, []⟩ = pure binds) (hclo : fd.closure = [])
    (hkind' : (binds.all fun y => fd.scope.names.lookup y.1 == some .local || fd.scope.names.lookup y.1 == some .cell) = true)
    (hco : fd.scope.isCoroutine = false) (hgen : fd.scope.isGenerator = false) (hk : fd.scope.kind = .function)
    (h : ∀ h₁ tk, FS g0 s.heap T s.heap.objs.size h₁ (bindL (callEnvC fd s.heap.objs.size f).kindOf binds fun _ => none) [] →
      (∀ x c, (cellsFrom (s.heap.objs.size + 1) fd.scope.names []).lookup x = some c → h₁.IsCell c (bindC (callEnvC fd s.heap.objs.size f).kindOf binds (fun _ => none) x)) →
      Rm (A.deeper (callEnvC fd s.heap.objs.size f)) n → (∀ b ob, s.heap.get? b = some ob → h₁.get? b = some ob) →
      wpAny (model PP w) (A.deeper (callEnvC fd s.heap.objs.size f)) (execs body (callEnvC fd s.heap.objs.size f))
        (RetP R) (fun _ _ => False) { s with heap := h₁, toks := tk }) :
    codeAny (model PP w) A (.call (.ref f) ⟨args, []⟩) R s := by
  have hkind := kindsX hkind'
  refine codeAny_call_function (by have := rm.dp; omega) ho hd hco hgen hb hcd ?_
  rw [hbind, hclo]
  refine wpAny_pure (wpAny_newFunctionEnv_cells hk (hkind _) fun env' he s' x => ?_)
  subst he
  refine ⟨(k.lim G).keeps x.toInCall.keep, codeAny_func ?_⟩
  obtain ⟨h₁, tk, rfl, _⟩ := x.done
  have kk := x.toInCall.keep
  have sz : s.heap.objs.size ≤ h₁.objs.size := Nat.le_of_lt (ns_lt x.toInCall.ns)
  refine wpAny_mono (h h₁ tk ⟨k.ext sz kk, ⟨sz, fun b ob e _ _ => kk b ob e⟩, k.sz, x.toInCall.ns, Nat.le_refl _, fun _ q => (nomatch q), fun _ q => (nomatch q), List.nodup_nil, fun _ q => (nomatch q)⟩ x.cell (rm.deeper _) kk) (fun _ _ x => x) (fun _ _ x => x.elim)

section
variable {A : Around} {E : Value → Shared → Prop} {s : Shared} {env : Env} {x : Str} {pos : Pos} {v : Value}
theorem nL {Q : Value → Shared → Prop} (F : FS g0 g T L s.heap m nw) (hv : m x = some v) (h : Q v s) (hL : env.locals = L := by rfl) (hk : env.scope.kind = .function := by rfl) (hx : env.kindOf x = some .local := by rfl) (hd : (x == ("__debug__" : Str)) = false := by rfl) :
    wpAny (model PP w) A (eval (.Name x pos) env) Q E s := wpAny_Name (wpAny_loadName_local hk hx (hL ▸ F.ns) hv h) hd
theorem nl {Q : Value → Shared → Prop} (F : FS g0 g T L s.heap m nw) (hv : m x = some v) (h : Q v s) (hL : env.locals = L := by rfl) (hk : env.scope.kind = .function := by rfl) (hx : env.kindOf x = some .local := by rfl) :
    wpAny (model PP w) A (loadName env x) Q E s := wpAny_loadName_local hk hx (hL ▸ F.ns) hv h
theorem nG {Q : Value → Shared → Prop} (G : Gd w mg mb g0) (F : FS g0 g T L s.heap m nw) (e : nsIn (KK w) mainGlobals x = some (some v)) (h : Q v s) (hg : env.globals = mainGlobals := by rfl) (hk : env.scope.kind = .function := by rfl) (hx : env.kindOf x = some .globalImplicit := by rfl) (hd : (x == ("__debug__" : Str)) = false := by rfl) :
    wpAny (model PP w) A (eval (.Name x pos) env) Q E s := Name_function_global hk hx (loadGlobal_global (hg ▸ F.ok.ns0 G.g (by decide)) (mg_of G.X G.g e) h) hd
theorem nB {Q : Value → Shared → Prop} (G : Gd w mg mb g0) (F : FS g0 g T L s.heap m nw) (e : nsIn (KK w) mainGlobals x = some none) (hv : bootBuiltins x = some v) (h : Q v s) (hn : x ≠ "__name__" := by decide) (hg : env.globals = mainGlobals := by rfl) (hb : env.builtins = builtinsNs := by rfl) (hk : env.scope.kind = .function := by rfl) (hx : env.kindOf x = some .globalImplicit := by rfl) (hd : (x == ("__debug__" : Str)) = false := by rfl) :
    wpAny (model PP w) A (eval (.Name x pos) env) Q E s :=
  Name_function_global hk hx (loadGlobal_builtin (hg ▸ F.ok.ns0 G.g (by decide)) (mg_none_of G.X G.g e) (hb ▸ F.ok.ns0 G.b (by decide)) ((G.bi x hn).trans hv) h) hd
theorem nF {Q : Value → Shared → Prop} {c : Addr} (hc : env.cells.lookup x = some c) (e : s.heap.IsCell c (some v)) (h : Q v s) (hk : env.scope.kind = .function := by rfl) (hx : env.kindOf x = some .free := by rfl) (hd : (x == ("__debug__" : Str)) = false := by rfl) (hn : (x == ("__classdict__" : Str)) = false := by rfl) :
    wpAny (model PP w) A (eval (.Name x pos) env) Q E s := wpAny_Name (wpAny_loadName_free hk hx hc e h hn) hd
theorem nC {Q : Value → Shared → Prop} {c : Addr} (hc : env.cells.lookup x = some c) (e : s.heap.IsCell c (some v)) (h : Q v s) (hk : env.scope.kind = .function := by rfl) (hx : env.kindOf x = some .cell := by rfl) (hd : (x == ("__debug__" : Str)) = false := by rfl) :
    wpAny (model PP w) A (eval (.Name x pos) env) Q E s := wpAny_Name (wpAny_loadName_cell hk hx hc e h) hd
theorem sL {Q : Unit → Shared → Prop} (F : FS g0 g T L s.heap m nw)
    (h : ∀ h', FS g0 g T L h' (fun y => if y = x then some v else m y) nw → Q () { s with heap := h', toks := s.toks + 1 })
    (hL : env.locals = L := by rfl) (hk : env.scope.kind = .function := by rfl) (hx : env.kindOf x = some .local := by rfl) : wpAny (model PP w) A (storeName env x v) Q E s := by
  subst hL
  exact wpAny_storeName_local hx F.ns (fun h' n s' => h h' (F.sto n s')) (by rw [hk]; rfl)
theorem sC {Q : Unit → Shared → Prop} (F : FS g0 g T L s.heap m nw) {c : Addr} (i : Nat) {o : Obj} {v₀ : Option Value} (hc : env.cells.lookup x = some c) (hi : nw[i]? = some (c, o)) (hd : o.data = .cell v₀)
    (h : ∀ h' o', o'.data = .cell (some v) → Heap.SameBut c s.heap h' → FS g0 g T L h' m (nw.set i (c, o')) → Q () { s with heap := h' })
    (hk : env.scope.kind = .function := by rfl) (hx : env.kindOf x = some .cell := by rfl) : wpAny (model PP w) A (storeName env x v) Q E s := by
  refine wpAny_storeName_cell hk hx hc ⟨o, F.at i hi, hd⟩ fun h' hc' hs' => ?_
  obtain ⟨o', e', d'⟩ := hc'
  exact h h' o' d' hs' (F.updS i hi (fun vs q t z => by rw [hd] at z; cases z) hs' e')
end
end
end Mine

namespace Mine
section
variable {g0 g : Heap} {T : List Addr} {L : Addr} {h h' : Heap} {m m' : Str → Option Value} {nw : List (Addr × Obj)} {w : World} {mg mb : Str → Option Value}

theorem BuiltinsAt.up {P : Addr} (k : OK g0 h) (hb : g0.BuiltinsAt mg P) (hn : ∀ bm ob, g0.get? bm = some ob → ob.cls = .type "module" → bm ∉ tabs) : h.BuiltinsAt mg P := by
  obtain ⟨bm, ob, a1, a2, a3, a4, a5, a6, r⟩ := hb
  exact ⟨bm, ob, a1, a2, a3, a4, k.kp _ _ a5 (hn _ _ a5 a6), a6, r⟩
theorem CodeHd.up {c P : Addr} (k : OK g0 h) (C : CodeHd g0 c P) (hc : c ∉ tabs) : CodeHd h c P := by
  obtain ⟨o, vs, a1, a2, a3, a4, a5, a6, a7, e, r⟩ := C
  exact ⟨o, vs, a1, a2, a3, a4, a5, a6, a7, k.kp _ _ e hc, r⟩

theorem OK.tab {P : Addr} {ln : Int} {q : Str} (k : OK g0 h) (hP : (P = tI2D ∧ ln = pI2D ∧ q = qI2D) ∨ (P = tD2I ∧ ln = pD2I ∧ q = qD2I) ∨ (P = tLL ∧ ln = pLL ∧ q = qLL)) : TI h P ln q := by
  rcases hP with ⟨rfl, rfl, rfl⟩ | ⟨rfl, rfl, rfl⟩ | ⟨rfl, rfl, rfl⟩
  · exact k.t1
  · exact k.t2
  · exact k.t3
theorem OK.fill {P : Addr} {ln : Int} {q : Str} {c : Addr} (k : OK g0 h) (hP : (P = tI2D ∧ ln = pI2D ∧ q = qI2D) ∨ (P = tD2I ∧ ln = pD2I ∧ q = qD2I) ∨ (P = tLL ∧ ln = pLL ∧ q = qLL))
    (sz : h.objs.size ≤ h'.objs.size) (kp : ∀ b o, b ≠ P → h.get? b = some o → h'.get? b = some o) (e : h'.get? P = some (tabObj #[.int ln 0, .int 4 0, .ref c])) (C : h'.CodeRec (.ref c) q) : OK g0 h' := by
  have key : ∀ {P' : Addr} {ln' : Int} {q' : Str}, P' ≠ P → TI h P ln q → TI h P' ln' q' → (q' ≠ "") → TI h' P' ln' q' := by
    intro P' ln' q' hne tP t hq
    refine t.keeps (fun o e => kp _ _ hne e) (fun c' o C' e' => kp _ _ (fun z => ?_) e')
    subst z
    obtain ⟨ps, eP, r⟩ := tP
    obtain ⟨c2, o2, vs2, t2, f1, f2, f3, f4⟩ := C'
    cases f1
    rw [eP] at f2
    cases f2
    cases f3
    rcases r with rfl | ⟨_, rfl, _⟩
    · cases f4
    · cases f4
  have TP := k.tab hP
  have new : TI h' P ln q := ⟨_, e, .inr ⟨c, rfl, C⟩⟩
  have bs : ∀ b o, g0.get? b = some o → b ∉ tabs → h'.get? b = some o := fun b o e' q' => kp b o (fun z => q' (by
    subst z
    rcases hP with ⟨rfl, _, _⟩ | ⟨rfl, _, _⟩ | ⟨rfl, _, _⟩ <;> decide)) (k.kp b o e' q')
  refine ⟨Nat.le_trans k.sz sz, bs, k.lt, ?_, ?_, ?_⟩
  · rcases hP with ⟨rfl, rfl, rfl⟩ | ⟨rfl, rfl, rfl⟩ | ⟨rfl, rfl, rfl⟩
    · exact new
    · exact key (by decide) TP k.t1 (by decide)
    · exact key (by decide) TP k.t1 (by decide)
  · rcases hP with ⟨rfl, rfl, rfl⟩ | ⟨rfl, rfl, rfl⟩ | ⟨rfl, rfl, rfl⟩
    · exact key (by decide) TP k.t2 (by decide)
    · exact new
    · exact key (by decide) TP k.t2 (by decide)
  · rcases hP with ⟨rfl, rfl, rfl⟩ | ⟨rfl, rfl, rfl⟩ | ⟨rfl, rfl, rfl⟩
    · exact key (by decide) TP k.t3 (by decide)
    · exact key (by decide) TP k.t3 (by decide)
    · exact new

theorem OK.crnt {cv : Value} {q : Str} (k : OK g0 h) (C : h.CodeRec cv q) : ∃ c, cv = .ref c ∧ c ∉ tabs ∧ h.CodeRec (.ref c) q := by
  obtain ⟨c, o, vs, t, rfl, e2, e3, e4⟩ := C
  refine ⟨c, rfl, fun hm => ?_, ⟨c, o, vs, t, rfl, e2, e3, e4⟩⟩
  have key : ∀ {P : Addr} {ln : Int} {q' : Str}, TI h P ln q' → c ≠ P := by
    intro P ln q' t z
    subst z
    obtain ⟨ps, eP, r⟩ := t
    rw [e2] at eP
    cases eP
    cases e3
    rcases r with rfl | ⟨_, rfl, _⟩ <;> cases e4
  rcases List.mem_cons.mp hm with z | hm
  · exact key k.t1 z
  rcases List.mem_cons.mp hm with z | hm
  · exact key k.t2 z
  rcases List.mem_cons.mp hm with z | hm
  · exact key k.t3 z
  cases hm

theorem mkFn {A : Around} {E : Value → Shared → Prop} {s : Shared} {name qual : Str} {params : Arguments} {body : List Stmt} {scope : Scope} {env : Env} {pos : Pos} {firstLine : Nat} {clos : List (Str × Addr)} {Q : Value → Shared → Prop} {c P : Addr}
    (G : Gd w mg mb g0) (k : OK g0 s.heap) (hP : (P = tI2D ∧ (pos.line : Int) = pI2D ∧ qual = qI2D) ∨ (P = tD2I ∧ (pos.line : Int) = pD2I ∧ qual = qD2I) ∨ (P = tLL ∧ (pos.line : Int) = pLL ∧ qual = qLL)) (hcol : pos.col = 4)
    (C : CodeHd g0 c P) (hc : c ∉ tabs) (hcode : env.code = .ref c) (hcl : closureFor scope env = pure clos) (hge0 : env.globals = mainGlobals)
    (h : ∀ f doc pm c₁ ctv h' tk, OK g0 h' → Kp [] s.heap h' → s.heap.objs.size ≤ f → c₁ ∉ tabs → h'.CodeRec (.ref c₁) qual →
      h'.get? f = some { cls := .type "function", data := .func (fnX name qual params body scope clos .none .none doc pm none (.ref c₁) ctv) } → Q (.ref f) { s with heap := h', toks := tk }) :
    wpAny (model PP w) A (makeFunction name qual params (.stmts body) scope env [] [] [] pos firstLine) Q E s := by
  have hPt : P ∈ tabs := by rcases hP with ⟨rfl, _, _⟩ | ⟨rfl, _, _⟩ | ⟨rfl, _, _⟩ <;> decide
  have hb : s.heap.BuiltinsAt mg P := BuiltinsAt.up k (G.ba P hPt) (fun bm ob e hcl => fun q => by
    have e1 : g0.get? bm = some ob := e
    have e2 := G.tb bm q
    rw [e1] at e2
    cases e2
    cases hcl)
  have hg : s.heap.Ns mainGlobals mg := k.ns0 G.g (by decide)
  have C' := CodeHd.up k C hc
  obtain ⟨ps, eP, r⟩ := k.tab hP
  rcases r with rfl | ⟨c', rfl, CR⟩
  · refine makeFunction_K hcl hge0 hg hcode C' eP trivial rfl (by rcases hP with ⟨rfl, _, _⟩ | ⟨rfl, _, _⟩ | ⟨rfl, _, _⟩ <;> decide) hb ?_
    intro c' ctv doc h' tk hx hge hlt hrec htb
    have kx : ∀ b o, b ≠ P → s.heap.get? b = some o → h'.get? b = some o := fun b o hne e => hx b o hne e
    have sz : s.heap.objs.size ≤ h'.objs.size := Nat.le_of_lt (Nat.lt_of_le_of_lt hge hlt)
    have htb' : h'.get? P = some (tabObj #[.int pos.line 0, .int 4 0, .ref c']) := by rw [htb, hcol]; rfl
    have k' : OK g0 h' := k.fill hP sz kx htb' hrec
    obtain ⟨c2, z2, n2, _⟩ := k'.crnt hrec
    cases z2
    refine h _ _ _ _ _ _ _ (k'.ext (by rw [Heap.size_push]; (clear hP hcol hc hge0 hge hlt sz n2; omega)) (fun b o e => Heap.get?_push_of_some _ e)) ⟨by rw [Heap.size_push]; (clear hP hcol hc hge0 hge hlt n2; omega), fun b o e q _ => Heap.get?_push_of_some _ (kx b o (fun z => q (z ▸ hPt)) e)⟩ sz n2 (hrec.keeps fun b o e => Heap.get?_push_of_some _ e) (Heap.get?_push_size _ rfl)
  · refine makeFunction_hit (cv := .ref c') hcl hge0 hg hcode C' eP trivial ?_ hb ?_
    · show codeAmong pos [.int pos.line 0, .int 4 0, .ref c'] = _
      unfold codeAmong
      rw [hcol]
      simp
    intro ctv doc h' tk kx sz
    obtain ⟨c2, z2, n2, _⟩ := k.crnt CR
    cases z2
    refine h _ _ _ _ _ _ _ (k.ext (Nat.le_trans sz (by rw [Heap.size_push]; (clear hP hcol hc hge0 sz n2; omega))) (fun b o e => Heap.get?_push_of_some _ (kx _ _ e))) ⟨Nat.le_trans sz (by rw [Heap.size_push]; (clear hP hcol hc hge0 sz n2; omega)), fun b o e _ _ => Heap.get?_push_of_some _ (kx b o e)⟩ sz n2 (CR.keeps fun b o e => Heap.get?_push_of_some _ (kx _ _ e)) (Heap.get?_push_size _ rfl)
end
end Mine

namespace Mine
section
variable {w : World} {A : Around} {E : Value → Shared → Prop} {s : Shared} {Q : Value → Shared → Prop} {t u : Tok}
theorem addT {a b : Int} (c : Int) (e : a + b = c) (h : Q (.int c s.toks) { s with toks := s.toks + 1 }) : wpAny (model PP w) A (binaryOp .Add (.int a t) (.int b u)) Q E s := add_int (by rw [e]; exact h)
theorem subT {a b : Int} (c : Int) (e : a - b = c) (h : Q (.int c s.toks) { s with toks := s.toks + 1 }) : wpAny (model PP w) A (binaryOp .Sub (.int a t) (.int b u)) Q E s := sub_int (by rw [e]; exact h)
theorem mulT {a b : Int} (c : Int) (e : a * b = c) (hb : Builtin.Int.intBits a ≤ 64 ∨ Builtin.Int.intBits b ≤ 64) (h : Q (.int c s.toks) { s with toks := s.toks + 1 }) : wpAny (model PP w) A (binaryOp .Mult (.int a t) (.int b u)) Q E s :=
  mul_int (by rw [e]; exact h) (hb.elim IntMulOk.of_left IntMulOk.of_right)
theorem rsh1T {a : Int} (x : Nat) (e : a = x) (h : Q (.int ((x / 2 : Nat) : Int) s.toks) { s with toks := s.toks + 1 }) : wpAny (model PP w) A (binaryOp .RShift (.int a t) (.int 1 u)) Q E s := by
  subst e
  exact wpAny_rshift1_int (by omega) (by have : ((x : Int) / 2) = ((x / 2 : Nat) : Int) := by omega
                                         rw [this]; exact h)
theorem rshT {a : Int} {n : Nat} (c : Int) (e : a.fdiv (2 ^ n) = c) (h : Q (.int c s.toks) { s with toks := s.toks + 1 }) : wpAny (model PP w) A (binaryOp .RShift (.int a t) (.int (n : Int) u)) Q E s :=
  rshift_int (by (clear e; omega)) (by rw [Int.toNat_natCast, e]; exact h)
theorem lshT {a : Int} {n : Nat} (c : Int) (e : a * 2 ^ n = c) (hA : A.handled = none) (hb : Builtin.Int.intBits a + n ≤ 2 ^ 27) (h : Q (.int c s.toks) { s with toks := s.toks + 1 }) : wpAny (model PP w) A (binaryOp .LShift (.int a t) (.int (n : Int) u)) Q E s :=
  lshift_int_or hA (fun q => by (clear e hb; omega)) (fun _ => by (clear e; omega)) (fun _ => by rw [Int.toNat_natCast, e]; exact h)
theorem bits_lt {a : Int} {k : Nat} (h0 : 0 ≤ a) (h : a < 2 ^ k) : Builtin.Int.intBits a ≤ k := by
  refine intBits_le_iff.mpr ?_
  have : ((a.natAbs : Nat) : Int) < ((2 ^ k : Nat) : Int) := by
    rw [Int.natCast_pow]
    have : ((a.natAbs : Nat) : Int) = a := by (clear h; omega)
    rw [this]; exact h
  exact Int.ofNat_lt.mp this
theorem bits_nat {a k : Nat} (h : a < 2 ^ k) : Builtin.Int.intBits (a : Int) ≤ k := intBits_le_iff.mpr (by rw [Int.natAbs_natCast]; exact h)
end

def dsum (n : Nat) : List Int → Int
  | [] => 0
  | d :: r => d + 2 ^ n * dsum n r
theorem dsum_append (n : Nat) : ∀ xs ys : List Int, dsum n (xs ++ ys) = dsum n xs + 2 ^ (n * xs.length) * dsum n ys
  | [], ys => by simp [dsum]
  | x :: xs, ys => by
    rw [List.cons_append, dsum, dsum, dsum_append n xs ys, List.length_cons, Nat.mul_add, Nat.mul_one, Int.pow_add, Int.mul_add, Int.add_assoc]
    congr 2
    rw [Int.mul_comm (2 ^ (n * xs.length)) (2 ^ n), Int.mul_assoc]
theorem dsum_bound (n : Nat) : ∀ xs : List Int, (∀ d ∈ xs, 0 ≤ d ∧ d < 2 ^ n) → 0 ≤ dsum n xs ∧ dsum n xs < 2 ^ (n * xs.length)
  | [], _ => by simp [dsum]
  | x :: xs, h => by
    obtain ⟨a1, a2⟩ := h x (.head _)
    obtain ⟨b1, b2⟩ := dsum_bound n xs fun d hd => h d (.tail _ hd)
    rw [dsum, List.length_cons, Nat.mul_add, Nat.mul_one, Int.pow_add]
    have hp : (0 : Int) < 2 ^ n := Int.pow_pos (by (clear a1 a2 b1 b2; omega))
    refine ⟨Int.add_nonneg a1 (Int.mul_nonneg (Int.le_of_lt hp) b1), ?_⟩
    have : 2 ^ n * dsum n xs ≤ 2 ^ n * (2 ^ (n * xs.length) - 1) := Int.mul_le_mul_of_nonneg_left (by (clear a1 a2 b1 hp; omega)) (Int.le_of_lt hp)
    rw [Int.mul_sub, Int.mul_one, Int.mul_comm (2 ^ n) (2 ^ (n * xs.length))] at this
    (clear a1 b1 b2 hp; omega)
theorem dsum_mid (n : Nat) (ds : List Int) {Lo mid Hi : Nat} (h1 : Lo ≤ mid) (h2 : mid ≤ Hi) (h3 : Hi ≤ ds.length) :
    dsum n ((ds.drop mid).take (Hi - mid)) * 2 ^ ((mid - Lo) * n) + dsum n ((ds.drop Lo).take (mid - Lo)) = dsum n ((ds.drop Lo).take (Hi - Lo)) := by
  have e : (ds.drop Lo).take (Hi - Lo) = (ds.drop Lo).take (mid - Lo) ++ (ds.drop mid).take (Hi - mid) := by
    have : Hi - Lo = (mid - Lo) + (Hi - mid) := by (clear h3; omega)
    rw [this, List.take_add, List.drop_drop]
    congr 3
    (clear h3 this; omega)
  rw [e, dsum_append]
  have hl : ((ds.drop Lo).take (mid - Lo)).length = mid - Lo := by rw [List.length_take, List.length_drop]; omega
  rw [hl, Int.add_comm, Int.mul_comm (2 ^ _), Nat.mul_comm n]
theorem dsum_one (n : Nat) (ds : List Int) {i : Nat} (h : i < ds.length) : dsum n ((ds.drop i).take 1) = ds[i] := by
  rw [List.drop_eq_getElem_cons h, List.take_succ_cons, List.take_zero, dsum, dsum, Int.mul_zero, Int.add_zero]
theorem intsAre_get {vs : List Value} {ds : List Int} (hi : IntsAre vs ds) {i : Nat} (h : i < ds.length) : ∃ t, vs[i]? = some (.int ds[i] t) := by
  induction hi generalizing i with
  | nil => cases h
  | cons n t hi ih =>
    cases i with
    | zero => exact ⟨t, rfl⟩
    | succ i => simpa using ih (i := i) (by simpa using h)
end Mine

namespace Mine
section
variable {w : World} {A : Around} {E : Value → Shared → Prop} {Q : Value → Shared → Prop} {t u : Tok} {hp : Heap} {gn : Array GenState} {dr : Drawn} {tk : Nat} {os : OsState}
  {g0 g : Heap} {T : List Addr} {L : Addr} {m : Str → Option Value} {nw : List (Addr × Obj)} {mg mb : Str → Option Value} {env : Env} {x : Str} {pos : Pos} {v : Value} {k : Nat}
theorem rI {i : Int} (h : Q (.int i tk) ⟨hp, gn, dr, tk + 1, os⟩) : wpAny (model PP w) A (eval (.Constant (.int i) k pos) env) Q E ⟨hp, gn, dr, tk, os⟩ := wpAny_Constant_int h
theorem rS {i : Str} (h : Q (.str i tk) ⟨hp, gn, dr, tk + 1, os⟩) : wpAny (model PP w) A (eval (.Constant (.str i) k pos) env) Q E ⟨hp, gn, dr, tk, os⟩ := wpAny_Constant_str h
theorem rAdd {a b : Int} (c : Int) (e : a + b = c) (h : Q (.int c tk) ⟨hp, gn, dr, tk + 1, os⟩) : wpAny (model PP w) A (binaryOp .Add (.int a t) (.int b u)) Q E ⟨hp, gn, dr, tk, os⟩ := addT c e h
theorem rSub {a b : Int} (c : Int) (e : a - b = c) (h : Q (.int c tk) ⟨hp, gn, dr, tk + 1, os⟩) : wpAny (model PP w) A (binaryOp .Sub (.int a t) (.int b u)) Q E ⟨hp, gn, dr, tk, os⟩ := subT c e h
theorem rMul {a b : Int} (c : Int) (e : a * b = c) (hb : Builtin.Int.intBits a ≤ 64 ∨ Builtin.Int.intBits b ≤ 64) (h : Q (.int c tk) ⟨hp, gn, dr, tk + 1, os⟩) : wpAny (model PP w) A (binaryOp .Mult (.int a t) (.int b u)) Q E ⟨hp, gn, dr, tk, os⟩ := mulT c e hb h
theorem rRsh1 {a : Int} (x : Nat) (e : a = x) (h : Q (.int ((x / 2 : Nat) : Int) tk) ⟨hp, gn, dr, tk + 1, os⟩) : wpAny (model PP w) A (binaryOp .RShift (.int a t) (.int 1 u)) Q E ⟨hp, gn, dr, tk, os⟩ := rsh1T x e h
theorem rRsh {a n' : Int} (n : Nat) (c : Int) (en : n' = n) (e : a.fdiv (2 ^ n) = c) (h : Q (.int c tk) ⟨hp, gn, dr, tk + 1, os⟩) : wpAny (model PP w) A (binaryOp .RShift (.int a t) (.int n' u)) Q E ⟨hp, gn, dr, tk, os⟩ := by
  subst en
  exact rshT c e h
theorem rLsh {a n' : Int} (n : Nat) (c : Int) (en : n' = n) (e : a * 2 ^ n = c) (hA : A.handled = none) (hb : Builtin.Int.intBits a + n ≤ 2 ^ 27) (h : Q (.int c tk) ⟨hp, gn, dr, tk + 1, os⟩) : wpAny (model PP w) A (binaryOp .LShift (.int a t) (.int n' u)) Q E ⟨hp, gn, dr, tk, os⟩ := by
  subst en
  exact lshT c e hA hb h
theorem rEq {a b : Int} (h : Q (.bool (a == b)) ⟨hp, gn, dr, tk, os⟩) : wpAny (model PP w) A (compareOp .Eq (.int a t) (.int b u)) Q E ⟨hp, gn, dr, tk, os⟩ := eq_int h
theorem rSt {Q : Unit → Shared → Prop} (F : FS g0 g T L hp m nw)
    (h : ∀ h', FS g0 g T L h' (fun y => if y = x then some v else m y) nw → Q () ⟨h', gn, dr, tk + 1, os⟩)
    (hL : env.locals = L := by rfl) (hk : env.scope.kind = .function := by rfl) (hx : env.kindOf x = some .local := by rfl) : wpAny (model PP w) A (storeName env x v) Q E ⟨hp, gn, dr, tk, os⟩ := sL F h hL hk hx
theorem rAs {x : Str} {pos' : Pos} {value : Expr} {rest : List Stmt} {Q : Flow → Shared → Prop}
    (h : wpAny (model PP w) A (eval value env) (AsP w A env x rest Q E) E ⟨hp, gn, dr, tk, os⟩)
    (hs : swapsWith value (some (.Name x pos')) pos.line env = pure false := by rfl) : wpAny (model PP w) A (execs (.Assign [.Name x pos'] value pos :: rest) env) Q E ⟨hp, gn, dr, tk, os⟩ := wpAny_execs_cons (wpAny_Assign_Name h hs)
theorem rRet {e : Expr} {rest : List Stmt} {Q : Flow → Shared → Prop}
    (h : wpAny (model PP w) A (eval e env) (fun v s₁ => Q (.ret v) s₁) E ⟨hp, gn, dr, tk, os⟩) : wpAny (model PP w) A (execs (.Return (some e) pos :: rest) env) Q E ⟨hp, gn, dr, tk, os⟩ := wpAny_execs_cons (wpAny_Return_some h)
theorem rIf {test : Expr} {body orelse rest : List Stmt} {Q : Flow → Shared → Prop}
    (h : wpAny (model PP w) A (isTrue test env (eval test env)) (fun b s₂ => if b = true then wpAny (model PP w) A (execs body env) (fun f s' => match f with | .next => wpAny (model PP w) A (execs rest env) Q E s' | f => Q f s') E s₂
      else wpAny (model PP w) A (execs orelse env) (fun f s' => match f with | .next => wpAny (model PP w) A (execs rest env) Q E s' | f => Q f s') E s₂) E ⟨hp, gn, dr, tk, os⟩) :
    wpAny (model PP w) A (execs (.If test body orelse pos :: rest) env) Q E ⟨hp, gn, dr, tk, os⟩ := wpAny_execs_cons (wpAny_If h)
theorem iteF {p : Prop} [Decidable p] {a b : Prop} (h : ¬ p) (x : b) : if p then a else b := by rw [if_neg h]; exact x
theorem iteT {p : Prop} [Decidable p] {a b : Prop} (h : p) (x : a) : if p then a else b := by rw [if_pos h]; exact x
theorem nilNext {rest : List Stmt} {Q : Flow → Shared → Prop} (h : wpAny (model PP w) A (execs rest env) Q E ⟨hp, gn, dr, tk, os⟩) :
    wpAny (model PP w) A (execs [] env) (fun f s' => match f with | .next => wpAny (model PP w) A (execs rest env) Q E s' | f => Q f s') E ⟨hp, gn, dr, tk, os⟩ := wpAny_execs_nil h
theorem rCW {a : Addr} {o : Obj} {fd : FuncData} {e : Expr} {args : List Expr} (_ : hp.get? a = some o) (hd : o.data = .func fd) (h : wpAny (model PP w) A (spliced (backTo pos (starEach (e :: args) env))) (fun vs s₁ => s₁.heap.get? a = some o ∧
      codeAny (model PP w) A (.call (.ref a) ⟨vs, []⟩) (fun r s' => match r with | .ok (.ret v) => Q v s' | .ok _ => False | .error e => E e s') s₁) E ⟨hp, gn, dr, tk, os⟩)
      (he : starEach (e :: args) env = (false, eval e env) :: starEach args env := by rfl) :
    wpAny (model PP w) A (callWith pos (.ref a) [] (backTo pos (starEach (e :: args) env)) []) Q E ⟨hp, gn, dr, tk, os⟩ := by
  rw [he] at h ⊢
  exact Calls.callWith_function (o := o) (fd := fd) (Calls.evalArgs_plain (wpAny_mono h (fun _ _ h₁ => ⟨⟨h₁.1, hd⟩, by rw [List.nil_append]; exact wpAny_call h₁.2⟩) fun _ _ x => x))
theorem ent {n : Nat} {R : Result → Shared → Prop} {f : Addr} {o : Obj} {fd : FuncData} {body : List Stmt} {args : List Value} {binds : List (Str × Value)}
    (G : Gd w mg mb g0) (k : OK g0 hp) (rm : Rm A (n + 1)) (ho : hp.get? f = some o) (hd : o.data = .func fd) (hcd : hp.CodeRec fd.code fd.qualname) (hb : fd.body = .stmts body)
    (hbind : bindArgs fd ⟨args, []⟩ = pure binds) (hloc' : (binds.all fun x => decide (fd.scope.names.lookup x.1 = some .local)) = true) (hcell' : (fd.scope.names.all fun x => !(x.2 == .cell)) = true)
    (hco : fd.scope.isCoroutine = false) (hgen : fd.scope.isGenerator = false) (hk : fd.scope.kind = .function)
    (h : ∀ h₁ tk', FS g0 hp T hp.objs.size h₁ (fun x => binds.reverse.lookup x) [] →
      Rm (A.deeper (newEnv fd.scope hp.objs.size fd.globals fd.closure (fd.qualname ++ ".<locals>.") (some f) fd.code none fd.builtins)) n →
      (∀ b ob, hp.get? b = some ob → h₁.get? b = some ob) →
      wpAny (model PP w) (A.deeper (newEnv fd.scope hp.objs.size fd.globals fd.closure (fd.qualname ++ ".<locals>.") (some f) fd.code none fd.builtins))
        (execs body (newEnv fd.scope hp.objs.size fd.globals fd.closure (fd.qualname ++ ".<locals>.") (some f) fd.code none fd.builtins))
        (RetP R) (fun _ _ => False) ⟨h₁, gn, dr, tk', os⟩) :
    codeAny (model PP w) A (.call (.ref f) ⟨args, []⟩) R ⟨hp, gn, dr, tk, os⟩ := enter (T := T) G k rm ho hd hcd hb hbind hloc' hcell' hco hgen hk fun h₁ => h h₁ _
theorem entC {n : Nat} {R : Result → Shared → Prop} {f : Addr} {o : Obj} {fd : FuncData} {body : List Stmt} {args : List Value} {binds : List (Str × Value)}
    (G : Gd w mg mb g0) (k : OK g0 hp) (rm : Rm A (n + 1)) (ho : hp.get? f = some o) (hd : o.data = .func fd) (hcd : hp.CodeRec fd.code fd.qualname) (hb : fd.body = .stmts body)
    (hbind : bindArgs fd ⟨args, []⟩ = pure binds) (hclo : fd.closure = [])
    (hkind' : (binds.all fun y => fd.scope.names.lookup y.1 == some .local || fd.scope.names.lookup y.1 == some .cell) = true)
    (hco : fd.scope.isCoroutine = false) (hgen : fd.scope.isGenerator = false) (hk : fd.scope.kind = .function)
    (h : ∀ h₁ tk', FS g0 hp T hp.objs.size h₁ (bindL (callEnvC fd hp.objs.size f).kindOf binds fun _ => none) [] →
      (∀ x c, (cellsFrom (hp.objs.size + 1) fd.scope.names []).lookup x = some c → h₁.IsCell c (bindC (callEnvC fd hp.objs.size f).kindOf binds (fun _ => none) x)) →
      Rm (A.deeper (callEnvC fd hp.objs.size f)) n → (∀ b ob, hp.get? b = some ob → h₁.get? b = some ob) →
      wpAny (model PP w) (A.deeper (callEnvC fd hp.objs.size f)) (execs body (callEnvC fd hp.objs.size f))
        (RetP R) (fun _ _ => False) ⟨h₁, gn, dr, tk', os⟩) :
    codeAny (model PP w) A (.call (.ref f) ⟨args, []⟩) R ⟨hp, gn, dr, tk, os⟩ := enterC (T := T) G k rm ho hd hcd hb hbind hclo hkind' hco hgen hk h
theorem rFn {name qual : Str} {params : Arguments} {body : List Stmt} {scope : Scope} {firstLine : Nat} {clos : List (Str × Addr)} {c P : Addr}
    (G : Gd w mg mb g0) (k : OK g0 hp) (hP : (P = tI2D ∧ (pos.line : Int) = pI2D ∧ qual = qI2D) ∨ (P = tD2I ∧ (pos.line : Int) = pD2I ∧ qual = qD2I) ∨ (P = tLL ∧ (pos.line : Int) = pLL ∧ qual = qLL)) (hcol : pos.col = 4)
    (C : CodeHd g0 c P) (hc : c ∉ tabs) (hcode : env.code = .ref c) (hcl : closureFor scope env = pure clos) (hge0 : env.globals = mainGlobals)
    (h : ∀ f doc pm c₁ ctv h' tk, OK g0 h' → Kp [] hp h' → hp.objs.size ≤ f → c₁ ∉ tabs → h'.CodeRec (.ref c₁) qual →
      h'.get? f = some { cls := .type "function", data := .func (fnX name qual params body scope clos .none .none doc pm none (.ref c₁) ctv) } → Q (.ref f) ⟨h', gn, dr, tk, os⟩) :
    wpAny (model PP w) A (makeFunction name qual params (.stmts body) scope env [] [] [] pos firstLine) Q E ⟨hp, gn, dr, tk, os⟩ := mkFn G k hP hcol C hc hcode hcl hge0 h
theorem rSC {Q : Unit → Shared → Prop} (F : FS g0 g T L hp m nw) {c : Addr} (i : Nat) {o : Obj} {v₀ : Option Value} (hc : env.cells.lookup x = some c) (hi : nw[i]? = some (c, o)) (hd : o.data = .cell v₀)
    (h : ∀ h' o', o'.data = .cell (some v) → Heap.SameBut c hp h' → FS g0 g T L h' m (nw.set i (c, o')) → Q () ⟨h', gn, dr, tk, os⟩)
    (hk : env.scope.kind = .function := by rfl) (hx : env.kindOf x = some .cell := by rfl) : wpAny (model PP w) A (storeName env x v) Q E ⟨hp, gn, dr, tk, os⟩ := sC F i hc hi hd h hk hx
theorem rDef {name : Str} {params : Arguments} {body rest : List Stmt} {scope : Scope} {Q : Flow → Shared → Prop} (hd0 : params.defaults = []) (hk0 : params.kw_defaults = []) (ha : annTrees params none env = [])
    (h : wpAny (model PP w) A (makeFunction name (qualnameIn env name name) params (.stmts body) scope env [] [] [] pos pos.line) (fun v s' => wpAny (model PP w) A (storeName env name v) (fun _ s'' => wpAny (model PP w) A (execs rest env) Q E s'') E s') E ⟨hp, gn, dr, tk, os⟩) :
    wpAny (model PP w) A (execs (.FunctionDef name params body [] none [] scope none name pos :: rest) env) Q E ⟨hp, gn, dr, tk, os⟩ := wpAny_execs_cons (nestDef_K hd0 hk0 ha h)
end
end Mine

namespace Mine
def digs (n : Nat) : Nat → Nat → List Int
  | 0, _ => []
  | k + 1, x => ((x % 2 ^ n : Nat) : Int) :: digs n k (x / 2 ^ n)
theorem digs_len (n : Nat) : ∀ k x, (digs n k x).length = k
  | 0, _ => rfl
  | k + 1, x => by rw [digs, List.length_cons, digs_len]
theorem digs_add (n : Nat) : ∀ a b x, digs n (a + b) x = digs n a (x % 2 ^ (n * a)) ++ digs n b (x / 2 ^ (n * a))
  | 0, b, x => by simp [digs]
  | a + 1, b, x => by
    have e : a + 1 + b = (a + b) + 1 := by omega
    rw [e, digs, digs, List.cons_append, digs_add n a b (x / 2 ^ n)]
    have e1 : x % 2 ^ (n * (a + 1)) % 2 ^ n = x % 2 ^ n := Nat.mod_mod_of_dvd _ (Nat.pow_dvd_pow 2 (by rw [Nat.mul_add]; (clear e; omega)))
    have e2 : x % 2 ^ (n * (a + 1)) / 2 ^ n = x / 2 ^ n % 2 ^ (n * a) := by
      have : 2 ^ (n * (a + 1)) = 2 ^ n * 2 ^ (n * a) := by rw [← Nat.pow_add]; congr 1; rw [Nat.mul_add]; (clear e e1; omega)
      rw [this, Nat.mod_mul_right_div_self]
    have e3 : x / 2 ^ n / 2 ^ (n * a) = x / 2 ^ (n * (a + 1)) := by
      rw [Nat.div_div_eq_div_mul, ← Nat.pow_add]
      congr 2
      rw [Nat.mul_add]; (clear e e1 e2; omega)
    rw [e1, e2, e3]
theorem low_xor (x s : Nat) : Builtin.bitXor (x : Int) ((x / 2 ^ s * 2 ^ s : Nat) : Int) = ((x % 2 ^ s : Nat) : Int) := by
  have key : Builtin.bitAnd (x : Int) ((x / 2 ^ s * 2 ^ s : Nat) : Int) = ((x / 2 ^ s * 2 ^ s : Nat) : Int) := by
    show (((x &&& (x / 2 ^ s * 2 ^ s) : Nat)) : Int) = _
    congr 1
    rw [← Nat.shiftRight_eq_div_pow, ← Nat.shiftLeft_eq]
    apply Nat.eq_of_testBit_eq
    intro i
    rw [Nat.testBit_and, Nat.testBit_shiftLeft, Nat.testBit_shiftRight]
    by_cases h : s ≤ i
    · have : s + (i - s) = i := by omega
      simp [h, this]
    · simp [h]
  rw [bitXor_and, key]
  have := Nat.mod_add_div x (2 ^ s)
  rw [Nat.mul_comm] at this
  (clear key; omega)
theorem IntsAre.set' {vs : List Value} {es : List Int} (hi : IntsAre vs es) (i : Nat) (x : Int) (t : Tok) : IntsAre (vs.set i (.int x t)) (es.set i x) := by
  induction hi generalizing i with
  | nil => exact .nil
  | cons n u _ ih =>
    cases i with
    | zero => exact .cons x t (by assumption)
    | succ i => exact .cons n u (ih i)
theorem ints_rep (t : Tok) : ∀ c, IntsAre (List.replicate c (Value.int 0 t)) (List.replicate c 0)
  | 0 => .nil
  | c + 1 => .cons 0 t (ints_rep t c)
theorem take_set_drop (es : List Int) {i : Nat} (h : i < es.length) (x : Int) : es.set i x = es.take i ++ [x] ++ es.drop (i + 1) := by
  rw [List.set_eq_take_append_cons_drop, if_pos h, List.append_assoc]; rfl
end Mine

namespace Mine
section
variable {w : World} {A : Around} {E : Value → Shared → Prop} {Q : Value → Shared → Prop} {t u : Tok} {hp : Heap} {gn : Array GenState} {dr : Drawn} {tk : Nat} {os : OsState}
  {g0 g h h' : Heap} {T : List Addr} {L : Addr} {m : Str → Option Value} {nw : List (Addr × Obj)} {mg mb : Str → Option Value} {env : Env} {x : Str} {pos : Pos} {v : Value} {k : Nat}
theorem FS.addT (F : FS g0 g T L h m nw) {a : Addr} {o : Obj} (e : h.get? a = some o) (ha : a ∈ T) (h0 : g0.objs.size ≤ a) (hf : ∀ p ∈ nw, @Ne Nat p.1 a) (hL : @Ne Nat a L) : FS g0 g T L h m ((a, o) :: nw) where
  ok := F.ok
  kp := F.kp
  g0g := F.g0g
  ns := F.ns
  le := F.le
  nws := fun p hp => by
    rcases List.mem_cons.mp hp with rfl | hp
    · exact e
    · exact F.nws p hp
  lo := fun p hp => by
    rcases List.mem_cons.mp hp with rfl | hp
    · exact .inr ⟨ha, h0⟩
    · exact F.lo p hp
  nd := by
    rw [List.map_cons]
    refine List.nodup_cons.mpr ⟨fun hm => ?_, F.nd⟩
    obtain ⟨p, hp, hpa⟩ := List.mem_map.mp hm
    exact hf p hp hpa
  nL := fun p hp => by
    rcases List.mem_cons.mp hp with rfl | hp
    · exact hL
    · exact F.nL p hp
theorem list_nc {o : Obj} {xs : Array Value} {n : Nat} (hd : o.data = .seq xs n) : NC o := fun vs q t z => by rw [hd] at z; cases z
theorem cell_nc {o : Obj} {c : Option Value} (hd : o.data = .cell c) : NC o := fun vs q t z => by rw [hd] at z; cases z
theorem rMulL {l : Addr} {items : Array Value} {n : Nat} {x : Int} (hl : hp.get? l = some { cls := .type "list", dict := none, data := .seq items n, slots := #[] })
    (h0 : 0 ≤ x) (hhi : x < 2 ^ 63) (hsz : items.size * x.toNat ≤ 2 ^ 24)
    (h : Q (.ref hp.objs.size) ⟨hp.push { cls := .type "list", data := .seq (List.foldl (fun x1 x2 => x1 ++ x2) #[] (List.replicate (if items.isEmpty = true then 0 else x.toNat) items)) }, gn, dr, tk, os⟩) :
    wpAny (model PP w) A (binaryOp .Mult (.ref l) (.int x u)) Q E ⟨hp, gn, dr, tk, os⟩ :=
  wpAny_binaryOp_repeat_ref (T := "list") (U := "int") (by decide) ⟨_, hl, rfl⟩ (fun s' => typeIs_int s' x u) noFill_list_mul F.fills_int_mul F.slot_int_rmul repeat_list F.slot_int_index.lookup
    (call_meets F.slot_int_rmul (typeIs_int _ x u) F.entry_int_rmul (F.args_int_rmul_2 _ _) (int___rmul___int_list x u l items n)
      ⟨hl, rfl, ⟨_, hl, rfl⟩, call_meets F.slot_list_mul ⟨_, hl, rfl⟩ F.entry_list_mul (F.args_list_mul_2 _ _)
        (AutoListH.list___mul___list_int_3 l items n x u (by simp [Builtin.List.listFitsIndex]; (clear hsz; omega)) (by (clear h0 hhi; omega)) (by simp [Builtin.List.listTooLong, sizeLine]; (clear h0 hhi; omega)))
        ⟨hl, h⟩⟩)
theorem rep_fold (v : Value) : ∀ (c : Nat) (acc : Array Value), List.foldl (fun x1 x2 => x1 ++ x2) acc (List.replicate c #[v]) = acc ++ (List.replicate c v).toArray
  | 0, acc => by simp
  | c + 1, acc => by
    rw [List.replicate_succ, List.foldl_cons, rep_fold v c, List.replicate_succ, Array.append_assoc]
    congr 1
    apply Array.ext'
    simp
theorem rMulL1 {l : Addr} {v : Value} {n : Nat} (c : Nat) (hl : hp.get? l = some { cls := .type "list", dict := none, data := .seq #[v] n, slots := #[] })
    (hsz : c ≤ 2 ^ 24) (h : Q (.ref hp.objs.size) ⟨hp.push { cls := .type "list", data := .seq (List.replicate c v).toArray }, gn, dr, tk, os⟩) :
    wpAny (model PP w) A (binaryOp .Mult (.ref l) (.int (c : Int) u)) Q E ⟨hp, gn, dr, tk, os⟩ := by
  refine rMulL hl (by omega) (by omega) (by show 1 * (c : Int).toNat ≤ _; rw [Int.toNat_natCast]; omega) ?_
  have e : List.foldl (fun x1 x2 => x1 ++ x2) #[] (List.replicate (if (#[v] : Array Value).isEmpty = true then 0 else (c : Int).toNat) #[v]) = (List.replicate c v).toArray := by
    rw [if_neg (by simp), Int.toNat_natCast, rep_fold]
    simp
  rw [e]
  exact h
theorem rFdiv {a b : Int} (c : Int) (e : a.fdiv b = c) (hb : b ≠ 0) (hp' : b.natAbs.log2 < 9000) (h : Q (.int c tk) ⟨hp, gn, dr, tk + 1, os⟩) : wpAny (model PP w) A (binaryOp .FloorDiv (.int a t) (.int b u)) Q E ⟨hp, gn, dr, tk, os⟩ :=
  floordiv_int hb (by rw [e]; exact h) (.inl (PyProof.noPylong_of_log2 hp'))
theorem rXor {a b : Int} (c : Int) (e : Builtin.bitXor a b = c) (h : Q (.int c tk) ⟨hp, gn, dr, tk + 1, os⟩) : wpAny (model PP w) A (binaryOp .BitXor (.int a t) (.int b u)) Q E ⟨hp, gn, dr, tk, os⟩ := xor_int (by rw [e]; exact h)
theorem rList {elts : List Expr} (h : wpAny (model PP w) A (spliced (backTo pos (starEach elts env))) (fun vs s₁ => wpAny (model PP w) A (newList vs) Q E s₁) E ⟨hp, gn, dr, tk, os⟩) : wpAny (model PP w) A (eval (.List elts pos) env) Q E ⟨hp, gn, dr, tk, os⟩ := List_ h
theorem rNewL {items : List Value} (h : Q (.ref hp.objs.size) ⟨hp.push { cls := .type "list", data := .seq items.toArray }, gn, dr, tk, os⟩) (hs : items.length ≤ sizeLine) : wpAny (model PP w) A (newList items) Q E ⟨hp, gn, dr, tk, os⟩ := wpAny_newList h hs
theorem rNewT {items : List Value} (h : Q (.ref hp.objs.size) ⟨hp.push { cls := .type "tuple", data := .seq items.toArray }, gn, dr, tk, os⟩) (hs : items.length ≤ sizeLine) : wpAny (model PP w) A (newTuple items) Q E ⟨hp, gn, dr, tk, os⟩ := wpAny_newTuple h hs
theorem rEx {e : Expr} {rest : List Stmt} {Q : Flow → Shared → Prop} (h : wpAny (model PP w) A (eval e env) (fun _ s' => wpAny (model PP w) A (execs rest env) Q E s') E ⟨hp, gn, dr, tk, os⟩) (hi : interactive env = false := by rfl) (hs : swapsWith e none pos.line env = pure false := by rfl) :
    wpAny (model PP w) A (execs (.Expr e pos :: rest) env) Q E ⟨hp, gn, dr, tk, os⟩ := wpAny_execs_cons (wpAny_Expr_any h hi hs)
theorem rAsub {o i : Expr} {pos' : Pos} {value : Expr} {rest : List Stmt} {Q : Flow → Shared → Prop}
    (h : wpAny (model PP w) A (eval value env) (fun v s₁ => wpAny (model PP w) A (eval o env) (fun ov s₂ => wpAny (model PP w) A (eval i env) (fun iv s₃ => wpAny (model PP w) A (setItem ov iv v) (fun _ s₄ => wpAny (model PP w) A (execs rest env) Q E s₄) E s₃) E s₂) E s₁) E ⟨hp, gn, dr, tk, os⟩)
    (hs : swapsWith value (some (o.Subscript i pos')) pos.line env = pure false := by rfl) : wpAny (model PP w) A (execs (.Assign [.Subscript o i pos'] value pos :: rest) env) Q E ⟨hp, gn, dr, tk, os⟩ := wpAny_execs_cons (wpAny_Assign_Subscript h hs)
theorem rRet0 {rest : List Stmt} {Q : Flow → Shared → Prop} (h : Q (.ret .none) ⟨hp, gn, dr, tk, os⟩) : wpAny (model PP w) A (execs (.Return none pos :: rest) env) Q E ⟨hp, gn, dr, tk, os⟩ := wpAny_execs_cons (wpAny_Return_none h)
theorem rNil {Q : Flow → Shared → Prop} (h : Q .next ⟨hp, gn, dr, tk, os⟩) : wpAny (model PP w) A (execs [] env) Q E ⟨hp, gn, dr, tk, os⟩ := wpAny_execs_nil h
theorem rM {o : Expr} {name : Str} {apos : Pos} {args : List Expr} {pl : Sem Bool}
    (h : wpAny (model PP w) A (eval o env) (fun ov s₁ => wpAny (model PP w) A (getMethod ov name pl) (fun fx s₂ => wpAny (model PP w) A (callWith pos fx.1 fx.2 (backTo pos (starEach args env)) []) Q E s₂) E s₁) E ⟨hp, gn, dr, tk, os⟩)
    (he : eval (.Call (.Attribute o name apos) args [] pos) env = (do
          let ov ← eval o env
          standAt apos.atName
          let (f, first) ← holding [ov] (getMethod ov name pl)
          callWith pos f first (backTo pos (starEach args env)) []) := by rfl) :
    wpAny (model PP w) A (eval (.Call (.Attribute o name apos) args [] pos) env) Q E ⟨hp, gn, dr, tk, os⟩ := MethodCall_ h he
theorem rBL {a : Int} {pl : Sem Bool} {QM : Value × List Value → Shared → Prop} (h : QM (.builtin "int.bit_length", [.int a t]) ⟨hp, gn, dr, tk, os⟩) : wpAny (model PP w) A (getMethod (.int a t) "bit_length" pl) QM E ⟨hp, gn, dr, tk, os⟩ := getMethod_int_bit_length h
theorem rCM0 {id : String} {first : List Value} (h : wpAny (model PP w) A (call (.builtin id) first) Q E ⟨hp, gn, dr, tk, os⟩) : wpAny (model PP w) A (callWith pos (.builtin id) first (backTo pos (starEach [] env)) []) Q E ⟨hp, gn, dr, tk, os⟩ := callWith_method0 h
theorem rBL' {a : Int} (h : Q (.int (Builtin.Int.intBits a : Nat) tk) ⟨hp, gn, dr, tk + 1, os⟩) : wpAny (model PP w) A (call (.builtin "int.bit_length") [.int a t]) Q E ⟨hp, gn, dr, tk, os⟩ := call_int_bit_length h
theorem rTru {a : Int} {Q : Bool → Shared → Prop} (h : Q (a != 0) ⟨hp, gn, dr, tk, os⟩) : wpAny (model PP w) A (truthy (.int a t)) Q E ⟨hp, gn, dr, tk, os⟩ := truthy_int h
theorem rLen {l : Addr} {items : Array Value} {n : Nat} (hl : hp.IsList l items) (hn : items.size = n) (hs : n < 2 ^ 62) (h : ∀ tk' tk2, Q (.int (n : Nat) tk') ⟨hp, gn, dr, tk2, os⟩) : wpAny (model PP w) A (call (.builtin "len") [.ref l]) Q E ⟨hp, gn, dr, tk, os⟩ :=
  len_list hl (by rw [hn]; omega) (by subst hn; exact h _ _)
theorem FS.extX (F : FS g0 g T L h m nw) (k : ∀ b o, h.get? b = some o → h'.get? b = some o) : FS g0 g T L h' m nw := by
  have sL : L < h'.objs.size := ns_lt (F.ns.keeps k)
  have sz : g.objs.size ≤ h'.objs.size := Nat.le_of_lt (Nat.lt_of_le_of_lt F.le sL)
  refine ⟨⟨Nat.le_trans F.g0g sz, fun b o e q => k _ _ (F.ok.kp b o e q), F.ok.lt, ?_, ?_, ?_⟩, ⟨sz, fun b o e h1 h2 => k _ _ (F.kp.kp b o e h1 h2)⟩, F.g0g, F.ns.keeps k, F.le, fun p hp => k _ _ (F.nws p hp), F.lo, F.nd, F.nL⟩
  · exact F.ok.t1.keeps (fun o e => k _ _ e) (fun c o _ e => k _ _ e)
  · exact F.ok.t2.keeps (fun o e => k _ _ e) (fun c o _ e => k _ _ e)
  · exact F.ok.t3.keeps (fun o e => k _ _ e) (fun c o _ e => k _ _ e)
theorem FS.extN (F : FS g0 g T L h m nw) (k : Heap.ExtBut h.objs.size h h') : FS g0 g T L h' m nw := F.extX fun b o e => k b o (Nat.ne_of_lt (Heap.lt_size e)) e
theorem FS.set' (F : FS g0 g T L h m nw) (i : Nat) {a : Addr} {o o' : Obj} (hi : nw[i]? = some (a, o)) (hn : NC o) {f : Obj → Obj} (hf : f o = o') (hfr : o'.isFreed = false) : FS g0 g T L (h.update a f) m (nw.set i (a, o')) :=
  F.updS i hi hn (Heap.SameBut.update ..) (by have := Heap.get?_update_self f (F.at i hi) (by rw [hf]; exact hfr); rw [this, hf])
abbrev LO (vs : List Value) (n : Nat) : Obj := { cls := .type "list", data := .seq vs.toArray n }
theorem LO.is {l : Addr} {vs : List Value} {n : Nat} (e : h.get? l = some (LO vs n)) : h.IsList l vs.toArray := ⟨_, e, rfl, n, rfl⟩
theorem rAppend (F : FS g0 g T L hp m nw) (i : Nat) {l : Addr} {vs : List Value} {n : Nat} {x : Value} (hi : nw[i]? = some (l, LO vs n)) (hs : vs.length ≤ 2 ^ 20)
    (h : ∀ h', FS g0 g T L h' m (nw.set i (l, LO (vs ++ [x]) (n + 1))) → Q .none ⟨h', gn, dr, tk, os⟩) : wpAny (model PP w) A (call (.builtin "list.append") [.ref l, x]) Q E ⟨hp, gn, dr, tk, os⟩ := by
  refine call_meets PySem.slot_list_append ⟨_, F.at i hi, rfl⟩ PySem.entry_list_append (PySem.args_list_append _ _) (AutoListH.list_append_list_val_0 l vs.toArray n x (by simp [sizeLine]; omega)) ⟨F.at i hi, h _ (F.set' i hi (list_nc rfl) ?_ rfl)⟩
  simp [Obj.mapSeq]
theorem rReverse (F : FS g0 g T L hp m nw) (i : Nat) {l : Addr} {vs : List Value} {n : Nat} (hi : nw[i]? = some (l, LO vs n)) (hs : vs.length ≤ 2 ^ 20)
    (h : ∀ h', FS g0 g T L h' m (nw.set i (l, LO vs.reverse n)) → Q .none ⟨h', gn, dr, tk, os⟩) : wpAny (model PP w) A (call (.builtin "list.reverse") [.ref l]) Q E ⟨hp, gn, dr, tk, os⟩ := by
  refine call_meets PySem.F.slot_list_reverse ⟨_, F.at i hi, rfl⟩ PySem.F.entry_list_reverse (PySem.F.args_list_reverse_1 _) (PySem.AutoSeq1.list_reverse_list_0 l vs.toArray n (by simp [sizeLine]; omega)) ⟨F.at i hi, h _ (F.set' i hi (list_nc rfl) ?_ rfl)⟩
  simp [Obj.mapSeq]
theorem rAppM {l : Addr} {vs : List Value} {n : Nat} {pl : Sem Bool} {QM : Value × List Value → Shared → Prop} (e : hp.get? l = some (LO vs n)) (h : QM (.builtin "list.append", [.ref l]) ⟨hp, gn, dr, tk, os⟩) : wpAny (model PP w) A (getMethod (.ref l) "append" pl) QM E ⟨hp, gn, dr, tk, os⟩ :=
  getMethod_list_append e rfl rfl h
theorem rRevM {l : Addr} {vs : List Value} {n : Nat} {pl : Sem Bool} {QM : Value × List Value → Shared → Prop} (e : hp.get? l = some (LO vs n)) (h : QM (.builtin "list.reverse", [.ref l]) ⟨hp, gn, dr, tk, os⟩) : wpAny (model PP w) A (getMethod (.ref l) "reverse" pl) QM E ⟨hp, gn, dr, tk, os⟩ :=
  getMethod_builtin (T := "list") ⟨_, e, rfl⟩ PySem.F.plainAttrs_list PySem.F.slot_list_reverse PySem.F.type_list_reverse (fun a e' => by cases e'; exact ⟨_, e, rfl⟩) h
theorem rCM {id : String} {first : List Value} {e : Expr} {rest : List Expr} (h : wpAny (model PP w) A (spliced (backTo pos (starEach (e :: rest) env))) (fun vs s₁ => wpAny (model PP w) A (call (.builtin id) (first ++ vs)) Q E s₁) E ⟨hp, gn, dr, tk, os⟩)
    (he : starEach (e :: rest) env = (false, eval e env) :: starEach rest env := by rfl) (hr : ((backTo pos (starEach rest env)).any fun x => x.1) = false := by rfl) :
    wpAny (model PP w) A (callWith pos (.builtin id) first (backTo pos (starEach (e :: rest) env)) []) Q E ⟨hp, gn, dr, tk, os⟩ := callWith_method1 h he hr
theorem rCB {id : String} {e : Expr} {rest : List Expr} (h : wpAny (model PP w) A (spliced (backTo pos (starEach (e :: rest) env))) (fun vs s₁ => wpAny (model PP w) A (call (.builtin id) vs) Q E s₁) E ⟨hp, gn, dr, tk, os⟩)
    (he : starEach (e :: rest) env = (false, eval e env) :: starEach rest env := by rfl) (hr : ((backTo pos (starEach rest env)).any fun x => x.1) = false := by rfl) :
    wpAny (model PP w) A (callWith pos (.builtin id) [] (backTo pos (starEach (e :: rest) env)) []) Q E ⟨hp, gn, dr, tk, os⟩ := PyProof.Rows.callWith_builtin1 h he hr
theorem rAs2 {x y : Str} {px py pt : Pos} {k : Nat} {value : Expr} {rest : List Stmt} {Q : Flow → Shared → Prop}
    (h : wpAny (model PP w) A (eval value env) (fun v s₁ => wpAny (model PP w) A (assign (.Tuple [.Name x px, .Name y py] k pt) env v) (fun _ s₂ => wpAny (model PP w) A (execs rest env) Q E s₂) E s₁) E ⟨hp, gn, dr, tk, os⟩)
    (h1 : swapsWithSole [.Tuple [.Name x px, .Name y py] k pt] value pos.line env = pure false := by rfl) (h2 : swappedStores [.Tuple [.Name x px, .Name y py] k pt] value env = pure none := by rfl) :
    wpAny (model PP w) A (execs (.Assign [.Tuple [.Name x px, .Name y py] k pt] value pos :: rest) env) Q E ⟨hp, gn, dr, tk, os⟩ := wpAny_execs_cons (Assign_Tuple h h1 h2)
theorem rTup2 {x y : Str} {px py pt : Pos} {k : Nat} {t : Addr} {a b : Value} {Q : Unit → Shared → Prop} (F : FS g0 g T L hp m nw) (hA : A.handled = none) (ht : hp.IsTuple t #[a, b])
    (h : ∀ h', FS g0 g T L h' (fun z => if z = y then some b else if z = x then some a else m z) nw → Q () ⟨h', gn, dr, tk + 1 + 1, os⟩)
    (hL : env.locals = L := by rfl) (hk : env.scope.kind = .function := by rfl) (hx : env.kindOf x = some .local := by rfl) (hy : env.kindOf y = some .local := by rfl) :
    wpAny (model PP w) A (assign (.Tuple [.Name x px, .Name y py] k pt) env (.ref t)) Q E ⟨hp, gn, dr, tk, os⟩ := by
  refine wpAny_assign_Tuple hA ht rfl rfl fun h' hx' => ?_
  have F1 := F.extN hx'
  refine wpAny_assignInOrder_more (wpAny_assign_Name ?_)
  refine rSt F1 (fun h2 F2 => ?_) hL hk hx
  refine wpAny_assignInOrder_more (wpAny_assign_Name ?_)
  refine rSt F2 (fun h3 F3 => ?_) hL hk hy
  exact wpAny_assignInOrder_none (h h3 F3)
theorem fdivN (a b : Nat) : ((a : Nat) : Int).fdiv (b : Int) = ((a / b : Nat) : Int) := by
  rw [Int.fdiv_eq_ediv_of_nonneg _ (by omega)]; rfl
theorem fdivP (a s : Nat) : ((a : Nat) : Int).fdiv (2 ^ s) = ((a / 2 ^ s : Nat) : Int) := by
  have : ((2 : Int) ^ s) = ((2 ^ s : Nat) : Int) := by simp
  rw [this, fdivN]
theorem log2_le {b k : Nat} (h : b < 2 ^ k) (hk : k < 9000) : b.log2 < 9000 := by
  by_cases z : b = 0
  · subst z; decide
  · exact Nat.lt_trans ((Nat.log2_lt z).mpr h) hk
end
end Mine

namespace Mine
section
variable {w : World} {A : Around} {E : Value → Shared → Prop} {Q : Value → Shared → Prop} {t u : Tok} {hp : Heap} {gn : Array GenState} {dr : Drawn} {tk : Nat} {os : OsState}
  {g0 g h h' : Heap} {T : List Addr} {L : Addr} {m : Str → Option Value} {nw : List (Addr × Obj)} {mg mb : Str → Option Value} {env : Env} {x : Str} {pos : Pos} {v : Value} {k : Nat}
theorem rForL {target iter : Expr} {body rest : List Stmt} {Q : Flow → Shared → Prop}
    (h : wpAny (model PP w) A (eval iter env) (fun v s₁ => wpAny (model PP w) A (pyIter v) (fun it s₂ => codeAny (model PP w) A (.forLoop target it body [] env)
      (fun r s' => match r with | .ok f => (match f with | .next => wpAny (model PP w) A (execs rest env) Q E s' | f => Q f s') | .error e => cameBackBy (model PP w) A env E e s') s₂) E s₁) E ⟨hp, gn, dr, tk, os⟩)
    (hf : ∀ x : Value, foldedSetIterable iter env x = pure x := by intro x; rfl) :
    wpAny (model PP w) A (execs (.For target iter body [] pos :: rest) env) Q E ⟨hp, gn, dr, tk, os⟩ := wpAny_execs_cons (wpAny_For h hf)
theorem rLoop {it : Value} {x : Str} {px : Pos} {body : List Stmt} {Qf : Flow → Shared → Prop} {Er : Value → Shared → Prop} (I : Nat → Shared → Prop)
    (turn : ∀ J : Nat → Shared → Prop, (∀ n s, I n s → J n s) → ∀ n s, I n s → wpAny (model PP w) A (pyNext it) (fun r s₁ => match r with
      | none => Qf .next s₁
      | some v => wpAny (model PP w) A (storeName env x v) (fun _ s₂ => wpAny (model PP w) A (execs body env) (fun f s₃ => match f with
          | .next => ∃ m, m < n ∧ J m s₃
          | .cont => ∃ m, m < n ∧ J m s₃
          | .brk => Qf .next s₃
          | .ret v => Qf (.ret v) s₃) (fun _ _ => False) s₂) (fun _ _ => False) s₁) (fun _ _ => False) s)
    (n : Nat) {s : Shared} (h : I n s) :
    codeAny (model PP w) A (.forLoop (.Name x px) it body [] env) (fun r s' => match r with | .ok f => Qf f s' | .error e => Er e s') s := by
  refine codeAny_forLoop I (fun n s hI => ?_) n h (fun v => rfl)
  refine wpAny_mono (turn I (fun _ _ x => x) n s hI) (fun r s₁ hr => ?_) (fun _ _ q => q.elim)
  cases r with
  | none => exact wpAny_execs_nil hr
  | some v =>
    refine wpAny_assign_Name (wpAny_mono hr (fun _ s₂ h₂ => ?_) (fun _ _ q => q.elim))
    refine wpAny_mono h₂ (fun f s₃ h₃ => ?_) (fun _ _ q => q.elim)
    cases f <;> exact h₃
theorem rWhile {test : Expr} {body rest : List Stmt} {Q : Flow → Shared → Prop} (I : Nat → Shared → Prop)
    (turn : ∀ J : Nat → Shared → Prop, (∀ n s, I n s → J n s) → ∀ n s, I n s → wpAny (model PP w) A (isTrue test env (eval test env)) (fun b s₂ => if b = true then wpAny (model PP w) A (execs body env) (fun f s₃ => match f with
          | .next => ∃ m, m < n ∧ J m s₃
          | .cont => ∃ m, m < n ∧ J m s₃
          | .brk => wpAny (model PP w) A (execs rest env) Q E s₃
          | .ret v => Q (.ret v) s₃) (fun _ _ => False) s₂
        else wpAny (model PP w) A (execs rest env) Q E s₂) (fun _ _ => False) s)
    (n : Nat) (h : I n ⟨hp, gn, dr, tk, os⟩) :
    wpAny (model PP w) A (execs (.While test body [] pos :: rest) env) Q E ⟨hp, gn, dr, tk, os⟩ := by
  refine wpAny_execs_cons (wpAny_While (codeAny_whileLoop I (fun n s hI => ?_) n h))
  refine wpAny_mono (turn I (fun _ _ x => x) n s hI) (fun b s₂ hb => ?_) (fun _ _ q => q.elim)
  cases b with
  | true =>
    rw [if_pos rfl] at hb ⊢
    refine wpAny_mono hb (fun f s₃ h₃ => ?_) (fun _ _ q => q.elim)
    cases f <;> exact h₃
  | false =>
    rw [if_neg (by decide)] at hb ⊢
    exact wpAny_execs_nil hb
theorem FS.dropX {a : Addr} {o : Obj} (F : FS g0 g T L h m ((a, o) :: nw)) (hn : NC o) (kx : Heap.ExtBut a h h') : FS g0 g T L h' m nw := by
  have hm : (a, o) ∈ (a, o) :: nw := .head _
  have nL := F.nL _ hm
  have k : ∀ b ob, b ≠ a → h.get? b = some ob → h'.get? b = some ob := fun b ob hb e => kx b ob hb e
  have ns' : h'.Ns L m := by
    obtain ⟨oL, es, ep, eL, r⟩ := F.ns
    exact ⟨oL, es, ep, k _ _ (Ne.symm nL) eL, r⟩
  have sz : g.objs.size ≤ h'.objs.size := Nat.le_of_lt (Nat.lt_of_le_of_lt F.le (ns_lt ns'))
  have ha0 := F.lo0 hm
  have ht : ∀ t ∈ tabs, t ≠ a := fun t q => Nat.ne_of_lt (Nat.lt_of_lt_of_le (F.ok.lt t q) ha0)
  have hc : ∀ (q : Str), q ≠ "" → ∀ (c : Addr) ob, h.CodeRec (.ref c) q → h.get? c = some ob → h'.get? c = some ob := fun q hq c ob C e =>
    k c ob (CodeRec.ne hq C (F.nws _ hm) hn) e
  refine ⟨⟨Nat.le_trans F.g0g sz, fun b ob e q => k b ob (Nat.ne_of_lt (Nat.lt_of_lt_of_le (Heap.lt_size e) ha0)) (F.ok.kp b ob e q), F.ok.lt, ?_, ?_, ?_⟩, ⟨sz, fun b ob e h1 h2 => k b ob (fun z => ?_) (F.kp.kp b ob e h1 h2)⟩, F.g0g, ns', F.le, fun p hp => k _ _ (fun z => ?_) (F.nws p (.tail _ hp)), fun p hp => F.lo p (.tail _ hp), (List.nodup_cons.mp F.nd).2, fun p hp => F.nL p (.tail _ hp)⟩
  · exact F.ok.t1.keeps (fun ob e => k _ _ (ht _ (by decide)) e) (hc _ (by decide))
  · exact F.ok.t2.keeps (fun ob e => k _ _ (ht _ (by decide)) e) (hc _ (by decide))
  · exact F.ok.t3.keeps (fun ob e => k _ _ (ht _ (by decide)) e) (hc _ (by decide))
  · subst z
    rcases F.lo _ hm with q | q
    · exact absurd (Heap.lt_size e) (Nat.not_lt.mpr q)
    · exact h2 q.1
  · exact (List.nodup_cons.mp F.nd).1 (List.mem_map.mpr ⟨p, hp, z⟩)
theorem rev_nc {o : Obj} {l : Addr} {i : Int} (hd : o.data = .fields #[.ref l, rawInt i]) : NC o := fun vs q t z e => by
  rw [hd] at z
  cases z
  cases e
theorem rRevN {l : Addr} {xs : Array Value} (hl : hp.IsList l xs) (h : Q (.ref hp.objs.size) ⟨hp.push (revObj l ((xs.size : Int) - 1)), gn, dr, tk, os⟩) : wpAny (model PP w) A (call (.type "reversed") [.ref l]) Q E ⟨hp, gn, dr, tk, os⟩ := call_reversed_list hl h
theorem rCT {id : String} {e : Expr} (h : wpAny (model PP w) A (spliced (backTo pos (starEach [e] env))) (fun vs s₁ => wpAny (model PP w) A (call (.type id) vs) Q E s₁) E ⟨hp, gn, dr, tk, os⟩)
    (he : starEach [e] env = (false, eval e env) :: starEach [] env := by rfl) :
    wpAny (model PP w) A (callWith pos (.type id) [] (backTo pos (starEach [e] env)) []) Q E ⟨hp, gn, dr, tk, os⟩ := callWith_type1 h he
end
end Mine

namespace Mine
theorem c_d2i {w : World} {mg mb : Str → Option Value} {g0 : Heap} (G : Gd w mg mb g0) {A : Around} {R : Result → Shared → Prop} {hp : Heap} {gn : Array GenState} {dr : Drawn} {tk0 : Nat} {os : OsState} (k : OK g0 hp) {l : Addr} {vs : List Value} {ds : List Int} {n : Nat} {tk : Tok} (rm : Rm A (ds.length + 10))
  (hl : hp.IsList l vs.toArray) (hi : IntsAre vs ds) (hd : ∀ d ∈ ds, 0 ≤ d ∧ d < 2^n) (hlen : ds.length ≤ 1000) (hn: n ≤ 1000) (hlt : l ∉ tabs)
 (h : ∀ tk' h' tks, OK g0 h' → Kp [] hp h' → R (.ok (.ret (.int (dsum n ds) tk'))) ⟨h', gn, dr, tks, os⟩) : codeAny (model PP w) A (.call (.ref aD2I) ⟨[.ref l, .int n tk], []⟩) R ⟨hp, gn, dr, tk0, os⟩ := by
  refine entC (T := []) (n := ds.length + 9) (binds := [("digits", .ref l), ("n", .int n tk)]) G k rm (k.at0 G rfl) rfl (k.code G rfl) rfl rfl rfl rfl rfl rfl rfl ?_
  intro h₁ tk₁ F hc rm₁ kk
  generalize hLL : hp.objs.size = L at *
  obtain ⟨o1, e1, d1⟩ := hc "digits" (L + 1) rfl
  obtain ⟨o2, e2, d2⟩ := hc "n" (L + 2) rfl
  obtain ⟨o3, e3, d3⟩ := hc "inner" (L + 3) rfl
  have F1 := ((F.add e1 (by (clear hlen hn hlt; omega)) (by simp) (by (clear hlen hn hlt hLL; omega))).add e2 (by (clear hlen hn hlt; omega)) (by simp) (by (clear hlen hn hlt hLL; omega))).add e3 (by (clear hlen hn hlt; omega)) (by simp) (by (clear hlen hn hlt hLL; omega))
  refine rDef rfl rfl rfl ?_
  refine rFn G F1.ok (.inr (.inl ⟨rfl, rfl, rfl⟩)) rfl G.h2 (by decide) rfl rfl rfl ?_
  intro f doc pm cc ctv h₂ tk₂ k₂ K₂ hf hct hcr hfo
  have hLf : L ≤ f := Nat.le_trans (hLL ▸ F1.gsz) hf
  have F2 := (F1.call k₂ K₂).add hfo (Nat.le_trans F1.gsz hf) (F1.fresh hf).1 (F1.fresh hf).2
  refine rSC F2 1 rfl rfl d3 ?_
  intro h₃ o3' d3' S3 F3
  have hcr3 : h₃.CodeRec (.ref cc) qD2I := CodeRec.same hcr (by decide) S3 (fun o e => by rw [F2.at 1 rfl] at e; cases e; intro vs q t z; rw [d3] at z; cases z)
  have hl3 : h₃.IsList l vs.toArray := F3.kp.list hl hlt List.not_mem_nil
  have hfo3 := F3.at 0 rfl
  have hc3 : h₃.IsCell (L + 3) (some (.ref f)) := ⟨_, F3.at 1 rfl, d3'⟩
  have hc2 : h₃.IsCell (L + 2) (some (.int n tk)) := ⟨_, F3.at 2 rfl, d2⟩
  have hc1 : h₃.IsCell (L + 1) (some (.ref l)) := ⟨_, F3.at 3 rfl, d1⟩
  have nt : ∀ a : Addr, L ≤ a → a ∉ tabs := fun a ha => k.nt (Nat.le_trans k.sz (by rw [hLL]; exact ha))
  have inner : ∀ (j Lo Hi : Nat), Hi - Lo ≤ j → Lo < Hi → Hi ≤ ds.length → ∀ (A' : Around) (R' : Result → Shared → Prop) (hp' : Heap) (tk' : Nat) (t1 t2 : Tok), OK g0 hp' → Kp [] h₃ hp' → Rm A' (j + 1) →
      (∀ tk' h' tks, OK g0 h' → Kp [] hp' h' → R' (.ok (.ret (.int (dsum n ((ds.drop Lo).take (Hi - Lo))) tk'))) ⟨h', gn, dr, tks, os⟩) →
      codeAny (model PP w) A' (.call (.ref f) ⟨[.int Lo t1, .int Hi t2], []⟩) R' ⟨hp', gn, dr, tk', os⟩ := by
    intro j
    induction j with
    | zero => intro Lo Hi h1 h2; (clear hlen hn hlt hLL hf hct hLf; omega)
    | succ j ih =>
      intro Lo Hi h1 h2 h3 A' R' hp' tk' t1 t2 k' K' rm' hR
      refine ent (T := []) (n := j + 1) (binds := [("L", .int Lo t1), ("R", .int Hi t2)]) G k' rm' (K'.kp _ _ hfo3 (nt _ hLf) List.not_mem_nil) rfl (K'.codeRec hcr3 hct List.not_mem_nil) rfl rfl rfl rfl rfl rfl rfl ?_
      intro h₄ tk4 F4 rm4 kk4
      have K4 := K'.trans F4.kp
      have cn := K4.cell hc2 (nt _ (by (clear hlen hn hlt hLL hf hct hLf h1 h2 h3; omega))) List.not_mem_nil
      have ci := K4.cell hc3 (nt _ (by (clear hlen hn hlt hLL hf hct hLf h1 h2 h3; omega))) List.not_mem_nil
      have cd := K4.cell hc1 (nt _ (by (clear hlen hn hlt hLL hf hct hLf h1 h2 h3; omega))) List.not_mem_nil
      have hfo4 := K4.kp _ _ hfo3 (nt _ hLf) List.not_mem_nil
      repeat (first | (first | ((with_reducible show wpAny _ _ (execs (Stmt.Assign [Expr.Name _ _] _ _ :: _) _) _ _ _); refine rAs ?_) | with_reducible refine rRet ?_ | with_reducible refine rIf ?_ | with_reducible refine wpAny_BinOp ?_ | with_reducible refine rI ?_ | with_reducible refine rS ?_ | ((with_reducible show wpAny _ _ (eval (Expr.Name _ _) _) _ _ _); refine nL (by assumption) rfl ?_) | ((with_reducible show wpAny _ _ (storeName _ _ _) _ _ _); refine rSt (by assumption) ?_; intro _ _) | ((with_reducible show wpAny _ _ (isTrue (Expr.Compare _ [_] [_] _) _ _) _ _ _); refine wpAny_isTrue_Compare1 ?_) | with_reducible refine wpAny_truthy_bool ?_ | with_reducible refine rEq ?_ | ((with_reducible show wpAny _ _ (eval (Expr.Call _ _ [] _) _) _ _ _); refine Call_ ?_) | ((with_reducible show wpAny _ _ (spliced (backTo _ (starEach (_ :: _) _))) _ _ _); refine spliced_more ?_) | ((with_reducible show wpAny _ _ (spliced (backTo _ (starEach [] _))) _ _ _); refine spliced_none ?_) | with_reducible refine wpAny_IfExp ?_) | (dsimp only; first | ((with_reducible show wpAny _ _ (execs (Stmt.Assign [Expr.Name _ _] _ _ :: _) _) _ _ _); refine rAs ?_) | with_reducible refine rRet ?_ | with_reducible refine rIf ?_ | with_reducible refine wpAny_BinOp ?_ | with_reducible refine rI ?_ | with_reducible refine rS ?_ | ((with_reducible show wpAny _ _ (eval (Expr.Name _ _) _) _ _ _); refine nL (by assumption) rfl ?_) | ((with_reducible show wpAny _ _ (storeName _ _ _) _ _ _); refine rSt (by assumption) ?_; intro _ _) | ((with_reducible show wpAny _ _ (isTrue (Expr.Compare _ [_] [_] _) _ _) _ _ _); refine wpAny_isTrue_Compare1 ?_) | with_reducible refine wpAny_truthy_bool ?_ | with_reducible refine rEq ?_ | ((with_reducible show wpAny _ _ (eval (Expr.Call _ _ [] _) _) _ _ _); refine Call_ ?_) | ((with_reducible show wpAny _ _ (spliced (backTo _ (starEach (_ :: _) _))) _ _ _); refine spliced_more ?_) | ((with_reducible show wpAny _ _ (spliced (backTo _ (starEach [] _))) _ _ _); refine spliced_none ?_) | with_reducible refine wpAny_IfExp ?_))
      refine rAdd (Lo + 1 : Nat) (by (clear hlen hn hlt hLL hf hct hLf h1 h2 h3; omega)) ?_
      repeat (first | (first | ((with_reducible show wpAny _ _ (execs (Stmt.Assign [Expr.Name _ _] _ _ :: _) _) _ _ _); refine rAs ?_) | with_reducible refine rRet ?_ | with_reducible refine rIf ?_ | with_reducible refine wpAny_BinOp ?_ | with_reducible refine rI ?_ | with_reducible refine rS ?_ | ((with_reducible show wpAny _ _ (eval (Expr.Name _ _) _) _ _ _); refine nL (by assumption) rfl ?_) | ((with_reducible show wpAny _ _ (storeName _ _ _) _ _ _); refine rSt (by assumption) ?_; intro _ _) | ((with_reducible show wpAny _ _ (isTrue (Expr.Compare _ [_] [_] _) _ _) _ _ _); refine wpAny_isTrue_Compare1 ?_) | with_reducible refine wpAny_truthy_bool ?_ | with_reducible refine rEq ?_ | ((with_reducible show wpAny _ _ (eval (Expr.Call _ _ [] _) _) _ _ _); refine Call_ ?_) | ((with_reducible show wpAny _ _ (spliced (backTo _ (starEach (_ :: _) _))) _ _ _); refine spliced_more ?_) | ((with_reducible show wpAny _ _ (spliced (backTo _ (starEach [] _))) _ _ _); refine spliced_none ?_) | with_reducible refine wpAny_IfExp ?_) | (dsimp only; first | ((with_reducible show wpAny _ _ (execs (Stmt.Assign [Expr.Name _ _] _ _ :: _) _) _ _ _); refine rAs ?_) | with_reducible refine rRet ?_ | with_reducible refine rIf ?_ | with_reducible refine wpAny_BinOp ?_ | with_reducible refine rI ?_ | with_reducible refine rS ?_ | ((with_reducible show wpAny _ _ (eval (Expr.Name _ _) _) _ _ _); refine nL (by assumption) rfl ?_) | ((with_reducible show wpAny _ _ (storeName _ _ _) _ _ _); refine rSt (by assumption) ?_; intro _ _) | ((with_reducible show wpAny _ _ (isTrue (Expr.Compare _ [_] [_] _) _ _) _ _ _); refine wpAny_isTrue_Compare1 ?_) | with_reducible refine wpAny_truthy_bool ?_ | with_reducible refine rEq ?_ | ((with_reducible show wpAny _ _ (eval (Expr.Call _ _ [] _) _) _ _ _); refine Call_ ?_) | ((with_reducible show wpAny _ _ (spliced (backTo _ (starEach (_ :: _) _))) _ _ _); refine spliced_more ?_) | ((with_reducible show wpAny _ _ (spliced (backTo _ (starEach [] _))) _ _ _); refine spliced_none ?_) | with_reducible refine wpAny_IfExp ?_))
      by_cases hq : Lo + 1 = Hi
      · refine iteT (by simp; (clear hlen hn hlt hLL hf hct hLf h1 h2 h3; omega)) ?_
        repeat (first | (first | ((with_reducible show wpAny _ _ (execs (Stmt.Assign [Expr.Name _ _] _ _ :: _) _) _ _ _); refine rAs ?_) | with_reducible refine rRet ?_ | with_reducible refine rIf ?_ | with_reducible refine wpAny_BinOp ?_ | with_reducible refine rI ?_ | with_reducible refine rS ?_ | ((with_reducible show wpAny _ _ (eval (Expr.Name _ _) _) _ _ _); refine nL (by assumption) rfl ?_) | ((with_reducible show wpAny _ _ (storeName _ _ _) _ _ _); refine rSt (by assumption) ?_; intro _ _) | ((with_reducible show wpAny _ _ (isTrue (Expr.Compare _ [_] [_] _) _ _) _ _ _); refine wpAny_isTrue_Compare1 ?_) | with_reducible refine wpAny_truthy_bool ?_ | with_reducible refine rEq ?_ | ((with_reducible show wpAny _ _ (eval (Expr.Call _ _ [] _) _) _ _ _); refine Call_ ?_) | ((with_reducible show wpAny _ _ (spliced (backTo _ (starEach (_ :: _) _))) _ _ _); refine spliced_more ?_) | ((with_reducible show wpAny _ _ (spliced (backTo _ (starEach [] _))) _ _ _); refine spliced_none ?_) | with_reducible refine wpAny_IfExp ?_) | (dsimp only; first | ((with_reducible show wpAny _ _ (execs (Stmt.Assign [Expr.Name _ _] _ _ :: _) _) _ _ _); refine rAs ?_) | with_reducible refine rRet ?_ | with_reducible refine rIf ?_ | with_reducible refine wpAny_BinOp ?_ | with_reducible refine rI ?_ | with_reducible refine rS ?_ | ((with_reducible show wpAny _ _ (eval (Expr.Name _ _) _) _ _ _); refine nL (by assumption) rfl ?_) | ((with_reducible show wpAny _ _ (storeName _ _ _) _ _ _); refine rSt (by assumption) ?_; intro _ _) | ((with_reducible show wpAny _ _ (isTrue (Expr.Compare _ [_] [_] _) _ _) _ _ _); refine wpAny_isTrue_Compare1 ?_) | with_reducible refine wpAny_truthy_bool ?_ | with_reducible refine rEq ?_ | ((with_reducible show wpAny _ _ (eval (Expr.Call _ _ [] _) _) _ _ _); refine Call_ ?_) | ((with_reducible show wpAny _ _ (spliced (backTo _ (starEach (_ :: _) _))) _ _ _); refine spliced_more ?_) | ((with_reducible show wpAny _ _ (spliced (backTo _ (starEach [] _))) _ _ _); refine spliced_none ?_) | with_reducible refine wpAny_IfExp ?_))
        refine wpAny_Subscript_Name slot_list_getitem.lookup ?_
        refine nF rfl cd ?_
        repeat (first | (first | ((with_reducible show wpAny _ _ (execs (Stmt.Assign [Expr.Name _ _] _ _ :: _) _) _ _ _); refine rAs ?_) | with_reducible refine rRet ?_ | with_reducible refine rIf ?_ | with_reducible refine wpAny_BinOp ?_ | with_reducible refine rI ?_ | with_reducible refine rS ?_ | ((with_reducible show wpAny _ _ (eval (Expr.Name _ _) _) _ _ _); refine nL (by assumption) rfl ?_) | ((with_reducible show wpAny _ _ (storeName _ _ _) _ _ _); refine rSt (by assumption) ?_; intro _ _) | ((with_reducible show wpAny _ _ (isTrue (Expr.Compare _ [_] [_] _) _ _) _ _ _); refine wpAny_isTrue_Compare1 ?_) | with_reducible refine wpAny_truthy_bool ?_ | with_reducible refine rEq ?_ | ((with_reducible show wpAny _ _ (eval (Expr.Call _ _ [] _) _) _ _ _); refine Call_ ?_) | ((with_reducible show wpAny _ _ (spliced (backTo _ (starEach (_ :: _) _))) _ _ _); refine spliced_more ?_) | ((with_reducible show wpAny _ _ (spliced (backTo _ (starEach [] _))) _ _ _); refine spliced_none ?_) | with_reducible refine wpAny_IfExp ?_) | (dsimp only; first | ((with_reducible show wpAny _ _ (execs (Stmt.Assign [Expr.Name _ _] _ _ :: _) _) _ _ _); refine rAs ?_) | with_reducible refine rRet ?_ | with_reducible refine rIf ?_ | with_reducible refine wpAny_BinOp ?_ | with_reducible refine rI ?_ | with_reducible refine rS ?_ | ((with_reducible show wpAny _ _ (eval (Expr.Name _ _) _) _ _ _); refine nL (by assumption) rfl ?_) | ((with_reducible show wpAny _ _ (storeName _ _ _) _ _ _); refine rSt (by assumption) ?_; intro _ _) | ((with_reducible show wpAny _ _ (isTrue (Expr.Compare _ [_] [_] _) _ _) _ _ _); refine wpAny_isTrue_Compare1 ?_) | with_reducible refine wpAny_truthy_bool ?_ | with_reducible refine rEq ?_ | ((with_reducible show wpAny _ _ (eval (Expr.Call _ _ [] _) _) _ _ _); refine Call_ ?_) | ((with_reducible show wpAny _ _ (spliced (backTo _ (starEach (_ :: _) _))) _ _ _); refine spliced_more ?_) | ((with_reducible show wpAny _ _ (spliced (backTo _ (starEach [] _))) _ _ _); refine spliced_none ?_) | with_reducible refine wpAny_IfExp ?_))
        have hl4 := K4.list hl3 hlt List.not_mem_nil
        obtain ⟨tv, ev⟩ := intsAre_get hi (i := Lo) (by (clear hlen hn hlt hLL hf hct hLf h1 h2; omega))
        refine ⟨hl4.typeIs, wpAny_getItem_list hl4 (by (clear hlen hn hlt hLL hf hct hLf h1 h2; omega)) (by (clear hn hlt hLL hf hct hLf h1 h2; omega)) (x := .int ds[Lo] tv) (by simpa using ev) ?_⟩
        have e : Hi - Lo = 1 := by (clear hlen hn hlt hLL hf hct hLf h1 h2; omega)
        have := fun tks => hR tv h₄ tks F4.ok F4.kp
        rw [e, dsum_one n ds (by (clear hlen hn hlt hLL hf hct hLf h1 h2 e; omega))] at this
        exact this _
      · refine iteF (by simp; (clear hlen hn hlt hLL hf hct hLf h1 h2 h3; omega)) ?_
        refine nilNext ?_
        repeat (first | (first | ((with_reducible show wpAny _ _ (execs (Stmt.Assign [Expr.Name _ _] _ _ :: _) _) _ _ _); refine rAs ?_) | with_reducible refine rRet ?_ | with_reducible refine rIf ?_ | with_reducible refine wpAny_BinOp ?_ | with_reducible refine rI ?_ | with_reducible refine rS ?_ | ((with_reducible show wpAny _ _ (eval (Expr.Name _ _) _) _ _ _); refine nL (by assumption) rfl ?_) | ((with_reducible show wpAny _ _ (storeName _ _ _) _ _ _); refine rSt (by assumption) ?_; intro _ _) | ((with_reducible show wpAny _ _ (isTrue (Expr.Compare _ [_] [_] _) _ _) _ _ _); refine wpAny_isTrue_Compare1 ?_) | with_reducible refine wpAny_truthy_bool ?_ | with_reducible refine rEq ?_ | ((with_reducible show wpAny _ _ (eval (Expr.Call _ _ [] _) _) _ _ _); refine Call_ ?_) | ((with_reducible show wpAny _ _ (spliced (backTo _ (starEach (_ :: _) _))) _ _ _); refine spliced_more ?_) | ((with_reducible show wpAny _ _ (spliced (backTo _ (starEach [] _))) _ _ _); refine spliced_none ?_) | with_reducible refine wpAny_IfExp ?_) | (dsimp only; first | ((with_reducible show wpAny _ _ (execs (Stmt.Assign [Expr.Name _ _] _ _ :: _) _) _ _ _); refine rAs ?_) | with_reducible refine rRet ?_ | with_reducible refine rIf ?_ | with_reducible refine wpAny_BinOp ?_ | with_reducible refine rI ?_ | with_reducible refine rS ?_ | ((with_reducible show wpAny _ _ (eval (Expr.Name _ _) _) _ _ _); refine nL (by assumption) rfl ?_) | ((with_reducible show wpAny _ _ (storeName _ _ _) _ _ _); refine rSt (by assumption) ?_; intro _ _) | ((with_reducible show wpAny _ _ (isTrue (Expr.Compare _ [_] [_] _) _ _) _ _ _); refine wpAny_isTrue_Compare1 ?_) | with_reducible refine wpAny_truthy_bool ?_ | with_reducible refine rEq ?_ | ((with_reducible show wpAny _ _ (eval (Expr.Call _ _ [] _) _) _ _ _); refine Call_ ?_) | ((with_reducible show wpAny _ _ (spliced (backTo _ (starEach (_ :: _) _))) _ _ _); refine spliced_more ?_) | ((with_reducible show wpAny _ _ (spliced (backTo _ (starEach [] _))) _ _ _); refine spliced_none ?_) | with_reducible refine wpAny_IfExp ?_))
        refine rAdd (Lo + Hi : Nat) (by (clear hlen hn hlt hLL hf hct hLf h1 h2 h3 hq; omega)) ?_
        repeat (first | (first | ((with_reducible show wpAny _ _ (execs (Stmt.Assign [Expr.Name _ _] _ _ :: _) _) _ _ _); refine rAs ?_) | with_reducible refine rRet ?_ | with_reducible refine rIf ?_ | with_reducible refine wpAny_BinOp ?_ | with_reducible refine rI ?_ | with_reducible refine rS ?_ | ((with_reducible show wpAny _ _ (eval (Expr.Name _ _) _) _ _ _); refine nL (by assumption) rfl ?_) | ((with_reducible show wpAny _ _ (storeName _ _ _) _ _ _); refine rSt (by assumption) ?_; intro _ _) | ((with_reducible show wpAny _ _ (isTrue (Expr.Compare _ [_] [_] _) _ _) _ _ _); refine wpAny_isTrue_Compare1 ?_) | with_reducible refine wpAny_truthy_bool ?_ | with_reducible refine rEq ?_ | ((with_reducible show wpAny _ _ (eval (Expr.Call _ _ [] _) _) _ _ _); refine Call_ ?_) | ((with_reducible show wpAny _ _ (spliced (backTo _ (starEach (_ :: _) _))) _ _ _); refine spliced_more ?_) | ((with_reducible show wpAny _ _ (spliced (backTo _ (starEach [] _))) _ _ _); refine spliced_none ?_) | with_reducible refine wpAny_IfExp ?_) | (dsimp only; first | ((with_reducible show wpAny _ _ (execs (Stmt.Assign [Expr.Name _ _] _ _ :: _) _) _ _ _); refine rAs ?_) | with_reducible refine rRet ?_ | with_reducible refine rIf ?_ | with_reducible refine wpAny_BinOp ?_ | with_reducible refine rI ?_ | with_reducible refine rS ?_ | ((with_reducible show wpAny _ _ (eval (Expr.Name _ _) _) _ _ _); refine nL (by assumption) rfl ?_) | ((with_reducible show wpAny _ _ (storeName _ _ _) _ _ _); refine rSt (by assumption) ?_; intro _ _) | ((with_reducible show wpAny _ _ (isTrue (Expr.Compare _ [_] [_] _) _ _) _ _ _); refine wpAny_isTrue_Compare1 ?_) | with_reducible refine wpAny_truthy_bool ?_ | with_reducible refine rEq ?_ | ((with_reducible show wpAny _ _ (eval (Expr.Call _ _ [] _) _) _ _ _); refine Call_ ?_) | ((with_reducible show wpAny _ _ (spliced (backTo _ (starEach (_ :: _) _))) _ _ _); refine spliced_more ?_) | ((with_reducible show wpAny _ _ (spliced (backTo _ (starEach [] _))) _ _ _); refine spliced_none ?_) | with_reducible refine wpAny_IfExp ?_))
        refine rRsh1 (Lo + Hi) rfl ?_
        generalize hmid : (Lo + Hi) / 2 = mid
        repeat (first | (first | ((with_reducible show wpAny _ _ (execs (Stmt.Assign [Expr.Name _ _] _ _ :: _) _) _ _ _); refine rAs ?_) | with_reducible refine rRet ?_ | with_reducible refine rIf ?_ | with_reducible refine wpAny_BinOp ?_ | with_reducible refine rI ?_ | with_reducible refine rS ?_ | ((with_reducible show wpAny _ _ (eval (Expr.Name _ _) _) _ _ _); refine nL (by assumption) rfl ?_) | ((with_reducible show wpAny _ _ (storeName _ _ _) _ _ _); refine rSt (by assumption) ?_; intro _ _) | ((with_reducible show wpAny _ _ (isTrue (Expr.Compare _ [_] [_] _) _ _) _ _ _); refine wpAny_isTrue_Compare1 ?_) | with_reducible refine wpAny_truthy_bool ?_ | with_reducible refine rEq ?_ | ((with_reducible show wpAny _ _ (eval (Expr.Call _ _ [] _) _) _ _ _); refine Call_ ?_) | ((with_reducible show wpAny _ _ (spliced (backTo _ (starEach (_ :: _) _))) _ _ _); refine spliced_more ?_) | ((with_reducible show wpAny _ _ (spliced (backTo _ (starEach [] _))) _ _ _); refine spliced_none ?_) | with_reducible refine wpAny_IfExp ?_) | (dsimp only; first | ((with_reducible show wpAny _ _ (execs (Stmt.Assign [Expr.Name _ _] _ _ :: _) _) _ _ _); refine rAs ?_) | with_reducible refine rRet ?_ | with_reducible refine rIf ?_ | with_reducible refine wpAny_BinOp ?_ | with_reducible refine rI ?_ | with_reducible refine rS ?_ | ((with_reducible show wpAny _ _ (eval (Expr.Name _ _) _) _ _ _); refine nL (by assumption) rfl ?_) | ((with_reducible show wpAny _ _ (storeName _ _ _) _ _ _); refine rSt (by assumption) ?_; intro _ _) | ((with_reducible show wpAny _ _ (isTrue (Expr.Compare _ [_] [_] _) _ _) _ _ _); refine wpAny_isTrue_Compare1 ?_) | with_reducible refine wpAny_truthy_bool ?_ | with_reducible refine rEq ?_ | ((with_reducible show wpAny _ _ (eval (Expr.Call _ _ [] _) _) _ _ _); refine Call_ ?_) | ((with_reducible show wpAny _ _ (spliced (backTo _ (starEach (_ :: _) _))) _ _ _); refine spliced_more ?_) | ((with_reducible show wpAny _ _ (spliced (backTo _ (starEach [] _))) _ _ _); refine spliced_none ?_) | with_reducible refine wpAny_IfExp ?_))
        refine rSub (mid - Lo : Nat) (by (clear hlen hn hlt hLL hf hct hLf h1 h3 hq; omega)) ?_
        rename_i h5 F5
        have K5 := K'.trans F5.kp
        refine nF rfl (K5.cell hc2 (nt _ (by (clear hlen hn hlt hLL hf hct hLf h1 h2 h3 hq hmid; omega))) List.not_mem_nil) ?_
        refine rMul ((mid - Lo) * n : Nat) (by rw [Int.natCast_mul]) (.inl (bits_nat (Nat.lt_of_le_of_lt (show mid - Lo ≤ 1000 by (clear hn hlt hLL hf hct hLf h1 h2 hq; omega)) (by decide)))) ?_
        repeat (first | (first | ((with_reducible show wpAny _ _ (execs (Stmt.Assign [Expr.Name _ _] _ _ :: _) _) _ _ _); refine rAs ?_) | with_reducible refine rRet ?_ | with_reducible refine rIf ?_ | with_reducible refine wpAny_BinOp ?_ | with_reducible refine rI ?_ | with_reducible refine rS ?_ | ((with_reducible show wpAny _ _ (eval (Expr.Name _ _) _) _ _ _); refine nL (by assumption) rfl ?_) | ((with_reducible show wpAny _ _ (storeName _ _ _) _ _ _); refine rSt (by assumption) ?_; intro _ _) | ((with_reducible show wpAny _ _ (isTrue (Expr.Compare _ [_] [_] _) _ _) _ _ _); refine wpAny_isTrue_Compare1 ?_) | with_reducible refine wpAny_truthy_bool ?_ | with_reducible refine rEq ?_ | ((with_reducible show wpAny _ _ (eval (Expr.Call _ _ [] _) _) _ _ _); refine Call_ ?_) | ((with_reducible show wpAny _ _ (spliced (backTo _ (starEach (_ :: _) _))) _ _ _); refine spliced_more ?_) | ((with_reducible show wpAny _ _ (spliced (backTo _ (starEach [] _))) _ _ _); refine spliced_none ?_) | with_reducible refine wpAny_IfExp ?_) | (dsimp only; first | ((with_reducible show wpAny _ _ (execs (Stmt.Assign [Expr.Name _ _] _ _ :: _) _) _ _ _); refine rAs ?_) | with_reducible refine rRet ?_ | with_reducible refine rIf ?_ | with_reducible refine wpAny_BinOp ?_ | with_reducible refine rI ?_ | with_reducible refine rS ?_ | ((with_reducible show wpAny _ _ (eval (Expr.Name _ _) _) _ _ _); refine nL (by assumption) rfl ?_) | ((with_reducible show wpAny _ _ (storeName _ _ _) _ _ _); refine rSt (by assumption) ?_; intro _ _) | ((with_reducible show wpAny _ _ (isTrue (Expr.Compare _ [_] [_] _) _ _) _ _ _); refine wpAny_isTrue_Compare1 ?_) | with_reducible refine wpAny_truthy_bool ?_ | with_reducible refine rEq ?_ | ((with_reducible show wpAny _ _ (eval (Expr.Call _ _ [] _) _) _ _ _); refine Call_ ?_) | ((with_reducible show wpAny _ _ (spliced (backTo _ (starEach (_ :: _) _))) _ _ _); refine spliced_more ?_) | ((with_reducible show wpAny _ _ (spliced (backTo _ (starEach [] _))) _ _ _); refine spliced_none ?_) | with_reducible refine wpAny_IfExp ?_))
        rename_i h6 F6
        have K6 := K'.trans F6.kp
        refine nF rfl (K6.cell hc3 (nt _ (by (clear hlen hn hlt hLL hf hct hLf h1 h2 h3 hq hmid; omega))) List.not_mem_nil) ?_
        refine rCW (K6.kp _ _ hfo3 (nt _ hLf) List.not_mem_nil) rfl ?_
        repeat (first | (first | ((with_reducible show wpAny _ _ (execs (Stmt.Assign [Expr.Name _ _] _ _ :: _) _) _ _ _); refine rAs ?_) | with_reducible refine rRet ?_ | with_reducible refine rIf ?_ | with_reducible refine wpAny_BinOp ?_ | with_reducible refine rI ?_ | with_reducible refine rS ?_ | ((with_reducible show wpAny _ _ (eval (Expr.Name _ _) _) _ _ _); refine nL (by assumption) rfl ?_) | ((with_reducible show wpAny _ _ (storeName _ _ _) _ _ _); refine rSt (by assumption) ?_; intro _ _) | ((with_reducible show wpAny _ _ (isTrue (Expr.Compare _ [_] [_] _) _ _) _ _ _); refine wpAny_isTrue_Compare1 ?_) | with_reducible refine wpAny_truthy_bool ?_ | with_reducible refine rEq ?_ | ((with_reducible show wpAny _ _ (eval (Expr.Call _ _ [] _) _) _ _ _); refine Call_ ?_) | ((with_reducible show wpAny _ _ (spliced (backTo _ (starEach (_ :: _) _))) _ _ _); refine spliced_more ?_) | ((with_reducible show wpAny _ _ (spliced (backTo _ (starEach [] _))) _ _ _); refine spliced_none ?_) | with_reducible refine wpAny_IfExp ?_) | (dsimp only; first | ((with_reducible show wpAny _ _ (execs (Stmt.Assign [Expr.Name _ _] _ _ :: _) _) _ _ _); refine rAs ?_) | with_reducible refine rRet ?_ | with_reducible refine rIf ?_ | with_reducible refine wpAny_BinOp ?_ | with_reducible refine rI ?_ | with_reducible refine rS ?_ | ((with_reducible show wpAny _ _ (eval (Expr.Name _ _) _) _ _ _); refine nL (by assumption) rfl ?_) | ((with_reducible show wpAny _ _ (storeName _ _ _) _ _ _); refine rSt (by assumption) ?_; intro _ _) | ((with_reducible show wpAny _ _ (isTrue (Expr.Compare _ [_] [_] _) _ _) _ _ _); refine wpAny_isTrue_Compare1 ?_) | with_reducible refine wpAny_truthy_bool ?_ | with_reducible refine rEq ?_ | ((with_reducible show wpAny _ _ (eval (Expr.Call _ _ [] _) _) _ _ _); refine Call_ ?_) | ((with_reducible show wpAny _ _ (spliced (backTo _ (starEach (_ :: _) _))) _ _ _); refine spliced_more ?_) | ((with_reducible show wpAny _ _ (spliced (backTo _ (starEach [] _))) _ _ _); refine spliced_none ?_) | with_reducible refine wpAny_IfExp ?_))
        refine ⟨K6.kp _ _ hfo3 (nt _ hLf) List.not_mem_nil, ?_⟩
        refine ih mid Hi (by (clear hlen hn hlt hLL hf hct hLf h3; omega)) (by (clear hlen hn hlt hLL hf hct hLf h1 h3 hq; omega)) (by (clear hlen hn hlt hLL hf hct hLf h1 h2 hq hmid; omega)) _ _ _ _ _ _ F6.ok K6 rm4 ?_
        intro tk7 h7 tks7 k7 K7
        have F7 := F6.call k7 K7
        have hdm : ∀ d ∈ (ds.drop mid).take (Hi - mid), 0 ≤ d ∧ d < 2 ^ n := fun d hd' => hd d (List.mem_of_mem_drop (List.mem_of_mem_take hd'))
        have hbd := dsum_bound n _ hdm
        have hl7 : ((ds.drop mid).take (Hi - mid)).length = Hi - mid := by rw [List.length_take, List.length_drop]; (clear hlen hn hlt hLL hf hct hLf h1 hq hbd; omega)
        rw [hl7] at hbd
        repeat (first | (first | ((with_reducible show wpAny _ _ (execs (Stmt.Assign [Expr.Name _ _] _ _ :: _) _) _ _ _); refine rAs ?_) | with_reducible refine rRet ?_ | with_reducible refine rIf ?_ | with_reducible refine wpAny_BinOp ?_ | with_reducible refine rI ?_ | with_reducible refine rS ?_ | ((with_reducible show wpAny _ _ (eval (Expr.Name _ _) _) _ _ _); refine nL (by assumption) rfl ?_) | ((with_reducible show wpAny _ _ (storeName _ _ _) _ _ _); refine rSt (by assumption) ?_; intro _ _) | ((with_reducible show wpAny _ _ (isTrue (Expr.Compare _ [_] [_] _) _ _) _ _ _); refine wpAny_isTrue_Compare1 ?_) | with_reducible refine wpAny_truthy_bool ?_ | with_reducible refine rEq ?_ | ((with_reducible show wpAny _ _ (eval (Expr.Call _ _ [] _) _) _ _ _); refine Call_ ?_) | ((with_reducible show wpAny _ _ (spliced (backTo _ (starEach (_ :: _) _))) _ _ _); refine spliced_more ?_) | ((with_reducible show wpAny _ _ (spliced (backTo _ (starEach [] _))) _ _ _); refine spliced_none ?_) | with_reducible refine wpAny_IfExp ?_) | (dsimp only; first | ((with_reducible show wpAny _ _ (execs (Stmt.Assign [Expr.Name _ _] _ _ :: _) _) _ _ _); refine rAs ?_) | with_reducible refine rRet ?_ | with_reducible refine rIf ?_ | with_reducible refine wpAny_BinOp ?_ | with_reducible refine rI ?_ | with_reducible refine rS ?_ | ((with_reducible show wpAny _ _ (eval (Expr.Name _ _) _) _ _ _); refine nL (by assumption) rfl ?_) | ((with_reducible show wpAny _ _ (storeName _ _ _) _ _ _); refine rSt (by assumption) ?_; intro _ _) | ((with_reducible show wpAny _ _ (isTrue (Expr.Compare _ [_] [_] _) _ _) _ _ _); refine wpAny_isTrue_Compare1 ?_) | with_reducible refine wpAny_truthy_bool ?_ | with_reducible refine rEq ?_ | ((with_reducible show wpAny _ _ (eval (Expr.Call _ _ [] _) _) _ _ _); refine Call_ ?_) | ((with_reducible show wpAny _ _ (spliced (backTo _ (starEach (_ :: _) _))) _ _ _); refine spliced_more ?_) | ((with_reducible show wpAny _ _ (spliced (backTo _ (starEach [] _))) _ _ _); refine spliced_none ?_) | with_reducible refine wpAny_IfExp ?_))
        refine rLsh ((mid - Lo) * n) _ rfl rfl rm4.hd ?_ ?_
        · have q1 := bits_lt hbd.1 hbd.2
          have q2 : n * (Hi - mid) ≤ 1000 * 1000 := Nat.mul_le_mul hn (by (clear hn hlt hLL hf hct hLf h1 hq hmid hbd hl7 q1; omega))
          have q3 : (mid - Lo) * n ≤ 1000 * 1000 := Nat.mul_le_mul (by (clear hn hlt hLL hf hct hLf h1 hq hbd hl7 q1 q2; omega)) hn
          (clear hlen hn hlt hLL hf hct hLf h1 h2 h3 hq hmid hbd hl7; omega)
        have K8 := K'.trans F7.kp
        repeat (first | (first | ((with_reducible show wpAny _ _ (execs (Stmt.Assign [Expr.Name _ _] _ _ :: _) _) _ _ _); refine rAs ?_) | with_reducible refine rRet ?_ | with_reducible refine rIf ?_ | with_reducible refine wpAny_BinOp ?_ | with_reducible refine rI ?_ | with_reducible refine rS ?_ | ((with_reducible show wpAny _ _ (eval (Expr.Name _ _) _) _ _ _); refine nL (by assumption) rfl ?_) | ((with_reducible show wpAny _ _ (storeName _ _ _) _ _ _); refine rSt (by assumption) ?_; intro _ _) | ((with_reducible show wpAny _ _ (isTrue (Expr.Compare _ [_] [_] _) _ _) _ _ _); refine wpAny_isTrue_Compare1 ?_) | with_reducible refine wpAny_truthy_bool ?_ | with_reducible refine rEq ?_ | ((with_reducible show wpAny _ _ (eval (Expr.Call _ _ [] _) _) _ _ _); refine Call_ ?_) | ((with_reducible show wpAny _ _ (spliced (backTo _ (starEach (_ :: _) _))) _ _ _); refine spliced_more ?_) | ((with_reducible show wpAny _ _ (spliced (backTo _ (starEach [] _))) _ _ _); refine spliced_none ?_) | with_reducible refine wpAny_IfExp ?_) | (dsimp only; first | ((with_reducible show wpAny _ _ (execs (Stmt.Assign [Expr.Name _ _] _ _ :: _) _) _ _ _); refine rAs ?_) | with_reducible refine rRet ?_ | with_reducible refine rIf ?_ | with_reducible refine wpAny_BinOp ?_ | with_reducible refine rI ?_ | with_reducible refine rS ?_ | ((with_reducible show wpAny _ _ (eval (Expr.Name _ _) _) _ _ _); refine nL (by assumption) rfl ?_) | ((with_reducible show wpAny _ _ (storeName _ _ _) _ _ _); refine rSt (by assumption) ?_; intro _ _) | ((with_reducible show wpAny _ _ (isTrue (Expr.Compare _ [_] [_] _) _ _) _ _ _); refine wpAny_isTrue_Compare1 ?_) | with_reducible refine wpAny_truthy_bool ?_ | with_reducible refine rEq ?_ | ((with_reducible show wpAny _ _ (eval (Expr.Call _ _ [] _) _) _ _ _); refine Call_ ?_) | ((with_reducible show wpAny _ _ (spliced (backTo _ (starEach (_ :: _) _))) _ _ _); refine spliced_more ?_) | ((with_reducible show wpAny _ _ (spliced (backTo _ (starEach [] _))) _ _ _); refine spliced_none ?_) | with_reducible refine wpAny_IfExp ?_))
        refine nF rfl (K8.cell hc3 (nt _ (by (clear hlen hn hlt hLL hf hct hLf h1 h2 h3 hq hmid hbd hl7; omega))) List.not_mem_nil) ?_
        refine rCW (K8.kp _ _ hfo3 (nt _ hLf) List.not_mem_nil) rfl ?_
        repeat (first | (first | ((with_reducible show wpAny _ _ (execs (Stmt.Assign [Expr.Name _ _] _ _ :: _) _) _ _ _); refine rAs ?_) | with_reducible refine rRet ?_ | with_reducible refine rIf ?_ | with_reducible refine wpAny_BinOp ?_ | with_reducible refine rI ?_ | with_reducible refine rS ?_ | ((with_reducible show wpAny _ _ (eval (Expr.Name _ _) _) _ _ _); refine nL (by assumption) rfl ?_) | ((with_reducible show wpAny _ _ (storeName _ _ _) _ _ _); refine rSt (by assumption) ?_; intro _ _) | ((with_reducible show wpAny _ _ (isTrue (Expr.Compare _ [_] [_] _) _ _) _ _ _); refine wpAny_isTrue_Compare1 ?_) | with_reducible refine wpAny_truthy_bool ?_ | with_reducible refine rEq ?_ | ((with_reducible show wpAny _ _ (eval (Expr.Call _ _ [] _) _) _ _ _); refine Call_ ?_) | ((with_reducible show wpAny _ _ (spliced (backTo _ (starEach (_ :: _) _))) _ _ _); refine spliced_more ?_) | ((with_reducible show wpAny _ _ (spliced (backTo _ (starEach [] _))) _ _ _); refine spliced_none ?_) | with_reducible refine wpAny_IfExp ?_) | (dsimp only; first | ((with_reducible show wpAny _ _ (execs (Stmt.Assign [Expr.Name _ _] _ _ :: _) _) _ _ _); refine rAs ?_) | with_reducible refine rRet ?_ | with_reducible refine rIf ?_ | with_reducible refine wpAny_BinOp ?_ | with_reducible refine rI ?_ | with_reducible refine rS ?_ | ((with_reducible show wpAny _ _ (eval (Expr.Name _ _) _) _ _ _); refine nL (by assumption) rfl ?_) | ((with_reducible show wpAny _ _ (storeName _ _ _) _ _ _); refine rSt (by assumption) ?_; intro _ _) | ((with_reducible show wpAny _ _ (isTrue (Expr.Compare _ [_] [_] _) _ _) _ _ _); refine wpAny_isTrue_Compare1 ?_) | with_reducible refine wpAny_truthy_bool ?_ | with_reducible refine rEq ?_ | ((with_reducible show wpAny _ _ (eval (Expr.Call _ _ [] _) _) _ _ _); refine Call_ ?_) | ((with_reducible show wpAny _ _ (spliced (backTo _ (starEach (_ :: _) _))) _ _ _); refine spliced_more ?_) | ((with_reducible show wpAny _ _ (spliced (backTo _ (starEach [] _))) _ _ _); refine spliced_none ?_) | with_reducible refine wpAny_IfExp ?_))
        refine ⟨K8.kp _ _ hfo3 (nt _ hLf) List.not_mem_nil, ?_⟩
        refine ih Lo mid (by (clear hn hlt hLL hf hct hLf hbd hl7; omega)) (by (clear hlen hn hlt hLL hf hct hLf h1 h3 hbd hl7; omega)) (by (clear hlen hn hlt hLL hf hct hLf h1 hq hbd hl7; omega)) _ _ _ _ _ _ F7.ok K8 rm4 ?_
        intro tk9 h9 tks9 k9 K9
        have F9 := F7.call k9 K9
        refine rAdd _ (dsum_mid n ds (by (clear hlen hn hlt hLL hf hct hLf h1 h3 hq hbd hl7; omega)) (by (clear hlen hn hlt hLL hf hct hLf h1 h3 hq hbd hl7; omega)) h3) ?_
        exact hR _ h9 _ F9.ok F9.kp
  repeat (first | (first | ((with_reducible show wpAny _ _ (execs (Stmt.Assign [Expr.Name _ _] _ _ :: _) _) _ _ _); refine rAs ?_) | with_reducible refine rRet ?_ | with_reducible refine rIf ?_ | with_reducible refine wpAny_BinOp ?_ | with_reducible refine rI ?_ | with_reducible refine rS ?_ | ((with_reducible show wpAny _ _ (eval (Expr.Name _ _) _) _ _ _); refine nL (by assumption) rfl ?_) | ((with_reducible show wpAny _ _ (storeName _ _ _) _ _ _); refine rSt (by assumption) ?_; intro _ _) | ((with_reducible show wpAny _ _ (isTrue (Expr.Compare _ [_] [_] _) _ _) _ _ _); refine wpAny_isTrue_Compare1 ?_) | with_reducible refine wpAny_truthy_bool ?_ | with_reducible refine rEq ?_ | ((with_reducible show wpAny _ _ (eval (Expr.Call _ _ [] _) _) _ _ _); refine Call_ ?_) | ((with_reducible show wpAny _ _ (spliced (backTo _ (starEach (_ :: _) _))) _ _ _); refine spliced_more ?_) | ((with_reducible show wpAny _ _ (spliced (backTo _ (starEach [] _))) _ _ _); refine spliced_none ?_) | with_reducible refine wpAny_IfExp ?_) | (dsimp only; first | ((with_reducible show wpAny _ _ (execs (Stmt.Assign [Expr.Name _ _] _ _ :: _) _) _ _ _); refine rAs ?_) | with_reducible refine rRet ?_ | with_reducible refine rIf ?_ | with_reducible refine wpAny_BinOp ?_ | with_reducible refine rI ?_ | with_reducible refine rS ?_ | ((with_reducible show wpAny _ _ (eval (Expr.Name _ _) _) _ _ _); refine nL (by assumption) rfl ?_) | ((with_reducible show wpAny _ _ (storeName _ _ _) _ _ _); refine rSt (by assumption) ?_; intro _ _) | ((with_reducible show wpAny _ _ (isTrue (Expr.Compare _ [_] [_] _) _ _) _ _ _); refine wpAny_isTrue_Compare1 ?_) | with_reducible refine wpAny_truthy_bool ?_ | with_reducible refine rEq ?_ | ((with_reducible show wpAny _ _ (eval (Expr.Call _ _ [] _) _) _ _ _); refine Call_ ?_) | ((with_reducible show wpAny _ _ (spliced (backTo _ (starEach (_ :: _) _))) _ _ _); refine spliced_more ?_) | ((with_reducible show wpAny _ _ (spliced (backTo _ (starEach [] _))) _ _ _); refine spliced_none ?_) | with_reducible refine wpAny_IfExp ?_))
  refine isTrue_plain ?_
  refine nC rfl hc1 ?_
  refine wpAny_truthy_list hl3 (by have := hi.length; simp; (clear hn hlt hLL hf hct hLf; omega)) ?_
  have hvl : vs.length = ds.length := hi.length
  cases ds with
  | nil =>
    obtain rfl := hi.nil_inv
    refine iteF (by simp) ?_
    dsimp only
    repeat (first | (first | ((with_reducible show wpAny _ _ (execs (Stmt.Assign [Expr.Name _ _] _ _ :: _) _) _ _ _); refine rAs ?_) | with_reducible refine rRet ?_ | with_reducible refine rIf ?_ | with_reducible refine wpAny_BinOp ?_ | with_reducible refine rI ?_ | with_reducible refine rS ?_ | ((with_reducible show wpAny _ _ (eval (Expr.Name _ _) _) _ _ _); refine nL (by assumption) rfl ?_) | ((with_reducible show wpAny _ _ (storeName _ _ _) _ _ _); refine rSt (by assumption) ?_; intro _ _) | ((with_reducible show wpAny _ _ (isTrue (Expr.Compare _ [_] [_] _) _ _) _ _ _); refine wpAny_isTrue_Compare1 ?_) | with_reducible refine wpAny_truthy_bool ?_ | with_reducible refine rEq ?_ | ((with_reducible show wpAny _ _ (eval (Expr.Call _ _ [] _) _) _ _ _); refine Call_ ?_) | ((with_reducible show wpAny _ _ (spliced (backTo _ (starEach (_ :: _) _))) _ _ _); refine spliced_more ?_) | ((with_reducible show wpAny _ _ (spliced (backTo _ (starEach [] _))) _ _ _); refine spliced_none ?_) | with_reducible refine wpAny_IfExp ?_) | (dsimp only; first | ((with_reducible show wpAny _ _ (execs (Stmt.Assign [Expr.Name _ _] _ _ :: _) _) _ _ _); refine rAs ?_) | with_reducible refine rRet ?_ | with_reducible refine rIf ?_ | with_reducible refine wpAny_BinOp ?_ | with_reducible refine rI ?_ | with_reducible refine rS ?_ | ((with_reducible show wpAny _ _ (eval (Expr.Name _ _) _) _ _ _); refine nL (by assumption) rfl ?_) | ((with_reducible show wpAny _ _ (storeName _ _ _) _ _ _); refine rSt (by assumption) ?_; intro _ _) | ((with_reducible show wpAny _ _ (isTrue (Expr.Compare _ [_] [_] _) _ _) _ _ _); refine wpAny_isTrue_Compare1 ?_) | with_reducible refine wpAny_truthy_bool ?_ | with_reducible refine rEq ?_ | ((with_reducible show wpAny _ _ (eval (Expr.Call _ _ [] _) _) _ _ _); refine Call_ ?_) | ((with_reducible show wpAny _ _ (spliced (backTo _ (starEach (_ :: _) _))) _ _ _); refine spliced_more ?_) | ((with_reducible show wpAny _ _ (spliced (backTo _ (starEach [] _))) _ _ _); refine spliced_none ?_) | with_reducible refine wpAny_IfExp ?_))
    exact h _ _ _ F3.ok F3.kp
  | cons d ds' =>
    refine iteT (by cases vs with | nil => simp at hvl | cons => simp) ?_
    dsimp only
    repeat (first | (first | ((with_reducible show wpAny _ _ (execs (Stmt.Assign [Expr.Name _ _] _ _ :: _) _) _ _ _); refine rAs ?_) | with_reducible refine rRet ?_ | with_reducible refine rIf ?_ | with_reducible refine wpAny_BinOp ?_ | with_reducible refine rI ?_ | with_reducible refine rS ?_ | ((with_reducible show wpAny _ _ (eval (Expr.Name _ _) _) _ _ _); refine nL (by assumption) rfl ?_) | ((with_reducible show wpAny _ _ (storeName _ _ _) _ _ _); refine rSt (by assumption) ?_; intro _ _) | ((with_reducible show wpAny _ _ (isTrue (Expr.Compare _ [_] [_] _) _ _) _ _ _); refine wpAny_isTrue_Compare1 ?_) | with_reducible refine wpAny_truthy_bool ?_ | with_reducible refine rEq ?_ | ((with_reducible show wpAny _ _ (eval (Expr.Call _ _ [] _) _) _ _ _); refine Call_ ?_) | ((with_reducible show wpAny _ _ (spliced (backTo _ (starEach (_ :: _) _))) _ _ _); refine spliced_more ?_) | ((with_reducible show wpAny _ _ (spliced (backTo _ (starEach [] _))) _ _ _); refine spliced_none ?_) | with_reducible refine wpAny_IfExp ?_) | (dsimp only; first | ((with_reducible show wpAny _ _ (execs (Stmt.Assign [Expr.Name _ _] _ _ :: _) _) _ _ _); refine rAs ?_) | with_reducible refine rRet ?_ | with_reducible refine rIf ?_ | with_reducible refine wpAny_BinOp ?_ | with_reducible refine rI ?_ | with_reducible refine rS ?_ | ((with_reducible show wpAny _ _ (eval (Expr.Name _ _) _) _ _ _); refine nL (by assumption) rfl ?_) | ((with_reducible show wpAny _ _ (storeName _ _ _) _ _ _); refine rSt (by assumption) ?_; intro _ _) | ((with_reducible show wpAny _ _ (isTrue (Expr.Compare _ [_] [_] _) _ _) _ _ _); refine wpAny_isTrue_Compare1 ?_) | with_reducible refine wpAny_truthy_bool ?_ | with_reducible refine rEq ?_ | ((with_reducible show wpAny _ _ (eval (Expr.Call _ _ [] _) _) _ _ _); refine Call_ ?_) | ((with_reducible show wpAny _ _ (spliced (backTo _ (starEach (_ :: _) _))) _ _ _); refine spliced_more ?_) | ((with_reducible show wpAny _ _ (spliced (backTo _ (starEach [] _))) _ _ _); refine spliced_none ?_) | with_reducible refine wpAny_IfExp ?_))
    refine nC rfl hc3 ?_
    refine rCW hfo3 rfl ?_
    repeat (first | (first | ((with_reducible show wpAny _ _ (execs (Stmt.Assign [Expr.Name _ _] _ _ :: _) _) _ _ _); refine rAs ?_) | with_reducible refine rRet ?_ | with_reducible refine rIf ?_ | with_reducible refine wpAny_BinOp ?_ | with_reducible refine rI ?_ | with_reducible refine rS ?_ | ((with_reducible show wpAny _ _ (eval (Expr.Name _ _) _) _ _ _); refine nL (by assumption) rfl ?_) | ((with_reducible show wpAny _ _ (storeName _ _ _) _ _ _); refine rSt (by assumption) ?_; intro _ _) | ((with_reducible show wpAny _ _ (isTrue (Expr.Compare _ [_] [_] _) _ _) _ _ _); refine wpAny_isTrue_Compare1 ?_) | with_reducible refine wpAny_truthy_bool ?_ | with_reducible refine rEq ?_ | ((with_reducible show wpAny _ _ (eval (Expr.Call _ _ [] _) _) _ _ _); refine Call_ ?_) | ((with_reducible show wpAny _ _ (spliced (backTo _ (starEach (_ :: _) _))) _ _ _); refine spliced_more ?_) | ((with_reducible show wpAny _ _ (spliced (backTo _ (starEach [] _))) _ _ _); refine spliced_none ?_) | with_reducible refine wpAny_IfExp ?_) | (dsimp only; first | ((with_reducible show wpAny _ _ (execs (Stmt.Assign [Expr.Name _ _] _ _ :: _) _) _ _ _); refine rAs ?_) | with_reducible refine rRet ?_ | with_reducible refine rIf ?_ | with_reducible refine wpAny_BinOp ?_ | with_reducible refine rI ?_ | with_reducible refine rS ?_ | ((with_reducible show wpAny _ _ (eval (Expr.Name _ _) _) _ _ _); refine nL (by assumption) rfl ?_) | ((with_reducible show wpAny _ _ (storeName _ _ _) _ _ _); refine rSt (by assumption) ?_; intro _ _) | ((with_reducible show wpAny _ _ (isTrue (Expr.Compare _ [_] [_] _) _ _) _ _ _); refine wpAny_isTrue_Compare1 ?_) | with_reducible refine wpAny_truthy_bool ?_ | with_reducible refine rEq ?_ | ((with_reducible show wpAny _ _ (eval (Expr.Call _ _ [] _) _) _ _ _); refine Call_ ?_) | ((with_reducible show wpAny _ _ (spliced (backTo _ (starEach (_ :: _) _))) _ _ _); refine spliced_more ?_) | ((with_reducible show wpAny _ _ (spliced (backTo _ (starEach [] _))) _ _ _); refine spliced_none ?_) | with_reducible refine wpAny_IfExp ?_))
    refine nB G F3 rfl rfl ?_
    refine PyProof.Rows.callWith_builtin1 ?_
    repeat (first | (first | ((with_reducible show wpAny _ _ (execs (Stmt.Assign [Expr.Name _ _] _ _ :: _) _) _ _ _); refine rAs ?_) | with_reducible refine rRet ?_ | with_reducible refine rIf ?_ | with_reducible refine wpAny_BinOp ?_ | with_reducible refine rI ?_ | with_reducible refine rS ?_ | ((with_reducible show wpAny _ _ (eval (Expr.Name _ _) _) _ _ _); refine nL (by assumption) rfl ?_) | ((with_reducible show wpAny _ _ (storeName _ _ _) _ _ _); refine rSt (by assumption) ?_; intro _ _) | ((with_reducible show wpAny _ _ (isTrue (Expr.Compare _ [_] [_] _) _ _) _ _ _); refine wpAny_isTrue_Compare1 ?_) | with_reducible refine wpAny_truthy_bool ?_ | with_reducible refine rEq ?_ | ((with_reducible show wpAny _ _ (eval (Expr.Call _ _ [] _) _) _ _ _); refine Call_ ?_) | ((with_reducible show wpAny _ _ (spliced (backTo _ (starEach (_ :: _) _))) _ _ _); refine spliced_more ?_) | ((with_reducible show wpAny _ _ (spliced (backTo _ (starEach [] _))) _ _ _); refine spliced_none ?_) | with_reducible refine wpAny_IfExp ?_) | (dsimp only; first | ((with_reducible show wpAny _ _ (execs (Stmt.Assign [Expr.Name _ _] _ _ :: _) _) _ _ _); refine rAs ?_) | with_reducible refine rRet ?_ | with_reducible refine rIf ?_ | with_reducible refine wpAny_BinOp ?_ | with_reducible refine rI ?_ | with_reducible refine rS ?_ | ((with_reducible show wpAny _ _ (eval (Expr.Name _ _) _) _ _ _); refine nL (by assumption) rfl ?_) | ((with_reducible show wpAny _ _ (storeName _ _ _) _ _ _); refine rSt (by assumption) ?_; intro _ _) | ((with_reducible show wpAny _ _ (isTrue (Expr.Compare _ [_] [_] _) _ _) _ _ _); refine wpAny_isTrue_Compare1 ?_) | with_reducible refine wpAny_truthy_bool ?_ | with_reducible refine rEq ?_ | ((with_reducible show wpAny _ _ (eval (Expr.Call _ _ [] _) _) _ _ _); refine Call_ ?_) | ((with_reducible show wpAny _ _ (spliced (backTo _ (starEach (_ :: _) _))) _ _ _); refine spliced_more ?_) | ((with_reducible show wpAny _ _ (spliced (backTo _ (starEach [] _))) _ _ _); refine spliced_none ?_) | with_reducible refine wpAny_IfExp ?_))
    refine nC rfl hc1 ?_
    repeat (first | (first | ((with_reducible show wpAny _ _ (execs (Stmt.Assign [Expr.Name _ _] _ _ :: _) _) _ _ _); refine rAs ?_) | with_reducible refine rRet ?_ | with_reducible refine rIf ?_ | with_reducible refine wpAny_BinOp ?_ | with_reducible refine rI ?_ | with_reducible refine rS ?_ | ((with_reducible show wpAny _ _ (eval (Expr.Name _ _) _) _ _ _); refine nL (by assumption) rfl ?_) | ((with_reducible show wpAny _ _ (storeName _ _ _) _ _ _); refine rSt (by assumption) ?_; intro _ _) | ((with_reducible show wpAny _ _ (isTrue (Expr.Compare _ [_] [_] _) _ _) _ _ _); refine wpAny_isTrue_Compare1 ?_) | with_reducible refine wpAny_truthy_bool ?_ | with_reducible refine rEq ?_ | ((with_reducible show wpAny _ _ (eval (Expr.Call _ _ [] _) _) _ _ _); refine Call_ ?_) | ((with_reducible show wpAny _ _ (spliced (backTo _ (starEach (_ :: _) _))) _ _ _); refine spliced_more ?_) | ((with_reducible show wpAny _ _ (spliced (backTo _ (starEach [] _))) _ _ _); refine spliced_none ?_) | with_reducible refine wpAny_IfExp ?_) | (dsimp only; first | ((with_reducible show wpAny _ _ (execs (Stmt.Assign [Expr.Name _ _] _ _ :: _) _) _ _ _); refine rAs ?_) | with_reducible refine rRet ?_ | with_reducible refine rIf ?_ | with_reducible refine wpAny_BinOp ?_ | with_reducible refine rI ?_ | with_reducible refine rS ?_ | ((with_reducible show wpAny _ _ (eval (Expr.Name _ _) _) _ _ _); refine nL (by assumption) rfl ?_) | ((with_reducible show wpAny _ _ (storeName _ _ _) _ _ _); refine rSt (by assumption) ?_; intro _ _) | ((with_reducible show wpAny _ _ (isTrue (Expr.Compare _ [_] [_] _) _ _) _ _ _); refine wpAny_isTrue_Compare1 ?_) | with_reducible refine wpAny_truthy_bool ?_ | with_reducible refine rEq ?_ | ((with_reducible show wpAny _ _ (eval (Expr.Call _ _ [] _) _) _ _ _); refine Call_ ?_) | ((with_reducible show wpAny _ _ (spliced (backTo _ (starEach (_ :: _) _))) _ _ _); refine spliced_more ?_) | ((with_reducible show wpAny _ _ (spliced (backTo _ (starEach [] _))) _ _ _); refine spliced_none ?_) | with_reducible refine wpAny_IfExp ?_))
    refine len_list hl3 (by simp; simp at hlen hvl; (clear hn hlt hLL hf hct hLf; omega)) ?_
    dsimp only
    repeat (first | (first | ((with_reducible show wpAny _ _ (execs (Stmt.Assign [Expr.Name _ _] _ _ :: _) _) _ _ _); refine rAs ?_) | with_reducible refine rRet ?_ | with_reducible refine rIf ?_ | with_reducible refine wpAny_BinOp ?_ | with_reducible refine rI ?_ | with_reducible refine rS ?_ | ((with_reducible show wpAny _ _ (eval (Expr.Name _ _) _) _ _ _); refine nL (by assumption) rfl ?_) | ((with_reducible show wpAny _ _ (storeName _ _ _) _ _ _); refine rSt (by assumption) ?_; intro _ _) | ((with_reducible show wpAny _ _ (isTrue (Expr.Compare _ [_] [_] _) _ _) _ _ _); refine wpAny_isTrue_Compare1 ?_) | with_reducible refine wpAny_truthy_bool ?_ | with_reducible refine rEq ?_ | ((with_reducible show wpAny _ _ (eval (Expr.Call _ _ [] _) _) _ _ _); refine Call_ ?_) | ((with_reducible show wpAny _ _ (spliced (backTo _ (starEach (_ :: _) _))) _ _ _); refine spliced_more ?_) | ((with_reducible show wpAny _ _ (spliced (backTo _ (starEach [] _))) _ _ _); refine spliced_none ?_) | with_reducible refine wpAny_IfExp ?_) | (dsimp only; first | ((with_reducible show wpAny _ _ (execs (Stmt.Assign [Expr.Name _ _] _ _ :: _) _) _ _ _); refine rAs ?_) | with_reducible refine rRet ?_ | with_reducible refine rIf ?_ | with_reducible refine wpAny_BinOp ?_ | with_reducible refine rI ?_ | with_reducible refine rS ?_ | ((with_reducible show wpAny _ _ (eval (Expr.Name _ _) _) _ _ _); refine nL (by assumption) rfl ?_) | ((with_reducible show wpAny _ _ (storeName _ _ _) _ _ _); refine rSt (by assumption) ?_; intro _ _) | ((with_reducible show wpAny _ _ (isTrue (Expr.Compare _ [_] [_] _) _ _) _ _ _); refine wpAny_isTrue_Compare1 ?_) | with_reducible refine wpAny_truthy_bool ?_ | with_reducible refine rEq ?_ | ((with_reducible show wpAny _ _ (eval (Expr.Call _ _ [] _) _) _ _ _); refine Call_ ?_) | ((with_reducible show wpAny _ _ (spliced (backTo _ (starEach (_ :: _) _))) _ _ _); refine spliced_more ?_) | ((with_reducible show wpAny _ _ (spliced (backTo _ (starEach [] _))) _ _ _); refine spliced_none ?_) | with_reducible refine wpAny_IfExp ?_))
    refine ⟨hfo3, ?_⟩
    have e : ((vs.toArray.size : Nat) : Int) = (((d :: ds').length : Nat) : Int) := by simp [hvl]
    rw [e]
    refine inner (ds'.length + 1) 0 (ds'.length + 1) (by (clear hn hlt hLL hf hct hLf hlen hvl e; omega)) (by (clear hn hlt hLL hf hct hLf hlen hvl e; omega)) (by simp) _ _ _ _ _ _ F3.ok Kp.refl (rm₁.le (by simp)) ?_
    intro tk9 h9 tks9 k9 K9
    have F9 := F3.call k9 K9
    have := fun tks => h tk9 h9 tks F9.ok F9.kp
    rw [List.drop_zero, Nat.sub_zero, List.take_of_length_le (by simp)]
    exact this _
end Mine

namespace Mine
abbrev cnt (n x : Nat) : Nat := (Builtin.Int.intBits (x : Int) + n - 1) / n
theorem c_i2d {w : World} {mg mb : Str → Option Value} {g0 : Heap} (G : Gd w mg mb g0) {A : Around} {R : Result → Shared → Prop} {hp : Heap} {gn : Array GenState} {dr : Drawn} {tk0 : Nat} {os : OsState} (k : OK g0 hp) {x n : Nat} {tx tk : Tok} (rm : Rm A (cnt n x + 10))
  (hn0 : 0 < n) (hn : n ≤ 1000) (hc : cnt n x ≤ 1000)
 (h : ∀ l vs h' tks, OK g0 h' → Kp [] hp h' → hp.objs.size ≤ l → h'.IsList l vs.toArray → IntsAre vs (digs n (cnt n x) x) → R (.ok (.ret (.ref l))) ⟨h', gn, dr, tks, os⟩) : codeAny (model PP w) A (.call (.ref aI2D) ⟨[.int x tx, .int n tk], []⟩) R ⟨hp, gn, dr, tk0, os⟩ := by
  refine entC (T := []) (n := cnt n x + 9) (binds := [("a", .int x tx), ("n", .int n tk)]) G k rm (k.at0 G rfl) rfl (k.code G rfl) rfl rfl rfl rfl rfl rfl rfl ?_
  intro h₁ tk₁ F hc' rm₁ kk
  generalize hLL : hp.objs.size = L at *
  generalize hcc : cnt n x = c at *
  obtain ⟨o1, e1, d1⟩ := hc' "n" (L + 1) rfl
  obtain ⟨o2, e2, d2⟩ := hc' "a_digits" (L + 2) rfl
  obtain ⟨o3, e3, d3⟩ := hc' "inner" (L + 3) rfl
  have F1 := ((F.add e1 (by (clear hn0 hn hcc hc; omega)) (by simp) (by (clear hn0 hn hLL hcc hc; omega))).add e2 (by (clear hn0 hn hcc hc; omega)) (by simp) (by (clear hn0 hn hLL hcc hc; omega))).add e3 (by (clear hn0 hn hcc hc; omega)) (by simp) (by (clear hn0 hn hLL hcc hc; omega))
  refine rAs ?_
  repeat (first | (first | ((with_reducible show wpAny _ _ (execs (Stmt.Assign [Expr.Name _ _] _ _ :: _) _) _ _ _); refine rAs ?_) | with_reducible refine rRet ?_ | with_reducible refine rIf ?_ | with_reducible refine wpAny_BinOp ?_ | with_reducible refine rI ?_ | with_reducible refine rS ?_ | ((with_reducible show wpAny _ _ (eval (Expr.Name _ _) _) _ _ _); refine nL (by assumption) rfl ?_) | ((with_reducible show wpAny _ _ (storeName _ _ _) _ _ _); refine rSt (by assumption) ?_; intro _ _) | ((with_reducible show wpAny _ _ (isTrue (Expr.Compare _ [_] [_] _) _ _) _ _ _); refine wpAny_isTrue_Compare1 ?_) | with_reducible refine wpAny_truthy_bool ?_ | with_reducible refine rEq ?_ | ((with_reducible show wpAny _ _ (eval (Expr.Call _ _ [] _) _) _ _ _); refine Call_ ?_) | ((with_reducible show wpAny _ _ (spliced (backTo _ (starEach (_ :: _) _))) _ _ _); refine spliced_more ?_) | ((with_reducible show wpAny _ _ (spliced (backTo _ (starEach [] _))) _ _ _); refine spliced_none ?_) | with_reducible refine wpAny_IfExp ?_) | (dsimp only; first | ((with_reducible show wpAny _ _ (execs (Stmt.Assign [Expr.Name _ _] _ _ :: _) _) _ _ _); refine rAs ?_) | with_reducible refine rRet ?_ | with_reducible refine rIf ?_ | with_reducible refine wpAny_BinOp ?_ | with_reducible refine rI ?_ | with_reducible refine rS ?_ | ((with_reducible show wpAny _ _ (eval (Expr.Name _ _) _) _ _ _); refine nL (by assumption) rfl ?_) | ((with_reducible show wpAny _ _ (storeName _ _ _) _ _ _); refine rSt (by assumption) ?_; intro _ _) | ((with_reducible show wpAny _ _ (isTrue (Expr.Compare _ [_] [_] _) _ _) _ _ _); refine wpAny_isTrue_Compare1 ?_) | with_reducible refine wpAny_truthy_bool ?_ | with_reducible refine rEq ?_ | ((with_reducible show wpAny _ _ (eval (Expr.Call _ _ [] _) _) _ _ _); refine Call_ ?_) | ((with_reducible show wpAny _ _ (spliced (backTo _ (starEach (_ :: _) _))) _ _ _); refine spliced_more ?_) | ((with_reducible show wpAny _ _ (spliced (backTo _ (starEach [] _))) _ _ _); refine spliced_none ?_) | with_reducible refine wpAny_IfExp ?_))
  refine rList ?_
  repeat (first | (first | ((with_reducible show wpAny _ _ (execs (Stmt.Assign [Expr.Name _ _] _ _ :: _) _) _ _ _); refine rAs ?_) | with_reducible refine rRet ?_ | with_reducible refine rIf ?_ | with_reducible refine wpAny_BinOp ?_ | with_reducible refine rI ?_ | with_reducible refine rS ?_ | ((with_reducible show wpAny _ _ (eval (Expr.Name _ _) _) _ _ _); refine nL (by assumption) rfl ?_) | ((with_reducible show wpAny _ _ (storeName _ _ _) _ _ _); refine rSt (by assumption) ?_; intro _ _) | ((with_reducible show wpAny _ _ (isTrue (Expr.Compare _ [_] [_] _) _ _) _ _ _); refine wpAny_isTrue_Compare1 ?_) | with_reducible refine wpAny_truthy_bool ?_ | with_reducible refine rEq ?_ | ((with_reducible show wpAny _ _ (eval (Expr.Call _ _ [] _) _) _ _ _); refine Call_ ?_) | ((with_reducible show wpAny _ _ (spliced (backTo _ (starEach (_ :: _) _))) _ _ _); refine spliced_more ?_) | ((with_reducible show wpAny _ _ (spliced (backTo _ (starEach [] _))) _ _ _); refine spliced_none ?_) | with_reducible refine wpAny_IfExp ?_) | (dsimp only; first | ((with_reducible show wpAny _ _ (execs (Stmt.Assign [Expr.Name _ _] _ _ :: _) _) _ _ _); refine rAs ?_) | with_reducible refine rRet ?_ | with_reducible refine rIf ?_ | with_reducible refine wpAny_BinOp ?_ | with_reducible refine rI ?_ | with_reducible refine rS ?_ | ((with_reducible show wpAny _ _ (eval (Expr.Name _ _) _) _ _ _); refine nL (by assumption) rfl ?_) | ((with_reducible show wpAny _ _ (storeName _ _ _) _ _ _); refine rSt (by assumption) ?_; intro _ _) | ((with_reducible show wpAny _ _ (isTrue (Expr.Compare _ [_] [_] _) _ _) _ _ _); refine wpAny_isTrue_Compare1 ?_) | with_reducible refine wpAny_truthy_bool ?_ | with_reducible refine rEq ?_ | ((with_reducible show wpAny _ _ (eval (Expr.Call _ _ [] _) _) _ _ _); refine Call_ ?_) | ((with_reducible show wpAny _ _ (spliced (backTo _ (starEach (_ :: _) _))) _ _ _); refine spliced_more ?_) | ((with_reducible show wpAny _ _ (spliced (backTo _ (starEach [] _))) _ _ _); refine spliced_none ?_) | with_reducible refine wpAny_IfExp ?_))
  refine rNewL ?_ (by simp [sizeLine])
  have F2 := F1.psh { cls := .type "list", data := .seq [Value.int 0 tk₁].toArray }
  repeat (first | (first | ((with_reducible show wpAny _ _ (execs (Stmt.Assign [Expr.Name _ _] _ _ :: _) _) _ _ _); refine rAs ?_) | with_reducible refine rRet ?_ | with_reducible refine rIf ?_ | with_reducible refine wpAny_BinOp ?_ | with_reducible refine rI ?_ | with_reducible refine rS ?_ | ((with_reducible show wpAny _ _ (eval (Expr.Name _ _) _) _ _ _); refine nL (by assumption) rfl ?_) | ((with_reducible show wpAny _ _ (storeName _ _ _) _ _ _); refine rSt (by assumption) ?_; intro _ _) | ((with_reducible show wpAny _ _ (isTrue (Expr.Compare _ [_] [_] _) _ _) _ _ _); refine wpAny_isTrue_Compare1 ?_) | with_reducible refine wpAny_truthy_bool ?_ | with_reducible refine rEq ?_ | ((with_reducible show wpAny _ _ (eval (Expr.Call _ _ [] _) _) _ _ _); refine Call_ ?_) | ((with_reducible show wpAny _ _ (spliced (backTo _ (starEach (_ :: _) _))) _ _ _); refine spliced_more ?_) | ((with_reducible show wpAny _ _ (spliced (backTo _ (starEach [] _))) _ _ _); refine spliced_none ?_) | with_reducible refine wpAny_IfExp ?_) | (dsimp only; first | ((with_reducible show wpAny _ _ (execs (Stmt.Assign [Expr.Name _ _] _ _ :: _) _) _ _ _); refine rAs ?_) | with_reducible refine rRet ?_ | with_reducible refine rIf ?_ | with_reducible refine wpAny_BinOp ?_ | with_reducible refine rI ?_ | with_reducible refine rS ?_ | ((with_reducible show wpAny _ _ (eval (Expr.Name _ _) _) _ _ _); refine nL (by assumption) rfl ?_) | ((with_reducible show wpAny _ _ (storeName _ _ _) _ _ _); refine rSt (by assumption) ?_; intro _ _) | ((with_reducible show wpAny _ _ (isTrue (Expr.Compare _ [_] [_] _) _ _) _ _ _); refine wpAny_isTrue_Compare1 ?_) | with_reducible refine wpAny_truthy_bool ?_ | with_reducible refine rEq ?_ | ((with_reducible show wpAny _ _ (eval (Expr.Call _ _ [] _) _) _ _ _); refine Call_ ?_) | ((with_reducible show wpAny _ _ (spliced (backTo _ (starEach (_ :: _) _))) _ _ _); refine spliced_more ?_) | ((with_reducible show wpAny _ _ (spliced (backTo _ (starEach [] _))) _ _ _); refine spliced_none ?_) | with_reducible refine wpAny_IfExp ?_))
  refine rM ?_
  repeat (first | (first | ((with_reducible show wpAny _ _ (execs (Stmt.Assign [Expr.Name _ _] _ _ :: _) _) _ _ _); refine rAs ?_) | with_reducible refine rRet ?_ | with_reducible refine rIf ?_ | with_reducible refine wpAny_BinOp ?_ | with_reducible refine rI ?_ | with_reducible refine rS ?_ | ((with_reducible show wpAny _ _ (eval (Expr.Name _ _) _) _ _ _); refine nL (by assumption) rfl ?_) | ((with_reducible show wpAny _ _ (storeName _ _ _) _ _ _); refine rSt (by assumption) ?_; intro _ _) | ((with_reducible show wpAny _ _ (isTrue (Expr.Compare _ [_] [_] _) _ _) _ _ _); refine wpAny_isTrue_Compare1 ?_) | with_reducible refine wpAny_truthy_bool ?_ | with_reducible refine rEq ?_ | ((with_reducible show wpAny _ _ (eval (Expr.Call _ _ [] _) _) _ _ _); refine Call_ ?_) | ((with_reducible show wpAny _ _ (spliced (backTo _ (starEach (_ :: _) _))) _ _ _); refine spliced_more ?_) | ((with_reducible show wpAny _ _ (spliced (backTo _ (starEach [] _))) _ _ _); refine spliced_none ?_) | with_reducible refine wpAny_IfExp ?_) | (dsimp only; first | ((with_reducible show wpAny _ _ (execs (Stmt.Assign [Expr.Name _ _] _ _ :: _) _) _ _ _); refine rAs ?_) | with_reducible refine rRet ?_ | with_reducible refine rIf ?_ | with_reducible refine wpAny_BinOp ?_ | with_reducible refine rI ?_ | with_reducible refine rS ?_ | ((with_reducible show wpAny _ _ (eval (Expr.Name _ _) _) _ _ _); refine nL (by assumption) rfl ?_) | ((with_reducible show wpAny _ _ (storeName _ _ _) _ _ _); refine rSt (by assumption) ?_; intro _ _) | ((with_reducible show wpAny _ _ (isTrue (Expr.Compare _ [_] [_] _) _ _) _ _ _); refine wpAny_isTrue_Compare1 ?_) | with_reducible refine wpAny_truthy_bool ?_ | with_reducible refine rEq ?_ | ((with_reducible show wpAny _ _ (eval (Expr.Call _ _ [] _) _) _ _ _); refine Call_ ?_) | ((with_reducible show wpAny _ _ (spliced (backTo _ (starEach (_ :: _) _))) _ _ _); refine spliced_more ?_) | ((with_reducible show wpAny _ _ (spliced (backTo _ (starEach [] _))) _ _ _); refine spliced_none ?_) | with_reducible refine wpAny_IfExp ?_))
  refine rBL ?_
  refine rCM0 ?_
  refine rBL' ?_
  repeat (first | (first | ((with_reducible show wpAny _ _ (execs (Stmt.Assign [Expr.Name _ _] _ _ :: _) _) _ _ _); refine rAs ?_) | with_reducible refine rRet ?_ | with_reducible refine rIf ?_ | with_reducible refine wpAny_BinOp ?_ | with_reducible refine rI ?_ | with_reducible refine rS ?_ | ((with_reducible show wpAny _ _ (eval (Expr.Name _ _) _) _ _ _); refine nL (by assumption) rfl ?_) | ((with_reducible show wpAny _ _ (storeName _ _ _) _ _ _); refine rSt (by assumption) ?_; intro _ _) | ((with_reducible show wpAny _ _ (isTrue (Expr.Compare _ [_] [_] _) _ _) _ _ _); refine wpAny_isTrue_Compare1 ?_) | with_reducible refine wpAny_truthy_bool ?_ | with_reducible refine rEq ?_ | ((with_reducible show wpAny _ _ (eval (Expr.Call _ _ [] _) _) _ _ _); refine Call_ ?_) | ((with_reducible show wpAny _ _ (spliced (backTo _ (starEach (_ :: _) _))) _ _ _); refine spliced_more ?_) | ((with_reducible show wpAny _ _ (spliced (backTo _ (starEach [] _))) _ _ _); refine spliced_none ?_) | with_reducible refine wpAny_IfExp ?_) | (dsimp only; first | ((with_reducible show wpAny _ _ (execs (Stmt.Assign [Expr.Name _ _] _ _ :: _) _) _ _ _); refine rAs ?_) | with_reducible refine rRet ?_ | with_reducible refine rIf ?_ | with_reducible refine wpAny_BinOp ?_ | with_reducible refine rI ?_ | with_reducible refine rS ?_ | ((with_reducible show wpAny _ _ (eval (Expr.Name _ _) _) _ _ _); refine nL (by assumption) rfl ?_) | ((with_reducible show wpAny _ _ (storeName _ _ _) _ _ _); refine rSt (by assumption) ?_; intro _ _) | ((with_reducible show wpAny _ _ (isTrue (Expr.Compare _ [_] [_] _) _ _) _ _ _); refine wpAny_isTrue_Compare1 ?_) | with_reducible refine wpAny_truthy_bool ?_ | with_reducible refine rEq ?_ | ((with_reducible show wpAny _ _ (eval (Expr.Call _ _ [] _) _) _ _ _); refine Call_ ?_) | ((with_reducible show wpAny _ _ (spliced (backTo _ (starEach (_ :: _) _))) _ _ _); refine spliced_more ?_) | ((with_reducible show wpAny _ _ (spliced (backTo _ (starEach [] _))) _ _ _); refine spliced_none ?_) | with_reducible refine wpAny_IfExp ?_))
  refine nC rfl ⟨_, F2.at 3 rfl, d1⟩ ?_
  refine rAdd (Builtin.Int.intBits (x : Int) + n : Nat) (by (clear hn0 hn hLL hcc hc; omega)) ?_
  repeat (first | (first | ((with_reducible show wpAny _ _ (execs (Stmt.Assign [Expr.Name _ _] _ _ :: _) _) _ _ _); refine rAs ?_) | with_reducible refine rRet ?_ | with_reducible refine rIf ?_ | with_reducible refine wpAny_BinOp ?_ | with_reducible refine rI ?_ | with_reducible refine rS ?_ | ((with_reducible show wpAny _ _ (eval (Expr.Name _ _) _) _ _ _); refine nL (by assumption) rfl ?_) | ((with_reducible show wpAny _ _ (storeName _ _ _) _ _ _); refine rSt (by assumption) ?_; intro _ _) | ((with_reducible show wpAny _ _ (isTrue (Expr.Compare _ [_] [_] _) _ _) _ _ _); refine wpAny_isTrue_Compare1 ?_) | with_reducible refine wpAny_truthy_bool ?_ | with_reducible refine rEq ?_ | ((with_reducible show wpAny _ _ (eval (Expr.Call _ _ [] _) _) _ _ _); refine Call_ ?_) | ((with_reducible show wpAny _ _ (spliced (backTo _ (starEach (_ :: _) _))) _ _ _); refine spliced_more ?_) | ((with_reducible show wpAny _ _ (spliced (backTo _ (starEach [] _))) _ _ _); refine spliced_none ?_) | with_reducible refine wpAny_IfExp ?_) | (dsimp only; first | ((with_reducible show wpAny _ _ (execs (Stmt.Assign [Expr.Name _ _] _ _ :: _) _) _ _ _); refine rAs ?_) | with_reducible refine rRet ?_ | with_reducible refine rIf ?_ | with_reducible refine wpAny_BinOp ?_ | with_reducible refine rI ?_ | with_reducible refine rS ?_ | ((with_reducible show wpAny _ _ (eval (Expr.Name _ _) _) _ _ _); refine nL (by assumption) rfl ?_) | ((with_reducible show wpAny _ _ (storeName _ _ _) _ _ _); refine rSt (by assumption) ?_; intro _ _) | ((with_reducible show wpAny _ _ (isTrue (Expr.Compare _ [_] [_] _) _ _) _ _ _); refine wpAny_isTrue_Compare1 ?_) | with_reducible refine wpAny_truthy_bool ?_ | with_reducible refine rEq ?_ | ((with_reducible show wpAny _ _ (eval (Expr.Call _ _ [] _) _) _ _ _); refine Call_ ?_) | ((with_reducible show wpAny _ _ (spliced (backTo _ (starEach (_ :: _) _))) _ _ _); refine spliced_more ?_) | ((with_reducible show wpAny _ _ (spliced (backTo _ (starEach [] _))) _ _ _); refine spliced_none ?_) | with_reducible refine wpAny_IfExp ?_))
  refine rSub (Builtin.Int.intBits (x : Int) + n - 1 : Nat) (by (clear hLL hcc hc; omega)) ?_
  refine nC rfl ⟨_, F2.at 3 rfl, d1⟩ ?_
  refine rFdiv (c : Nat) (by rw [fdivN]; exact congrArg _ hcc) (by (clear hLL hcc hc; omega)) (by rw [Int.natAbs_natCast]; exact log2_le (k := 10) (by (clear hLL hcc hc; omega)) (by decide)) ?_
  refine rMulL1 c (F2.at 0 rfl) (by (clear hn0 hn hLL; omega)) ?_
  have F3 := F2.psh { cls := .type "list", data := .seq (List.replicate c (Value.int 0 tk₁)).toArray }
  have hla0 : L + 4 ≤ (h₁.push { cls := .type "list", data := .seq [Value.int 0 tk₁].toArray }).objs.size := by
    rw [Heap.size_push]; exact Nat.le_succ_of_le (Heap.lt_size e3)
  generalize hla : (h₁.push { cls := .type "list", data := .seq [Value.int 0 tk₁].toArray }).objs.size = la at *
  refine rSC F3 3 rfl rfl d2 ?_
  intro h₃ o2' d2' S3 F4
  refine rDef rfl rfl rfl ?_
  refine rFn G F4.ok (.inl ⟨rfl, rfl, rfl⟩) rfl G.h1 (by decide) rfl rfl rfl ?_
  intro f doc pm cc ctv h₄ tk₄ k₄ K₄ hf hct hcr hfo
  have hLf : L ≤ f := Nat.le_trans (hLL ▸ F4.gsz) hf
  have hlf : la < f := Nat.lt_of_lt_of_le (Heap.lt_size (F4.at 0 rfl)) hf
  have F5 := (F4.call k₄ K₄).add hfo (Nat.le_trans F4.gsz hf) (F4.fresh hf).1 (F4.fresh hf).2
  refine rSC F5 3 rfl rfl d3 ?_
  intro h₅ o3' d3' S5 F6
  have hcr5 : h₅.CodeRec (.ref cc) qI2D := CodeRec.same hcr (by decide) S5 (fun o e => by rw [F5.at 3 rfl] at e; cases e; exact cell_nc d3)
  have hfo5 := F6.at 0 rfl
  have hl5 := F6.at 1 rfl
  have hc3 : h₅.IsCell (L + 3) (some (.ref f)) := ⟨_, F6.at 3 rfl, d3'⟩
  have hc2 : h₅.IsCell (L + 2) (some (.ref la)) := ⟨_, F6.at 4 rfl, d2'⟩
  have hc1 : h₅.IsCell (L + 1) (some (.int n tk)) := ⟨_, F6.at 5 rfl, d1⟩
  have nt : ∀ a : Addr, L ≤ a → a ∉ tabs := fun a ha => k.nt (Nat.le_trans k.sz (by rw [hLL]; exact ha))
  have n1 : ∀ a : Addr, @Ne Nat a la → a ∉ [la] := fun a ha q => ha (List.mem_singleton.mp q)
  have inner : ∀ (j Lo Hi y : Nat), Hi - Lo ≤ j → Lo < Hi → Hi ≤ c → y < 2 ^ (n * (Hi - Lo)) → ∀ (A' : Around) (R' : Result → Shared → Prop) (hp' : Heap) (tk' : Nat) (t0 t1 t2 : Tok) (ws : List Value) (es : List Int), OK g0 hp' → Kp [la] h₅ hp' →
      hp'.IsList la ws.toArray → IntsAre ws es → es.length = c → Rm A' (j + 1) →
      (∀ h' tks ws', OK g0 h' → Kp [la] hp' h' → h'.IsList la ws'.toArray → IntsAre ws' (es.take Lo ++ digs n (Hi - Lo) y ++ es.drop Hi) → R' (.ok (.ret .none)) ⟨h', gn, dr, tks, os⟩) →
      codeAny (model PP w) A' (.call (.ref f) ⟨[.int y t0, .int Lo t1, .int Hi t2], []⟩) R' ⟨hp', gn, dr, tk', os⟩ := by
    intro j
    induction j with
    | zero => intro Lo Hi y h1 h2; (clear hn0 hn hLL hcc hc hla hla0 hf hct hLf hlf; omega)
    | succ j ih =>
      intro Lo Hi y h1 h2 h3 hy A' R' hp' tk' t0 t1 t2 ws es k' K' hl' hi' hes rm' hR
      refine ent (T := [la]) (n := j + 1) (binds := [("x", .int y t0), ("L", .int Lo t1), ("R", .int Hi t2)]) G k' rm' (K'.kp _ _ hfo5 (nt _ hLf) (n1 _ (Nat.ne_of_gt hlf))) rfl (K'.codeRec hcr5 hct (n1 _ (CodeRec.ne (by decide) hcr5 hl5 (list_nc rfl)))) rfl rfl rfl rfl rfl rfl rfl ?_
      intro h6 tk6 F7 rm7 kk7
      obtain ⟨ol, el, cl, en, dl⟩ := hl'
      have hlt : la < hp'.objs.size := Heap.lt_size el
      have F8 := F7.addT (kk7 _ _ el) (List.mem_singleton.mpr rfl) (Nat.le_trans k.sz (by rw [hLL]; (clear hn0 hn hLL hcc hc hla hf hct hLf hlf h1 h2 h3 hy hes hlt; omega))) (by simp) (Nat.ne_of_lt hlt)
      have K8 := K'.trans F8.kp
      have cn := K8.cell hc1 (nt _ (by (clear hn0 hn hLL hcc hc hla hla0 hf hct hLf hlf h1 h2 h3 hy hes hlt; omega))) (n1 _ (by (clear hn0 hn hLL hcc hc hla hf hct hLf hlf h1 h2 h3 hy hes hlt; omega)))
      have cf := K8.cell hc3 (nt _ (by (clear hn0 hn hLL hcc hc hla hla0 hf hct hLf hlf h1 h2 h3 hy hes hlt; omega))) (n1 _ (by (clear hn0 hn hLL hcc hc hla hf hct hLf hlf h1 h2 h3 hy hes hlt; omega)))
      have cd := K8.cell hc2 (nt _ (by (clear hn0 hn hLL hcc hc hla hla0 hf hct hLf hlf h1 h2 h3 hy hes hlt; omega))) (n1 _ (by (clear hn0 hn hLL hcc hc hla hf hct hLf hlf h1 h2 h3 hy hes hlt; omega)))
      repeat (first | (first | ((with_reducible show wpAny _ _ (execs (Stmt.Assign [Expr.Name _ _] _ _ :: _) _) _ _ _); refine rAs ?_) | with_reducible refine rRet ?_ | with_reducible refine rIf ?_ | with_reducible refine wpAny_BinOp ?_ | with_reducible refine rI ?_ | with_reducible refine rS ?_ | ((with_reducible show wpAny _ _ (eval (Expr.Name _ _) _) _ _ _); refine nL (by assumption) rfl ?_) | ((with_reducible show wpAny _ _ (storeName _ _ _) _ _ _); refine rSt (by assumption) ?_; intro _ _) | ((with_reducible show wpAny _ _ (isTrue (Expr.Compare _ [_] [_] _) _ _) _ _ _); refine wpAny_isTrue_Compare1 ?_) | with_reducible refine wpAny_truthy_bool ?_ | with_reducible refine rEq ?_ | ((with_reducible show wpAny _ _ (eval (Expr.Call _ _ [] _) _) _ _ _); refine Call_ ?_) | ((with_reducible show wpAny _ _ (spliced (backTo _ (starEach (_ :: _) _))) _ _ _); refine spliced_more ?_) | ((with_reducible show wpAny _ _ (spliced (backTo _ (starEach [] _))) _ _ _); refine spliced_none ?_) | with_reducible refine wpAny_IfExp ?_) | (dsimp only; first | ((with_reducible show wpAny _ _ (execs (Stmt.Assign [Expr.Name _ _] _ _ :: _) _) _ _ _); refine rAs ?_) | with_reducible refine rRet ?_ | with_reducible refine rIf ?_ | with_reducible refine wpAny_BinOp ?_ | with_reducible refine rI ?_ | with_reducible refine rS ?_ | ((with_reducible show wpAny _ _ (eval (Expr.Name _ _) _) _ _ _); refine nL (by assumption) rfl ?_) | ((with_reducible show wpAny _ _ (storeName _ _ _) _ _ _); refine rSt (by assumption) ?_; intro _ _) | ((with_reducible show wpAny _ _ (isTrue (Expr.Compare _ [_] [_] _) _ _) _ _ _); refine wpAny_isTrue_Compare1 ?_) | with_reducible refine wpAny_truthy_bool ?_ | with_reducible refine rEq ?_ | ((with_reducible show wpAny _ _ (eval (Expr.Call _ _ [] _) _) _ _ _); refine Call_ ?_) | ((with_reducible show wpAny _ _ (spliced (backTo _ (starEach (_ :: _) _))) _ _ _); refine spliced_more ?_) | ((with_reducible show wpAny _ _ (spliced (backTo _ (starEach [] _))) _ _ _); refine spliced_none ?_) | with_reducible refine wpAny_IfExp ?_))
      refine rAdd (Lo + 1 : Nat) (by (clear hn0 hn hLL hcc hc hla hla0 hf hct hLf hlf h1 h2 h3 hy hes hlt; omega)) ?_
      repeat (first | (first | ((with_reducible show wpAny _ _ (execs (Stmt.Assign [Expr.Name _ _] _ _ :: _) _) _ _ _); refine rAs ?_) | with_reducible refine rRet ?_ | with_reducible refine rIf ?_ | with_reducible refine wpAny_BinOp ?_ | with_reducible refine rI ?_ | with_reducible refine rS ?_ | ((with_reducible show wpAny _ _ (eval (Expr.Name _ _) _) _ _ _); refine nL (by assumption) rfl ?_) | ((with_reducible show wpAny _ _ (storeName _ _ _) _ _ _); refine rSt (by assumption) ?_; intro _ _) | ((with_reducible show wpAny _ _ (isTrue (Expr.Compare _ [_] [_] _) _ _) _ _ _); refine wpAny_isTrue_Compare1 ?_) | with_reducible refine wpAny_truthy_bool ?_ | with_reducible refine rEq ?_ | ((with_reducible show wpAny _ _ (eval (Expr.Call _ _ [] _) _) _ _ _); refine Call_ ?_) | ((with_reducible show wpAny _ _ (spliced (backTo _ (starEach (_ :: _) _))) _ _ _); refine spliced_more ?_) | ((with_reducible show wpAny _ _ (spliced (backTo _ (starEach [] _))) _ _ _); refine spliced_none ?_) | with_reducible refine wpAny_IfExp ?_) | (dsimp only; first | ((with_reducible show wpAny _ _ (execs (Stmt.Assign [Expr.Name _ _] _ _ :: _) _) _ _ _); refine rAs ?_) | with_reducible refine rRet ?_ | with_reducible refine rIf ?_ | with_reducible refine wpAny_BinOp ?_ | with_reducible refine rI ?_ | with_reducible refine rS ?_ | ((with_reducible show wpAny _ _ (eval (Expr.Name _ _) _) _ _ _); refine nL (by assumption) rfl ?_) | ((with_reducible show wpAny _ _ (storeName _ _ _) _ _ _); refine rSt (by assumption) ?_; intro _ _) | ((with_reducible show wpAny _ _ (isTrue (Expr.Compare _ [_] [_] _) _ _) _ _ _); refine wpAny_isTrue_Compare1 ?_) | with_reducible refine wpAny_truthy_bool ?_ | with_reducible refine rEq ?_ | ((with_reducible show wpAny _ _ (eval (Expr.Call _ _ [] _) _) _ _ _); refine Call_ ?_) | ((with_reducible show wpAny _ _ (spliced (backTo _ (starEach (_ :: _) _))) _ _ _); refine spliced_more ?_) | ((with_reducible show wpAny _ _ (spliced (backTo _ (starEach [] _))) _ _ _); refine spliced_none ?_) | with_reducible refine wpAny_IfExp ?_))
      by_cases hq : Lo + 1 = Hi
      · refine iteT (by simp; (clear hn0 hn hLL hcc hc hla hla0 hf hct hLf hlf h1 h2 h3 hy hes hlt; omega)) ?_
        refine rAsub ?_
        repeat (first | (first | ((with_reducible show wpAny _ _ (execs (Stmt.Assign [Expr.Name _ _] _ _ :: _) _) _ _ _); refine rAs ?_) | with_reducible refine rRet ?_ | with_reducible refine rIf ?_ | with_reducible refine wpAny_BinOp ?_ | with_reducible refine rI ?_ | with_reducible refine rS ?_ | ((with_reducible show wpAny _ _ (eval (Expr.Name _ _) _) _ _ _); refine nL (by assumption) rfl ?_) | ((with_reducible show wpAny _ _ (storeName _ _ _) _ _ _); refine rSt (by assumption) ?_; intro _ _) | ((with_reducible show wpAny _ _ (isTrue (Expr.Compare _ [_] [_] _) _ _) _ _ _); refine wpAny_isTrue_Compare1 ?_) | with_reducible refine wpAny_truthy_bool ?_ | with_reducible refine rEq ?_ | ((with_reducible show wpAny _ _ (eval (Expr.Call _ _ [] _) _) _ _ _); refine Call_ ?_) | ((with_reducible show wpAny _ _ (spliced (backTo _ (starEach (_ :: _) _))) _ _ _); refine spliced_more ?_) | ((with_reducible show wpAny _ _ (spliced (backTo _ (starEach [] _))) _ _ _); refine spliced_none ?_) | with_reducible refine wpAny_IfExp ?_) | (dsimp only; first | ((with_reducible show wpAny _ _ (execs (Stmt.Assign [Expr.Name _ _] _ _ :: _) _) _ _ _); refine rAs ?_) | with_reducible refine rRet ?_ | with_reducible refine rIf ?_ | with_reducible refine wpAny_BinOp ?_ | with_reducible refine rI ?_ | with_reducible refine rS ?_ | ((with_reducible show wpAny _ _ (eval (Expr.Name _ _) _) _ _ _); refine nL (by assumption) rfl ?_) | ((with_reducible show wpAny _ _ (storeName _ _ _) _ _ _); refine rSt (by assumption) ?_; intro _ _) | ((with_reducible show wpAny _ _ (isTrue (Expr.Compare _ [_] [_] _) _ _) _ _ _); refine wpAny_isTrue_Compare1 ?_) | with_reducible refine wpAny_truthy_bool ?_ | with_reducible refine rEq ?_ | ((with_reducible show wpAny _ _ (eval (Expr.Call _ _ [] _) _) _ _ _); refine Call_ ?_) | ((with_reducible show wpAny _ _ (spliced (backTo _ (starEach (_ :: _) _))) _ _ _); refine spliced_more ?_) | ((with_reducible show wpAny _ _ (spliced (backTo _ (starEach [] _))) _ _ _); refine spliced_none ?_) | with_reducible refine wpAny_IfExp ?_))
        refine nF rfl cd ?_
        repeat (first | (first | ((with_reducible show wpAny _ _ (execs (Stmt.Assign [Expr.Name _ _] _ _ :: _) _) _ _ _); refine rAs ?_) | with_reducible refine rRet ?_ | with_reducible refine rIf ?_ | with_reducible refine wpAny_BinOp ?_ | with_reducible refine rI ?_ | with_reducible refine rS ?_ | ((with_reducible show wpAny _ _ (eval (Expr.Name _ _) _) _ _ _); refine nL (by assumption) rfl ?_) | ((with_reducible show wpAny _ _ (storeName _ _ _) _ _ _); refine rSt (by assumption) ?_; intro _ _) | ((with_reducible show wpAny _ _ (isTrue (Expr.Compare _ [_] [_] _) _ _) _ _ _); refine wpAny_isTrue_Compare1 ?_) | with_reducible refine wpAny_truthy_bool ?_ | with_reducible refine rEq ?_ | ((with_reducible show wpAny _ _ (eval (Expr.Call _ _ [] _) _) _ _ _); refine Call_ ?_) | ((with_reducible show wpAny _ _ (spliced (backTo _ (starEach (_ :: _) _))) _ _ _); refine spliced_more ?_) | ((with_reducible show wpAny _ _ (spliced (backTo _ (starEach [] _))) _ _ _); refine spliced_none ?_) | with_reducible refine wpAny_IfExp ?_) | (dsimp only; first | ((with_reducible show wpAny _ _ (execs (Stmt.Assign [Expr.Name _ _] _ _ :: _) _) _ _ _); refine rAs ?_) | with_reducible refine rRet ?_ | with_reducible refine rIf ?_ | with_reducible refine wpAny_BinOp ?_ | with_reducible refine rI ?_ | with_reducible refine rS ?_ | ((with_reducible show wpAny _ _ (eval (Expr.Name _ _) _) _ _ _); refine nL (by assumption) rfl ?_) | ((with_reducible show wpAny _ _ (storeName _ _ _) _ _ _); refine rSt (by assumption) ?_; intro _ _) | ((with_reducible show wpAny _ _ (isTrue (Expr.Compare _ [_] [_] _) _ _) _ _ _); refine wpAny_isTrue_Compare1 ?_) | with_reducible refine wpAny_truthy_bool ?_ | with_reducible refine rEq ?_ | ((with_reducible show wpAny _ _ (eval (Expr.Call _ _ [] _) _) _ _ _); refine Call_ ?_) | ((with_reducible show wpAny _ _ (spliced (backTo _ (starEach (_ :: _) _))) _ _ _); refine spliced_more ?_) | ((with_reducible show wpAny _ _ (spliced (backTo _ (starEach [] _))) _ _ _); refine spliced_none ?_) | with_reducible refine wpAny_IfExp ?_))
        have hws : ws.length = c := by rw [hi'.length, hes]
        refine wpAny_setItem_list ⟨ol, F8.at 0 rfl, cl, en, dl⟩ (by (clear hn0 hn hLL hcc hc hla hla0 hf hct hLf hlf h1 h2 h3 hy hes hlt hq hws; omega)) (by (clear hn0 hn hLL hla hla0 hf hct hLf hlf h1 h2 hy hlt; omega)) (by simp; (clear hn0 hn hLL hcc hc hla hla0 hf hct hLf hlf h1 h2 hy hlt; omega)) ?_
        intro h9 hl9 S9
        refine rRet0 ?_
        obtain ⟨o9, e9, r9⟩ := id hl9
        have F9 := F8.updS 0 rfl (list_nc dl) S9 e9
        have q := fun tks => hR h9 tks (ws.set Lo (.int y t0)) F9.ok F9.kp (by simpa using hl9) (by
          have e1 : Hi - Lo = 1 := by (clear hn0 hn hLL hcc hc hla hla0 hf hct hLf hlf h1 h2 h3 hy hes hlt hws r9; omega)
          have e2 : y % 2 ^ n = y := Nat.mod_eq_of_lt (by rw [e1, Nat.mul_one] at hy; exact hy)
          rw [e1, digs, digs, e2, ← hq, ← take_set_drop es (by (clear hn0 hn hLL hcc hc hla hla0 hf hct hLf hlf h1 h2 hy hlt r9 e1 e2; omega))]
          exact IntsAre.set' hi' Lo y t0)
        exact q _
      · refine iteF (by simp; (clear hn0 hn hLL hcc hc hla hla0 hf hct hLf hlf h1 h2 h3 hy hes hlt; omega)) ?_
        refine nilNext ?_
        repeat (first | (first | ((with_reducible show wpAny _ _ (execs (Stmt.Assign [Expr.Name _ _] _ _ :: _) _) _ _ _); refine rAs ?_) | with_reducible refine rRet ?_ | with_reducible refine rIf ?_ | with_reducible refine wpAny_BinOp ?_ | with_reducible refine rI ?_ | with_reducible refine rS ?_ | ((with_reducible show wpAny _ _ (eval (Expr.Name _ _) _) _ _ _); refine nL (by assumption) rfl ?_) | ((with_reducible show wpAny _ _ (storeName _ _ _) _ _ _); refine rSt (by assumption) ?_; intro _ _) | ((with_reducible show wpAny _ _ (isTrue (Expr.Compare _ [_] [_] _) _ _) _ _ _); refine wpAny_isTrue_Compare1 ?_) | with_reducible refine wpAny_truthy_bool ?_ | with_reducible refine rEq ?_ | ((with_reducible show wpAny _ _ (eval (Expr.Call _ _ [] _) _) _ _ _); refine Call_ ?_) | ((with_reducible show wpAny _ _ (spliced (backTo _ (starEach (_ :: _) _))) _ _ _); refine spliced_more ?_) | ((with_reducible show wpAny _ _ (spliced (backTo _ (starEach [] _))) _ _ _); refine spliced_none ?_) | with_reducible refine wpAny_IfExp ?_) | (dsimp only; first | ((with_reducible show wpAny _ _ (execs (Stmt.Assign [Expr.Name _ _] _ _ :: _) _) _ _ _); refine rAs ?_) | with_reducible refine rRet ?_ | with_reducible refine rIf ?_ | with_reducible refine wpAny_BinOp ?_ | with_reducible refine rI ?_ | with_reducible refine rS ?_ | ((with_reducible show wpAny _ _ (eval (Expr.Name _ _) _) _ _ _); refine nL (by assumption) rfl ?_) | ((with_reducible show wpAny _ _ (storeName _ _ _) _ _ _); refine rSt (by assumption) ?_; intro _ _) | ((with_reducible show wpAny _ _ (isTrue (Expr.Compare _ [_] [_] _) _ _) _ _ _); refine wpAny_isTrue_Compare1 ?_) | with_reducible refine wpAny_truthy_bool ?_ | with_reducible refine rEq ?_ | ((with_reducible show wpAny _ _ (eval (Expr.Call _ _ [] _) _) _ _ _); refine Call_ ?_) | ((with_reducible show wpAny _ _ (spliced (backTo _ (starEach (_ :: _) _))) _ _ _); refine spliced_more ?_) | ((with_reducible show wpAny _ _ (spliced (backTo _ (starEach [] _))) _ _ _); refine spliced_none ?_) | with_reducible refine wpAny_IfExp ?_))
        refine rAdd (Lo + Hi : Nat) (by (clear hn0 hn hLL hcc hc hla hla0 hf hct hLf hlf h1 h2 h3 hy hes hlt hq; omega)) ?_
        repeat (first | (first | ((with_reducible show wpAny _ _ (execs (Stmt.Assign [Expr.Name _ _] _ _ :: _) _) _ _ _); refine rAs ?_) | with_reducible refine rRet ?_ | with_reducible refine rIf ?_ | with_reducible refine wpAny_BinOp ?_ | with_reducible refine rI ?_ | with_reducible refine rS ?_ | ((with_reducible show wpAny _ _ (eval (Expr.Name _ _) _) _ _ _); refine nL (by assumption) rfl ?_) | ((with_reducible show wpAny _ _ (storeName _ _ _) _ _ _); refine rSt (by assumption) ?_; intro _ _) | ((with_reducible show wpAny _ _ (isTrue (Expr.Compare _ [_] [_] _) _ _) _ _ _); refine wpAny_isTrue_Compare1 ?_) | with_reducible refine wpAny_truthy_bool ?_ | with_reducible refine rEq ?_ | ((with_reducible show wpAny _ _ (eval (Expr.Call _ _ [] _) _) _ _ _); refine Call_ ?_) | ((with_reducible show wpAny _ _ (spliced (backTo _ (starEach (_ :: _) _))) _ _ _); refine spliced_more ?_) | ((with_reducible show wpAny _ _ (spliced (backTo _ (starEach [] _))) _ _ _); refine spliced_none ?_) | with_reducible refine wpAny_IfExp ?_) | (dsimp only; first | ((with_reducible show wpAny _ _ (execs (Stmt.Assign [Expr.Name _ _] _ _ :: _) _) _ _ _); refine rAs ?_) | with_reducible refine rRet ?_ | with_reducible refine rIf ?_ | with_reducible refine wpAny_BinOp ?_ | with_reducible refine rI ?_ | with_reducible refine rS ?_ | ((with_reducible show wpAny _ _ (eval (Expr.Name _ _) _) _ _ _); refine nL (by assumption) rfl ?_) | ((with_reducible show wpAny _ _ (storeName _ _ _) _ _ _); refine rSt (by assumption) ?_; intro _ _) | ((with_reducible show wpAny _ _ (isTrue (Expr.Compare _ [_] [_] _) _ _) _ _ _); refine wpAny_isTrue_Compare1 ?_) | with_reducible refine wpAny_truthy_bool ?_ | with_reducible refine rEq ?_ | ((with_reducible show wpAny _ _ (eval (Expr.Call _ _ [] _) _) _ _ _); refine Call_ ?_) | ((with_reducible show wpAny _ _ (spliced (backTo _ (starEach (_ :: _) _))) _ _ _); refine spliced_more ?_) | ((with_reducible show wpAny _ _ (spliced (backTo _ (starEach [] _))) _ _ _); refine spliced_none ?_) | with_reducible refine wpAny_IfExp ?_))
        refine rRsh1 (Lo + Hi) rfl ?_
        generalize hmid : (Lo + Hi) / 2 = mid
        repeat (first | (first | ((with_reducible show wpAny _ _ (execs (Stmt.Assign [Expr.Name _ _] _ _ :: _) _) _ _ _); refine rAs ?_) | with_reducible refine rRet ?_ | with_reducible refine rIf ?_ | with_reducible refine wpAny_BinOp ?_ | with_reducible refine rI ?_ | with_reducible refine rS ?_ | ((with_reducible show wpAny _ _ (eval (Expr.Name _ _) _) _ _ _); refine nL (by assumption) rfl ?_) | ((with_reducible show wpAny _ _ (storeName _ _ _) _ _ _); refine rSt (by assumption) ?_; intro _ _) | ((with_reducible show wpAny _ _ (isTrue (Expr.Compare _ [_] [_] _) _ _) _ _ _); refine wpAny_isTrue_Compare1 ?_) | with_reducible refine wpAny_truthy_bool ?_ | with_reducible refine rEq ?_ | ((with_reducible show wpAny _ _ (eval (Expr.Call _ _ [] _) _) _ _ _); refine Call_ ?_) | ((with_reducible show wpAny _ _ (spliced (backTo _ (starEach (_ :: _) _))) _ _ _); refine spliced_more ?_) | ((with_reducible show wpAny _ _ (spliced (backTo _ (starEach [] _))) _ _ _); refine spliced_none ?_) | with_reducible refine wpAny_IfExp ?_) | (dsimp only; first | ((with_reducible show wpAny _ _ (execs (Stmt.Assign [Expr.Name _ _] _ _ :: _) _) _ _ _); refine rAs ?_) | with_reducible refine rRet ?_ | with_reducible refine rIf ?_ | with_reducible refine wpAny_BinOp ?_ | with_reducible refine rI ?_ | with_reducible refine rS ?_ | ((with_reducible show wpAny _ _ (eval (Expr.Name _ _) _) _ _ _); refine nL (by assumption) rfl ?_) | ((with_reducible show wpAny _ _ (storeName _ _ _) _ _ _); refine rSt (by assumption) ?_; intro _ _) | ((with_reducible show wpAny _ _ (isTrue (Expr.Compare _ [_] [_] _) _ _) _ _ _); refine wpAny_isTrue_Compare1 ?_) | with_reducible refine wpAny_truthy_bool ?_ | with_reducible refine rEq ?_ | ((with_reducible show wpAny _ _ (eval (Expr.Call _ _ [] _) _) _ _ _); refine Call_ ?_) | ((with_reducible show wpAny _ _ (spliced (backTo _ (starEach (_ :: _) _))) _ _ _); refine spliced_more ?_) | ((with_reducible show wpAny _ _ (spliced (backTo _ (starEach [] _))) _ _ _); refine spliced_none ?_) | with_reducible refine wpAny_IfExp ?_))
        refine rSub (mid - Lo : Nat) (by (clear hn0 hn hLL hcc hc hla hla0 hf hct hLf hlf h1 h3 hy hes hlt hq; omega)) ?_
        rename_i h9 F9
        have K9 := K'.trans F9.kp
        refine nF rfl (K9.cell hc1 (nt _ (by (clear hn0 hn hLL hcc hc hla hla0 hf hct hLf hlf h1 h2 h3 hy hes hlt hq hmid; omega))) (n1 _ (by (clear hn0 hn hLL hcc hc hla hf hct hLf hlf h1 h2 h3 hy hes hlt hq hmid; omega)))) ?_
        refine rMul ((mid - Lo) * n : Nat) (by rw [Int.natCast_mul]) (.inl (bits_nat (Nat.lt_of_le_of_lt (show mid - Lo ≤ 1000 by (clear hn0 hn hLL hla hla0 hf hct hLf hlf h1 h2 hy hlt hq; omega)) (by decide)))) ?_
        generalize hs : (mid - Lo) * n = sh
        repeat (first | (first | ((with_reducible show wpAny _ _ (execs (Stmt.Assign [Expr.Name _ _] _ _ :: _) _) _ _ _); refine rAs ?_) | with_reducible refine rRet ?_ | with_reducible refine rIf ?_ | with_reducible refine wpAny_BinOp ?_ | with_reducible refine rI ?_ | with_reducible refine rS ?_ | ((with_reducible show wpAny _ _ (eval (Expr.Name _ _) _) _ _ _); refine nL (by assumption) rfl ?_) | ((with_reducible show wpAny _ _ (storeName _ _ _) _ _ _); refine rSt (by assumption) ?_; intro _ _) | ((with_reducible show wpAny _ _ (isTrue (Expr.Compare _ [_] [_] _) _ _) _ _ _); refine wpAny_isTrue_Compare1 ?_) | with_reducible refine wpAny_truthy_bool ?_ | with_reducible refine rEq ?_ | ((with_reducible show wpAny _ _ (eval (Expr.Call _ _ [] _) _) _ _ _); refine Call_ ?_) | ((with_reducible show wpAny _ _ (spliced (backTo _ (starEach (_ :: _) _))) _ _ _); refine spliced_more ?_) | ((with_reducible show wpAny _ _ (spliced (backTo _ (starEach [] _))) _ _ _); refine spliced_none ?_) | with_reducible refine wpAny_IfExp ?_) | (dsimp only; first | ((with_reducible show wpAny _ _ (execs (Stmt.Assign [Expr.Name _ _] _ _ :: _) _) _ _ _); refine rAs ?_) | with_reducible refine rRet ?_ | with_reducible refine rIf ?_ | with_reducible refine wpAny_BinOp ?_ | with_reducible refine rI ?_ | with_reducible refine rS ?_ | ((with_reducible show wpAny _ _ (eval (Expr.Name _ _) _) _ _ _); refine nL (by assumption) rfl ?_) | ((with_reducible show wpAny _ _ (storeName _ _ _) _ _ _); refine rSt (by assumption) ?_; intro _ _) | ((with_reducible show wpAny _ _ (isTrue (Expr.Compare _ [_] [_] _) _ _) _ _ _); refine wpAny_isTrue_Compare1 ?_) | with_reducible refine wpAny_truthy_bool ?_ | with_reducible refine rEq ?_ | ((with_reducible show wpAny _ _ (eval (Expr.Call _ _ [] _) _) _ _ _); refine Call_ ?_) | ((with_reducible show wpAny _ _ (spliced (backTo _ (starEach (_ :: _) _))) _ _ _); refine spliced_more ?_) | ((with_reducible show wpAny _ _ (spliced (backTo _ (starEach [] _))) _ _ _); refine spliced_none ?_) | with_reducible refine wpAny_IfExp ?_))
        refine rRsh sh _ rfl (fdivP _ _) ?_
        repeat (first | (first | ((with_reducible show wpAny _ _ (execs (Stmt.Assign [Expr.Name _ _] _ _ :: _) _) _ _ _); refine rAs ?_) | with_reducible refine rRet ?_ | with_reducible refine rIf ?_ | with_reducible refine wpAny_BinOp ?_ | with_reducible refine rI ?_ | with_reducible refine rS ?_ | ((with_reducible show wpAny _ _ (eval (Expr.Name _ _) _) _ _ _); refine nL (by assumption) rfl ?_) | ((with_reducible show wpAny _ _ (storeName _ _ _) _ _ _); refine rSt (by assumption) ?_; intro _ _) | ((with_reducible show wpAny _ _ (isTrue (Expr.Compare _ [_] [_] _) _ _) _ _ _); refine wpAny_isTrue_Compare1 ?_) | with_reducible refine wpAny_truthy_bool ?_ | with_reducible refine rEq ?_ | ((with_reducible show wpAny _ _ (eval (Expr.Call _ _ [] _) _) _ _ _); refine Call_ ?_) | ((with_reducible show wpAny _ _ (spliced (backTo _ (starEach (_ :: _) _))) _ _ _); refine spliced_more ?_) | ((with_reducible show wpAny _ _ (spliced (backTo _ (starEach [] _))) _ _ _); refine spliced_none ?_) | with_reducible refine wpAny_IfExp ?_) | (dsimp only; first | ((with_reducible show wpAny _ _ (execs (Stmt.Assign [Expr.Name _ _] _ _ :: _) _) _ _ _); refine rAs ?_) | with_reducible refine rRet ?_ | with_reducible refine rIf ?_ | with_reducible refine wpAny_BinOp ?_ | with_reducible refine rI ?_ | with_reducible refine rS ?_ | ((with_reducible show wpAny _ _ (eval (Expr.Name _ _) _) _ _ _); refine nL (by assumption) rfl ?_) | ((with_reducible show wpAny _ _ (storeName _ _ _) _ _ _); refine rSt (by assumption) ?_; intro _ _) | ((with_reducible show wpAny _ _ (isTrue (Expr.Compare _ [_] [_] _) _ _) _ _ _); refine wpAny_isTrue_Compare1 ?_) | with_reducible refine wpAny_truthy_bool ?_ | with_reducible refine rEq ?_ | ((with_reducible show wpAny _ _ (eval (Expr.Call _ _ [] _) _) _ _ _); refine Call_ ?_) | ((with_reducible show wpAny _ _ (spliced (backTo _ (starEach (_ :: _) _))) _ _ _); refine spliced_more ?_) | ((with_reducible show wpAny _ _ (spliced (backTo _ (starEach [] _))) _ _ _); refine spliced_none ?_) | with_reducible refine wpAny_IfExp ?_))
        have hbu : y / 2 ^ sh < 2 ^ (n * (Hi - mid)) := by
          rw [Nat.div_lt_iff_lt_mul (Nat.pow_pos (by (clear hn0 hn hLL hcc hc hla hla0 hf hct hLf hlf h1 h2 h3 hy hes hlt hq hmid hs; omega))), ← Nat.pow_add, ← hs, Nat.mul_comm (mid - Lo), ← Nat.mul_add]
          have : Hi - mid + (mid - Lo) = Hi - Lo := by (clear hn0 hn hLL hcc hc hla hla0 hf hct hLf hlf h1 h3 hy hes hlt hs; omega)
          rw [this]; exact hy
        refine rLsh sh ((y / 2 ^ sh * 2 ^ sh : Nat) : Int) rfl (by simp) rm7.hd ?_ ?_
        · have q1 := bits_nat hbu
          have q2 : n * (Hi - mid) ≤ 1000 * 1000 := Nat.mul_le_mul hn (by (clear hn0 hn hLL hla hla0 hf hct hLf hlf h1 hy hlt hq hmid hs hbu q1; omega))
          have q3 : (mid - Lo) * n ≤ 1000 * 1000 := Nat.mul_le_mul (by (clear hn0 hn hLL hla hla0 hf hct hLf hlf h1 h2 hy hlt hq hs hbu q1 q2; omega)) hn
          (clear hn0 hn hLL hcc hc hla hla0 hf hct hLf hlf h1 h2 h3 hy hes hlt hq hmid hbu; omega)
        refine rXor _ (low_xor y sh) ?_
        repeat (first | (first | ((with_reducible show wpAny _ _ (execs (Stmt.Assign [Expr.Name _ _] _ _ :: _) _) _ _ _); refine rAs ?_) | with_reducible refine rRet ?_ | with_reducible refine rIf ?_ | with_reducible refine wpAny_BinOp ?_ | with_reducible refine rI ?_ | with_reducible refine rS ?_ | ((with_reducible show wpAny _ _ (eval (Expr.Name _ _) _) _ _ _); refine nL (by assumption) rfl ?_) | ((with_reducible show wpAny _ _ (storeName _ _ _) _ _ _); refine rSt (by assumption) ?_; intro _ _) | ((with_reducible show wpAny _ _ (isTrue (Expr.Compare _ [_] [_] _) _ _) _ _ _); refine wpAny_isTrue_Compare1 ?_) | with_reducible refine wpAny_truthy_bool ?_ | with_reducible refine rEq ?_ | ((with_reducible show wpAny _ _ (eval (Expr.Call _ _ [] _) _) _ _ _); refine Call_ ?_) | ((with_reducible show wpAny _ _ (spliced (backTo _ (starEach (_ :: _) _))) _ _ _); refine spliced_more ?_) | ((with_reducible show wpAny _ _ (spliced (backTo _ (starEach [] _))) _ _ _); refine spliced_none ?_) | with_reducible refine wpAny_IfExp ?_) | (dsimp only; first | ((with_reducible show wpAny _ _ (execs (Stmt.Assign [Expr.Name _ _] _ _ :: _) _) _ _ _); refine rAs ?_) | with_reducible refine rRet ?_ | with_reducible refine rIf ?_ | with_reducible refine wpAny_BinOp ?_ | with_reducible refine rI ?_ | with_reducible refine rS ?_ | ((with_reducible show wpAny _ _ (eval (Expr.Name _ _) _) _ _ _); refine nL (by assumption) rfl ?_) | ((with_reducible show wpAny _ _ (storeName _ _ _) _ _ _); refine rSt (by assumption) ?_; intro _ _) | ((with_reducible show wpAny _ _ (isTrue (Expr.Compare _ [_] [_] _) _ _) _ _ _); refine wpAny_isTrue_Compare1 ?_) | with_reducible refine wpAny_truthy_bool ?_ | with_reducible refine rEq ?_ | ((with_reducible show wpAny _ _ (eval (Expr.Call _ _ [] _) _) _ _ _); refine Call_ ?_) | ((with_reducible show wpAny _ _ (spliced (backTo _ (starEach (_ :: _) _))) _ _ _); refine spliced_more ?_) | ((with_reducible show wpAny _ _ (spliced (backTo _ (starEach [] _))) _ _ _); refine spliced_none ?_) | with_reducible refine wpAny_IfExp ?_))
        rename_i h10 F10
        have K10 := K'.trans F10.kp
        refine rEx ?_
        repeat (first | (first | ((with_reducible show wpAny _ _ (execs (Stmt.Assign [Expr.Name _ _] _ _ :: _) _) _ _ _); refine rAs ?_) | with_reducible refine rRet ?_ | with_reducible refine rIf ?_ | with_reducible refine wpAny_BinOp ?_ | with_reducible refine rI ?_ | with_reducible refine rS ?_ | ((with_reducible show wpAny _ _ (eval (Expr.Name _ _) _) _ _ _); refine nL (by assumption) rfl ?_) | ((with_reducible show wpAny _ _ (storeName _ _ _) _ _ _); refine rSt (by assumption) ?_; intro _ _) | ((with_reducible show wpAny _ _ (isTrue (Expr.Compare _ [_] [_] _) _ _) _ _ _); refine wpAny_isTrue_Compare1 ?_) | with_reducible refine wpAny_truthy_bool ?_ | with_reducible refine rEq ?_ | ((with_reducible show wpAny _ _ (eval (Expr.Call _ _ [] _) _) _ _ _); refine Call_ ?_) | ((with_reducible show wpAny _ _ (spliced (backTo _ (starEach (_ :: _) _))) _ _ _); refine spliced_more ?_) | ((with_reducible show wpAny _ _ (spliced (backTo _ (starEach [] _))) _ _ _); refine spliced_none ?_) | with_reducible refine wpAny_IfExp ?_) | (dsimp only; first | ((with_reducible show wpAny _ _ (execs (Stmt.Assign [Expr.Name _ _] _ _ :: _) _) _ _ _); refine rAs ?_) | with_reducible refine rRet ?_ | with_reducible refine rIf ?_ | with_reducible refine wpAny_BinOp ?_ | with_reducible refine rI ?_ | with_reducible refine rS ?_ | ((with_reducible show wpAny _ _ (eval (Expr.Name _ _) _) _ _ _); refine nL (by assumption) rfl ?_) | ((with_reducible show wpAny _ _ (storeName _ _ _) _ _ _); refine rSt (by assumption) ?_; intro _ _) | ((with_reducible show wpAny _ _ (isTrue (Expr.Compare _ [_] [_] _) _ _) _ _ _); refine wpAny_isTrue_Compare1 ?_) | with_reducible refine wpAny_truthy_bool ?_ | with_reducible refine rEq ?_ | ((with_reducible show wpAny _ _ (eval (Expr.Call _ _ [] _) _) _ _ _); refine Call_ ?_) | ((with_reducible show wpAny _ _ (spliced (backTo _ (starEach (_ :: _) _))) _ _ _); refine spliced_more ?_) | ((with_reducible show wpAny _ _ (spliced (backTo _ (starEach [] _))) _ _ _); refine spliced_none ?_) | with_reducible refine wpAny_IfExp ?_))
        refine nF rfl (K10.cell hc3 (nt _ (by (clear hn0 hn hLL hcc hc hla hla0 hf hct hLf hlf h1 h2 h3 hy hes hlt hq hmid hs hbu; omega))) (n1 _ (by (clear hn0 hn hLL hcc hc hla hf hct hLf hlf h1 h2 h3 hy hes hlt hq hmid hs hbu; omega)))) ?_
        have hfo10 := K10.kp _ _ hfo5 (nt _ hLf) (n1 _ (Nat.ne_of_gt hlf))
        refine rCW hfo10 rfl ?_
        repeat (first | (first | ((with_reducible show wpAny _ _ (execs (Stmt.Assign [Expr.Name _ _] _ _ :: _) _) _ _ _); refine rAs ?_) | with_reducible refine rRet ?_ | with_reducible refine rIf ?_ | with_reducible refine wpAny_BinOp ?_ | with_reducible refine rI ?_ | with_reducible refine rS ?_ | ((with_reducible show wpAny _ _ (eval (Expr.Name _ _) _) _ _ _); refine nL (by assumption) rfl ?_) | ((with_reducible show wpAny _ _ (storeName _ _ _) _ _ _); refine rSt (by assumption) ?_; intro _ _) | ((with_reducible show wpAny _ _ (isTrue (Expr.Compare _ [_] [_] _) _ _) _ _ _); refine wpAny_isTrue_Compare1 ?_) | with_reducible refine wpAny_truthy_bool ?_ | with_reducible refine rEq ?_ | ((with_reducible show wpAny _ _ (eval (Expr.Call _ _ [] _) _) _ _ _); refine Call_ ?_) | ((with_reducible show wpAny _ _ (spliced (backTo _ (starEach (_ :: _) _))) _ _ _); refine spliced_more ?_) | ((with_reducible show wpAny _ _ (spliced (backTo _ (starEach [] _))) _ _ _); refine spliced_none ?_) | with_reducible refine wpAny_IfExp ?_) | (dsimp only; first | ((with_reducible show wpAny _ _ (execs (Stmt.Assign [Expr.Name _ _] _ _ :: _) _) _ _ _); refine rAs ?_) | with_reducible refine rRet ?_ | with_reducible refine rIf ?_ | with_reducible refine wpAny_BinOp ?_ | with_reducible refine rI ?_ | with_reducible refine rS ?_ | ((with_reducible show wpAny _ _ (eval (Expr.Name _ _) _) _ _ _); refine nL (by assumption) rfl ?_) | ((with_reducible show wpAny _ _ (storeName _ _ _) _ _ _); refine rSt (by assumption) ?_; intro _ _) | ((with_reducible show wpAny _ _ (isTrue (Expr.Compare _ [_] [_] _) _ _) _ _ _); refine wpAny_isTrue_Compare1 ?_) | with_reducible refine wpAny_truthy_bool ?_ | with_reducible refine rEq ?_ | ((with_reducible show wpAny _ _ (eval (Expr.Call _ _ [] _) _) _ _ _); refine Call_ ?_) | ((with_reducible show wpAny _ _ (spliced (backTo _ (starEach (_ :: _) _))) _ _ _); refine spliced_more ?_) | ((with_reducible show wpAny _ _ (spliced (backTo _ (starEach [] _))) _ _ _); refine spliced_none ?_) | with_reducible refine wpAny_IfExp ?_))
        refine ⟨hfo10, ?_⟩
        have hsn : n * (mid - Lo) = sh := by rw [Nat.mul_comm]; exact hs
        refine ih Lo mid (y % 2 ^ sh) (by (clear hn0 hn hLL hcc hc hla hla0 hf hct hLf hlf h3 hy hes hlt hs hbu hsn; omega)) (by (clear hn0 hn hLL hcc hc hla hla0 hf hct hLf hlf h1 h3 hy hes hlt hs hbu hsn; omega)) (by (clear hn0 hn hLL hcc hc hla hla0 hf hct hLf hlf h1 hy hlt hq hs hbu hsn; omega)) (by rw [hsn]; exact Nat.mod_lt _ (Nat.pow_pos (by (clear hn0 hn hLL hcc hc hla hla0 hf hct hLf hlf h1 h2 h3 hy hes hlt hq hmid hs hbu hsn; omega)))) _ _ _ _ _ _ _ ws es F10.ok K10 ⟨ol, F10.at 0 rfl, cl, en, dl⟩ hi' hes rm7 ?_
        intro h11 tks11 ws11 k11 K11 hl11 hi11
        obtain ⟨o11, e11, r11⟩ := id hl11
        have F11 := F10.call1 0 rfl k11 K11 e11
        have K12 := K'.trans F11.kp
        refine rEx ?_
        repeat (first | (first | ((with_reducible show wpAny _ _ (execs (Stmt.Assign [Expr.Name _ _] _ _ :: _) _) _ _ _); refine rAs ?_) | with_reducible refine rRet ?_ | with_reducible refine rIf ?_ | with_reducible refine wpAny_BinOp ?_ | with_reducible refine rI ?_ | with_reducible refine rS ?_ | ((with_reducible show wpAny _ _ (eval (Expr.Name _ _) _) _ _ _); refine nL (by assumption) rfl ?_) | ((with_reducible show wpAny _ _ (storeName _ _ _) _ _ _); refine rSt (by assumption) ?_; intro _ _) | ((with_reducible show wpAny _ _ (isTrue (Expr.Compare _ [_] [_] _) _ _) _ _ _); refine wpAny_isTrue_Compare1 ?_) | with_reducible refine wpAny_truthy_bool ?_ | with_reducible refine rEq ?_ | ((with_reducible show wpAny _ _ (eval (Expr.Call _ _ [] _) _) _ _ _); refine Call_ ?_) | ((with_reducible show wpAny _ _ (spliced (backTo _ (starEach (_ :: _) _))) _ _ _); refine spliced_more ?_) | ((with_reducible show wpAny _ _ (spliced (backTo _ (starEach [] _))) _ _ _); refine spliced_none ?_) | with_reducible refine wpAny_IfExp ?_) | (dsimp only; first | ((with_reducible show wpAny _ _ (execs (Stmt.Assign [Expr.Name _ _] _ _ :: _) _) _ _ _); refine rAs ?_) | with_reducible refine rRet ?_ | with_reducible refine rIf ?_ | with_reducible refine wpAny_BinOp ?_ | with_reducible refine rI ?_ | with_reducible refine rS ?_ | ((with_reducible show wpAny _ _ (eval (Expr.Name _ _) _) _ _ _); refine nL (by assumption) rfl ?_) | ((with_reducible show wpAny _ _ (storeName _ _ _) _ _ _); refine rSt (by assumption) ?_; intro _ _) | ((with_reducible show wpAny _ _ (isTrue (Expr.Compare _ [_] [_] _) _ _) _ _ _); refine wpAny_isTrue_Compare1 ?_) | with_reducible refine wpAny_truthy_bool ?_ | with_reducible refine rEq ?_ | ((with_reducible show wpAny _ _ (eval (Expr.Call _ _ [] _) _) _ _ _); refine Call_ ?_) | ((with_reducible show wpAny _ _ (spliced (backTo _ (starEach (_ :: _) _))) _ _ _); refine spliced_more ?_) | ((with_reducible show wpAny _ _ (spliced (backTo _ (starEach [] _))) _ _ _); refine spliced_none ?_) | with_reducible refine wpAny_IfExp ?_))
        refine nF rfl (K12.cell hc3 (nt _ (by (clear hn0 hn hLL hcc hc hla hla0 hf hct hLf hlf h1 h2 h3 hy hes hlt hq hmid hs hbu hsn r11; omega))) (n1 _ (by (clear hn0 hn hLL hcc hc hla hf hct hLf hlf h1 h2 h3 hy hes hlt hq hmid hs hbu hsn r11; omega)))) ?_
        have hfo12 := K12.kp _ _ hfo5 (nt _ hLf) (n1 _ (Nat.ne_of_gt hlf))
        refine rCW hfo12 rfl ?_
        repeat (first | (first | ((with_reducible show wpAny _ _ (execs (Stmt.Assign [Expr.Name _ _] _ _ :: _) _) _ _ _); refine rAs ?_) | with_reducible refine rRet ?_ | with_reducible refine rIf ?_ | with_reducible refine wpAny_BinOp ?_ | with_reducible refine rI ?_ | with_reducible refine rS ?_ | ((with_reducible show wpAny _ _ (eval (Expr.Name _ _) _) _ _ _); refine nL (by assumption) rfl ?_) | ((with_reducible show wpAny _ _ (storeName _ _ _) _ _ _); refine rSt (by assumption) ?_; intro _ _) | ((with_reducible show wpAny _ _ (isTrue (Expr.Compare _ [_] [_] _) _ _) _ _ _); refine wpAny_isTrue_Compare1 ?_) | with_reducible refine wpAny_truthy_bool ?_ | with_reducible refine rEq ?_ | ((with_reducible show wpAny _ _ (eval (Expr.Call _ _ [] _) _) _ _ _); refine Call_ ?_) | ((with_reducible show wpAny _ _ (spliced (backTo _ (starEach (_ :: _) _))) _ _ _); refine spliced_more ?_) | ((with_reducible show wpAny _ _ (spliced (backTo _ (starEach [] _))) _ _ _); refine spliced_none ?_) | with_reducible refine wpAny_IfExp ?_) | (dsimp only; first | ((with_reducible show wpAny _ _ (execs (Stmt.Assign [Expr.Name _ _] _ _ :: _) _) _ _ _); refine rAs ?_) | with_reducible refine rRet ?_ | with_reducible refine rIf ?_ | with_reducible refine wpAny_BinOp ?_ | with_reducible refine rI ?_ | with_reducible refine rS ?_ | ((with_reducible show wpAny _ _ (eval (Expr.Name _ _) _) _ _ _); refine nL (by assumption) rfl ?_) | ((with_reducible show wpAny _ _ (storeName _ _ _) _ _ _); refine rSt (by assumption) ?_; intro _ _) | ((with_reducible show wpAny _ _ (isTrue (Expr.Compare _ [_] [_] _) _ _) _ _ _); refine wpAny_isTrue_Compare1 ?_) | with_reducible refine wpAny_truthy_bool ?_ | with_reducible refine rEq ?_ | ((with_reducible show wpAny _ _ (eval (Expr.Call _ _ [] _) _) _ _ _); refine Call_ ?_) | ((with_reducible show wpAny _ _ (spliced (backTo _ (starEach (_ :: _) _))) _ _ _); refine spliced_more ?_) | ((with_reducible show wpAny _ _ (spliced (backTo _ (starEach [] _))) _ _ _); refine spliced_none ?_) | with_reducible refine wpAny_IfExp ?_))
        refine ⟨hfo12, ?_⟩
        have hlen1 : (es.take Lo ++ digs n (mid - Lo) (y % 2 ^ sh) ++ es.drop mid).length = c := by
          simp only [List.length_append, List.length_take, List.length_drop, digs_len, hes]; (clear hn0 hn hLL hcc hc hla hla0 hf hct hLf hlf h1 hy hlt hq hs hbu hsn r11; omega)
        refine ih mid Hi (y / 2 ^ sh) (by (clear hn0 hn hLL hcc hc hla hla0 hf hct hLf hlf h3 hy hes hlt hs hbu hsn r11 hlen1; omega)) (by (clear hn0 hn hLL hcc hc hla hla0 hf hct hLf hlf h1 h3 hy hes hlt hq hs hbu hsn r11 hlen1; omega)) (by (clear hn0 hn hLL hcc hc hla hla0 hf hct hLf hlf h1 h2 hy hlt hq hmid hs hbu hsn r11; omega)) hbu _ _ _ _ _ _ _ ws11 _ F11.ok K12 hl11 hi11 hlen1 rm7 ?_
        intro h13 tks13 ws13 k13 K13 hl13 hi13
        obtain ⟨o13, e13, r13⟩ := id hl13
        have F13 := F11.call1 0 rfl k13 K13 e13
        refine rNil ?_
        have e : (List.take mid (es.take Lo ++ digs n (mid - Lo) (y % 2 ^ sh) ++ es.drop mid)) ++ digs n (Hi - mid) (y / 2 ^ sh) ++ List.drop Hi (es.take Lo ++ digs n (mid - Lo) (y % 2 ^ sh) ++ es.drop mid) =
            es.take Lo ++ digs n (Hi - Lo) y ++ es.drop Hi := by
          have l1 : (es.take Lo ++ digs n (mid - Lo) (y % 2 ^ sh)).length = mid := by
            simp only [List.length_append, List.length_take, digs_len, hes]; (clear hn0 hn hLL hcc hc hla hla0 hf hct hLf hlf h1 hy hlt hq hs hbu hsn r11 r13; omega)
          rw [List.take_append_of_le_length (by (clear hn0 hn hLL hcc hc hla hla0 hf hct hLf hlf h1 h2 h3 hy hes hlt hq hmid hs hbu hsn r11 hlen1 r13; omega)), List.take_of_length_le (by (clear hn0 hn hLL hcc hc hla hla0 hf hct hLf hlf h1 h2 h3 hy hes hlt hq hmid hs hbu hsn r11 hlen1 r13; omega))]
          rw [List.drop_append, List.drop_of_length_le (by (clear hn0 hn hLL hcc hc hla hla0 hf hct hLf hlf h1 h3 hy hes hlt hq hs hbu hsn r11 hlen1 r13; omega)), List.nil_append, List.drop_drop, l1]
          have e1 : Hi - Lo = (mid - Lo) + (Hi - mid) := by (clear hn0 hn hLL hcc hc hla hla0 hf hct hLf hlf h1 h3 hy hes hlt hs hbu hsn r11 hlen1 r13; omega)
          rw [e1, digs_add, hsn, List.append_assoc, List.append_assoc, List.append_assoc, List.append_assoc]
          have e2 : mid + (Hi - mid) = Hi := by (clear hn0 hn hLL hcc hc hla hla0 hf hct hLf hlf h1 h3 hy hes hlt hq hs hbu hsn r11 hlen1 r13 e1; omega)
          rw [e2]
        have q := fun tks => hR h13 tks ws13 F13.ok F13.kp hl13 (e ▸ hi13)
        exact q _
  have hc' : ∀ x', (List.replicate c (0 : Int)).take 0 ++ digs n (c - 0) x' ++ (List.replicate c (0 : Int)).drop c = digs n c x' := by
    intro x'
    simp
  refine rIf ?_
  refine isTrue_plain ?_
  repeat (first | (first | ((with_reducible show wpAny _ _ (execs (Stmt.Assign [Expr.Name _ _] _ _ :: _) _) _ _ _); refine rAs ?_) | with_reducible refine rRet ?_ | with_reducible refine rIf ?_ | with_reducible refine wpAny_BinOp ?_ | with_reducible refine rI ?_ | with_reducible refine rS ?_ | ((with_reducible show wpAny _ _ (eval (Expr.Name _ _) _) _ _ _); refine nL (by assumption) rfl ?_) | ((with_reducible show wpAny _ _ (storeName _ _ _) _ _ _); refine rSt (by assumption) ?_; intro _ _) | ((with_reducible show wpAny _ _ (isTrue (Expr.Compare _ [_] [_] _) _ _) _ _ _); refine wpAny_isTrue_Compare1 ?_) | with_reducible refine wpAny_truthy_bool ?_ | with_reducible refine rEq ?_ | ((with_reducible show wpAny _ _ (eval (Expr.Call _ _ [] _) _) _ _ _); refine Call_ ?_) | ((with_reducible show wpAny _ _ (spliced (backTo _ (starEach (_ :: _) _))) _ _ _); refine spliced_more ?_) | ((with_reducible show wpAny _ _ (spliced (backTo _ (starEach [] _))) _ _ _); refine spliced_none ?_) | with_reducible refine wpAny_IfExp ?_) | (dsimp only; first | ((with_reducible show wpAny _ _ (execs (Stmt.Assign [Expr.Name _ _] _ _ :: _) _) _ _ _); refine rAs ?_) | with_reducible refine rRet ?_ | with_reducible refine rIf ?_ | with_reducible refine wpAny_BinOp ?_ | with_reducible refine rI ?_ | with_reducible refine rS ?_ | ((with_reducible show wpAny _ _ (eval (Expr.Name _ _) _) _ _ _); refine nL (by assumption) rfl ?_) | ((with_reducible show wpAny _ _ (storeName _ _ _) _ _ _); refine rSt (by assumption) ?_; intro _ _) | ((with_reducible show wpAny _ _ (isTrue (Expr.Compare _ [_] [_] _) _ _) _ _ _); refine wpAny_isTrue_Compare1 ?_) | with_reducible refine wpAny_truthy_bool ?_ | with_reducible refine rEq ?_ | ((with_reducible show wpAny _ _ (eval (Expr.Call _ _ [] _) _) _ _ _); refine Call_ ?_) | ((with_reducible show wpAny _ _ (spliced (backTo _ (starEach (_ :: _) _))) _ _ _); refine spliced_more ?_) | ((with_reducible show wpAny _ _ (spliced (backTo _ (starEach [] _))) _ _ _); refine spliced_none ?_) | with_reducible refine wpAny_IfExp ?_))
  refine rTru ?_
  have hbits : Builtin.Int.intBits (x : Int) ≤ n * c := by
    have h1 : Builtin.Int.intBits (x : Int) + n - 1 < n * (c + 1) := by
      rw [← hcc]
      exact Nat.lt_mul_div_succ _ hn0
    rw [Nat.mul_add, Nat.mul_one] at h1
    (clear hn0 hn hLL hcc hc hla hla0 hf hct hLf hlf; omega)
  have hxlt : x < 2 ^ (n * c) := by
    have := intBits_le_iff.mp hbits
    rwa [Int.natAbs_natCast] at this
  by_cases hx0 : x = 0
  · subst hx0
    refine iteF (by simp) ?_
    refine nilNext ?_
    refine rRet ?_
    refine nC rfl hc2 ?_
    have hc0 : c = 0 := by
      rw [← hcc]
      show (Builtin.Int.intBits 0 + n - 1) / n = 0
      have : Builtin.Int.intBits 0 = 0 := by decide
      rw [this]
      exact Nat.div_eq_of_lt (by (clear hLL hc hla hla0 hf hct hLf hlf hcc hbits hxlt this; omega))
    subst hc0
    have q := fun tks => h la [] h₅ tks F6.ok F6.kp (by (clear hn0 hn hLL hla hf hct hLf hlf hc hcc hbits hxlt; omega)) ⟨_, hl5, rfl, _, rfl⟩ .nil
    exact q _
  · refine iteT (by simpa using hx0) ?_
    have hfo5' := hfo5
    have hcp : 0 < c := by
      rcases Nat.eq_zero_or_pos c with z | z
      · subst z
        simp at hxlt
        (clear hn0 hn hLL hla hla0 hf hct hLf hlf hcc hc hbits; omega)
      · exact z
    refine rEx ?_
    repeat (first | (first | ((with_reducible show wpAny _ _ (execs (Stmt.Assign [Expr.Name _ _] _ _ :: _) _) _ _ _); refine rAs ?_) | with_reducible refine rRet ?_ | with_reducible refine rIf ?_ | with_reducible refine wpAny_BinOp ?_ | with_reducible refine rI ?_ | with_reducible refine rS ?_ | ((with_reducible show wpAny _ _ (eval (Expr.Name _ _) _) _ _ _); refine nL (by assumption) rfl ?_) | ((with_reducible show wpAny _ _ (storeName _ _ _) _ _ _); refine rSt (by assumption) ?_; intro _ _) | ((with_reducible show wpAny _ _ (isTrue (Expr.Compare _ [_] [_] _) _ _) _ _ _); refine wpAny_isTrue_Compare1 ?_) | with_reducible refine wpAny_truthy_bool ?_ | with_reducible refine rEq ?_ | ((with_reducible show wpAny _ _ (eval (Expr.Call _ _ [] _) _) _ _ _); refine Call_ ?_) | ((with_reducible show wpAny _ _ (spliced (backTo _ (starEach (_ :: _) _))) _ _ _); refine spliced_more ?_) | ((with_reducible show wpAny _ _ (spliced (backTo _ (starEach [] _))) _ _ _); refine spliced_none ?_) | with_reducible refine wpAny_IfExp ?_) | (dsimp only; first | ((with_reducible show wpAny _ _ (execs (Stmt.Assign [Expr.Name _ _] _ _ :: _) _) _ _ _); refine rAs ?_) | with_reducible refine rRet ?_ | with_reducible refine rIf ?_ | with_reducible refine wpAny_BinOp ?_ | with_reducible refine rI ?_ | with_reducible refine rS ?_ | ((with_reducible show wpAny _ _ (eval (Expr.Name _ _) _) _ _ _); refine nL (by assumption) rfl ?_) | ((with_reducible show wpAny _ _ (storeName _ _ _) _ _ _); refine rSt (by assumption) ?_; intro _ _) | ((with_reducible show wpAny _ _ (isTrue (Expr.Compare _ [_] [_] _) _ _) _ _ _); refine wpAny_isTrue_Compare1 ?_) | with_reducible refine wpAny_truthy_bool ?_ | with_reducible refine rEq ?_ | ((with_reducible show wpAny _ _ (eval (Expr.Call _ _ [] _) _) _ _ _); refine Call_ ?_) | ((with_reducible show wpAny _ _ (spliced (backTo _ (starEach (_ :: _) _))) _ _ _); refine spliced_more ?_) | ((with_reducible show wpAny _ _ (spliced (backTo _ (starEach [] _))) _ _ _); refine spliced_none ?_) | with_reducible refine wpAny_IfExp ?_))
    refine nC rfl hc3 ?_
    refine rCW hfo5 rfl ?_
    repeat (first | (first | ((with_reducible show wpAny _ _ (execs (Stmt.Assign [Expr.Name _ _] _ _ :: _) _) _ _ _); refine rAs ?_) | with_reducible refine rRet ?_ | with_reducible refine rIf ?_ | with_reducible refine wpAny_BinOp ?_ | with_reducible refine rI ?_ | with_reducible refine rS ?_ | ((with_reducible show wpAny _ _ (eval (Expr.Name _ _) _) _ _ _); refine nL (by assumption) rfl ?_) | ((with_reducible show wpAny _ _ (storeName _ _ _) _ _ _); refine rSt (by assumption) ?_; intro _ _) | ((with_reducible show wpAny _ _ (isTrue (Expr.Compare _ [_] [_] _) _ _) _ _ _); refine wpAny_isTrue_Compare1 ?_) | with_reducible refine wpAny_truthy_bool ?_ | with_reducible refine rEq ?_ | ((with_reducible show wpAny _ _ (eval (Expr.Call _ _ [] _) _) _ _ _); refine Call_ ?_) | ((with_reducible show wpAny _ _ (spliced (backTo _ (starEach (_ :: _) _))) _ _ _); refine spliced_more ?_) | ((with_reducible show wpAny _ _ (spliced (backTo _ (starEach [] _))) _ _ _); refine spliced_none ?_) | with_reducible refine wpAny_IfExp ?_) | (dsimp only; first | ((with_reducible show wpAny _ _ (execs (Stmt.Assign [Expr.Name _ _] _ _ :: _) _) _ _ _); refine rAs ?_) | with_reducible refine rRet ?_ | with_reducible refine rIf ?_ | with_reducible refine wpAny_BinOp ?_ | with_reducible refine rI ?_ | with_reducible refine rS ?_ | ((with_reducible show wpAny _ _ (eval (Expr.Name _ _) _) _ _ _); refine nL (by assumption) rfl ?_) | ((with_reducible show wpAny _ _ (storeName _ _ _) _ _ _); refine rSt (by assumption) ?_; intro _ _) | ((with_reducible show wpAny _ _ (isTrue (Expr.Compare _ [_] [_] _) _ _) _ _ _); refine wpAny_isTrue_Compare1 ?_) | with_reducible refine wpAny_truthy_bool ?_ | with_reducible refine rEq ?_ | ((with_reducible show wpAny _ _ (eval (Expr.Call _ _ [] _) _) _ _ _); refine Call_ ?_) | ((with_reducible show wpAny _ _ (spliced (backTo _ (starEach (_ :: _) _))) _ _ _); refine spliced_more ?_) | ((with_reducible show wpAny _ _ (spliced (backTo _ (starEach [] _))) _ _ _); refine spliced_none ?_) | with_reducible refine wpAny_IfExp ?_))
    refine nB G F6 rfl rfl ?_
    refine PyProof.Rows.callWith_builtin1 ?_
    repeat (first | (first | ((with_reducible show wpAny _ _ (execs (Stmt.Assign [Expr.Name _ _] _ _ :: _) _) _ _ _); refine rAs ?_) | with_reducible refine rRet ?_ | with_reducible refine rIf ?_ | with_reducible refine wpAny_BinOp ?_ | with_reducible refine rI ?_ | with_reducible refine rS ?_ | ((with_reducible show wpAny _ _ (eval (Expr.Name _ _) _) _ _ _); refine nL (by assumption) rfl ?_) | ((with_reducible show wpAny _ _ (storeName _ _ _) _ _ _); refine rSt (by assumption) ?_; intro _ _) | ((with_reducible show wpAny _ _ (isTrue (Expr.Compare _ [_] [_] _) _ _) _ _ _); refine wpAny_isTrue_Compare1 ?_) | with_reducible refine wpAny_truthy_bool ?_ | with_reducible refine rEq ?_ | ((with_reducible show wpAny _ _ (eval (Expr.Call _ _ [] _) _) _ _ _); refine Call_ ?_) | ((with_reducible show wpAny _ _ (spliced (backTo _ (starEach (_ :: _) _))) _ _ _); refine spliced_more ?_) | ((with_reducible show wpAny _ _ (spliced (backTo _ (starEach [] _))) _ _ _); refine spliced_none ?_) | with_reducible refine wpAny_IfExp ?_) | (dsimp only; first | ((with_reducible show wpAny _ _ (execs (Stmt.Assign [Expr.Name _ _] _ _ :: _) _) _ _ _); refine rAs ?_) | with_reducible refine rRet ?_ | with_reducible refine rIf ?_ | with_reducible refine wpAny_BinOp ?_ | with_reducible refine rI ?_ | with_reducible refine rS ?_ | ((with_reducible show wpAny _ _ (eval (Expr.Name _ _) _) _ _ _); refine nL (by assumption) rfl ?_) | ((with_reducible show wpAny _ _ (storeName _ _ _) _ _ _); refine rSt (by assumption) ?_; intro _ _) | ((with_reducible show wpAny _ _ (isTrue (Expr.Compare _ [_] [_] _) _ _) _ _ _); refine wpAny_isTrue_Compare1 ?_) | with_reducible refine wpAny_truthy_bool ?_ | with_reducible refine rEq ?_ | ((with_reducible show wpAny _ _ (eval (Expr.Call _ _ [] _) _) _ _ _); refine Call_ ?_) | ((with_reducible show wpAny _ _ (spliced (backTo _ (starEach (_ :: _) _))) _ _ _); refine spliced_more ?_) | ((with_reducible show wpAny _ _ (spliced (backTo _ (starEach [] _))) _ _ _); refine spliced_none ?_) | with_reducible refine wpAny_IfExp ?_))
    refine nC rfl hc2 ?_
    repeat (first | (first | ((with_reducible show wpAny _ _ (execs (Stmt.Assign [Expr.Name _ _] _ _ :: _) _) _ _ _); refine rAs ?_) | with_reducible refine rRet ?_ | with_reducible refine rIf ?_ | with_reducible refine wpAny_BinOp ?_ | with_reducible refine rI ?_ | with_reducible refine rS ?_ | ((with_reducible show wpAny _ _ (eval (Expr.Name _ _) _) _ _ _); refine nL (by assumption) rfl ?_) | ((with_reducible show wpAny _ _ (storeName _ _ _) _ _ _); refine rSt (by assumption) ?_; intro _ _) | ((with_reducible show wpAny _ _ (isTrue (Expr.Compare _ [_] [_] _) _ _) _ _ _); refine wpAny_isTrue_Compare1 ?_) | with_reducible refine wpAny_truthy_bool ?_ | with_reducible refine rEq ?_ | ((with_reducible show wpAny _ _ (eval (Expr.Call _ _ [] _) _) _ _ _); refine Call_ ?_) | ((with_reducible show wpAny _ _ (spliced (backTo _ (starEach (_ :: _) _))) _ _ _); refine spliced_more ?_) | ((with_reducible show wpAny _ _ (spliced (backTo _ (starEach [] _))) _ _ _); refine spliced_none ?_) | with_reducible refine wpAny_IfExp ?_) | (dsimp only; first | ((with_reducible show wpAny _ _ (execs (Stmt.Assign [Expr.Name _ _] _ _ :: _) _) _ _ _); refine rAs ?_) | with_reducible refine rRet ?_ | with_reducible refine rIf ?_ | with_reducible refine wpAny_BinOp ?_ | with_reducible refine rI ?_ | with_reducible refine rS ?_ | ((with_reducible show wpAny _ _ (eval (Expr.Name _ _) _) _ _ _); refine nL (by assumption) rfl ?_) | ((with_reducible show wpAny _ _ (storeName _ _ _) _ _ _); refine rSt (by assumption) ?_; intro _ _) | ((with_reducible show wpAny _ _ (isTrue (Expr.Compare _ [_] [_] _) _ _) _ _ _); refine wpAny_isTrue_Compare1 ?_) | with_reducible refine wpAny_truthy_bool ?_ | with_reducible refine rEq ?_ | ((with_reducible show wpAny _ _ (eval (Expr.Call _ _ [] _) _) _ _ _); refine Call_ ?_) | ((with_reducible show wpAny _ _ (spliced (backTo _ (starEach (_ :: _) _))) _ _ _); refine spliced_more ?_) | ((with_reducible show wpAny _ _ (spliced (backTo _ (starEach [] _))) _ _ _); refine spliced_none ?_) | with_reducible refine wpAny_IfExp ?_))
    refine rLen (n := c) ⟨_, hl5, rfl, _, rfl⟩ (by simp) (by (clear hn0 hn hLL hla hla0 hf hct hLf hlf hbits hxlt hx0; omega)) ?_
    intro tl1 tl2
    repeat (first | (first | ((with_reducible show wpAny _ _ (execs (Stmt.Assign [Expr.Name _ _] _ _ :: _) _) _ _ _); refine rAs ?_) | with_reducible refine rRet ?_ | with_reducible refine rIf ?_ | with_reducible refine wpAny_BinOp ?_ | with_reducible refine rI ?_ | with_reducible refine rS ?_ | ((with_reducible show wpAny _ _ (eval (Expr.Name _ _) _) _ _ _); refine nL (by assumption) rfl ?_) | ((with_reducible show wpAny _ _ (storeName _ _ _) _ _ _); refine rSt (by assumption) ?_; intro _ _) | ((with_reducible show wpAny _ _ (isTrue (Expr.Compare _ [_] [_] _) _ _) _ _ _); refine wpAny_isTrue_Compare1 ?_) | with_reducible refine wpAny_truthy_bool ?_ | with_reducible refine rEq ?_ | ((with_reducible show wpAny _ _ (eval (Expr.Call _ _ [] _) _) _ _ _); refine Call_ ?_) | ((with_reducible show wpAny _ _ (spliced (backTo _ (starEach (_ :: _) _))) _ _ _); refine spliced_more ?_) | ((with_reducible show wpAny _ _ (spliced (backTo _ (starEach [] _))) _ _ _); refine spliced_none ?_) | with_reducible refine wpAny_IfExp ?_) | (dsimp only; first | ((with_reducible show wpAny _ _ (execs (Stmt.Assign [Expr.Name _ _] _ _ :: _) _) _ _ _); refine rAs ?_) | with_reducible refine rRet ?_ | with_reducible refine rIf ?_ | with_reducible refine wpAny_BinOp ?_ | with_reducible refine rI ?_ | with_reducible refine rS ?_ | ((with_reducible show wpAny _ _ (eval (Expr.Name _ _) _) _ _ _); refine nL (by assumption) rfl ?_) | ((with_reducible show wpAny _ _ (storeName _ _ _) _ _ _); refine rSt (by assumption) ?_; intro _ _) | ((with_reducible show wpAny _ _ (isTrue (Expr.Compare _ [_] [_] _) _ _) _ _ _); refine wpAny_isTrue_Compare1 ?_) | with_reducible refine wpAny_truthy_bool ?_ | with_reducible refine rEq ?_ | ((with_reducible show wpAny _ _ (eval (Expr.Call _ _ [] _) _) _ _ _); refine Call_ ?_) | ((with_reducible show wpAny _ _ (spliced (backTo _ (starEach (_ :: _) _))) _ _ _); refine spliced_more ?_) | ((with_reducible show wpAny _ _ (spliced (backTo _ (starEach [] _))) _ _ _); refine spliced_none ?_) | with_reducible refine wpAny_IfExp ?_))
    refine ⟨hfo5, ?_⟩
    refine inner c 0 c x (by (clear hn0 hn hLL hla hla0 hf hct hLf hlf hbits hxlt hx0; omega)) hcp (Nat.le_refl _) (by simpa using hxlt) _ _ _ _ _ _ _ (List.replicate c (Value.int 0 tk₁)) (List.replicate c 0) F6.ok Kp.refl ⟨_, hl5, rfl, _, rfl⟩ ?_ (by simp) (rm₁.le (by (clear hn0 hn hLL hcc hc hla hla0 hf hct hLf hlf hbits hxlt hx0 hcp; omega))) ?_
    · exact ints_rep _ c
    intro h13 tks13 ws13 k13 K13 hl13 hi13
    rw [hc'] at hi13
    obtain ⟨o13, e13, r13⟩ := id hl13
    have F13 := F6.call1 1 rfl k13 K13 e13
    refine nilNext ?_
    refine rRet ?_
    refine nC rfl ⟨_, F13.at 4 rfl, d2'⟩ ?_
    have q := fun tks => h la ws13 h13 tks F13.ok F13.kp (by (clear hn0 hn hLL hcc hc hla hf hct hLf hlf hbits hxlt hx0 hcp r13; omega)) hl13 hi13
    exact q _
end Mine

namespace Mine
section
variable {w : World} {A : Around} {E : Value → Shared → Prop} {Q : Value → Shared → Prop} {t u : Tok} {hp : Heap} {gn : Array GenState} {dr : Drawn} {tk : Nat} {os : OsState}
theorem rLe {a b : Int} (h : Q (.bool (decide (a ≤ b))) ⟨hp, gn, dr, tk, os⟩) : wpAny (model PP w) A (compareOp .LtE (.int a t) (.int b u)) Q E ⟨hp, gn, dr, tk, os⟩ := le_int h
theorem rDivmod {a b : Nat} (hb : b ≠ 0) (hl : b.log2 < 9000) (h : ∀ u1 u2 tk2, Q (.ref hp.objs.size) ⟨hp.push { cls := .type "tuple", data := .seq #[.int (a / b : Nat) u1, .int (a % b : Nat) u2] }, gn, dr, tk2, os⟩) :
    wpAny (model PP w) A (call (.builtin "divmod") [.int a t, .int b u]) Q E ⟨hp, gn, dr, tk, os⟩ := by
  refine divmod_int (by (clear hl; omega)) ?_ (.inl (PyProof.noPylong_of_log2 (by rw [Int.natAbs_natCast]; exact hl)))
  have e1 : ((a : Nat) : Int).fdiv (b : Int) = ((a / b : Nat) : Int) := fdivN a b
  have e2 : ((a : Nat) : Int).fmod (b : Int) = ((a % b : Nat) : Int) := by
    rw [Int.fmod_eq_emod_of_nonneg _ (by (clear hb hl e1; omega))]; rfl
  rw [e1, e2]
  exact h _ _ _
end
theorem c_d2n {w : World} {mg mb : Str → Option Value} {g0 : Heap} (G : Gd w mg mb g0) {A : Around} {R : Result → Shared → Prop} {hp : Heap} {gn : Array GenState} {dr : Drawn} {tk0 : Nat} {os : OsState} (k : OK g0 hp) {a b n : Nat} {t1 t2 t3 : Tok} (rm : Rm A 5)
  (hb : b ≠ 0) (hl : b.log2 < 9000) (hbit : Builtin.Int.intBits (a : Int) ≤ 4000 + n)
 (h : ∀ t u1 u2 h' tks, OK g0 h' → Kp [] hp h' → hp.objs.size ≤ t → h'.IsTuple t #[.int (a / b : Nat) u1, .int (a % b : Nat) u2] → R (.ok (.ret (.ref t))) ⟨h', gn, dr, tks, os⟩) : codeAny (model PP w) A (.call (.ref aD2N) ⟨[.int a t1, .int b t2, .int n t3], []⟩) R ⟨hp, gn, dr, tk0, os⟩ := by
  refine ent (T := []) (n := 4) (binds := [("a", .int a t1), ("b", .int b t2), ("n", .int n t3)]) G k rm (k.at0 G rfl) rfl (k.code G rfl) rfl rfl rfl rfl rfl rfl rfl ?_
  intro h1 tk1 F rm1 kk
  repeat (first | (first | ((with_reducible show wpAny _ _ (execs (Stmt.Assign [Expr.Name _ _] _ _ :: _) _) _ _ _); refine rAs ?_) | with_reducible refine rRet ?_ | with_reducible refine rIf ?_ | with_reducible refine wpAny_BinOp ?_ | with_reducible refine rI ?_ | with_reducible refine rS ?_ | ((with_reducible show wpAny _ _ (eval (Expr.Name _ _) _) _ _ _); refine nL (by assumption) rfl ?_) | ((with_reducible show wpAny _ _ (storeName _ _ _) _ _ _); refine rSt (by assumption) ?_; intro _ _) | ((with_reducible show wpAny _ _ (isTrue (Expr.Compare _ [_] [_] _) _ _) _ _ _); refine wpAny_isTrue_Compare1 ?_) | with_reducible refine wpAny_truthy_bool ?_ | with_reducible refine rEq ?_ | ((with_reducible show wpAny _ _ (eval (Expr.Call _ _ [] _) _) _ _ _); refine Call_ ?_) | ((with_reducible show wpAny _ _ (spliced (backTo _ (starEach (_ :: _) _))) _ _ _); refine spliced_more ?_) | ((with_reducible show wpAny _ _ (spliced (backTo _ (starEach [] _))) _ _ _); refine spliced_none ?_) | with_reducible refine wpAny_IfExp ?_) | (dsimp only; first | ((with_reducible show wpAny _ _ (execs (Stmt.Assign [Expr.Name _ _] _ _ :: _) _) _ _ _); refine rAs ?_) | with_reducible refine rRet ?_ | with_reducible refine rIf ?_ | with_reducible refine wpAny_BinOp ?_ | with_reducible refine rI ?_ | with_reducible refine rS ?_ | ((with_reducible show wpAny _ _ (eval (Expr.Name _ _) _) _ _ _); refine nL (by assumption) rfl ?_) | ((with_reducible show wpAny _ _ (storeName _ _ _) _ _ _); refine rSt (by assumption) ?_; intro _ _) | ((with_reducible show wpAny _ _ (isTrue (Expr.Compare _ [_] [_] _) _ _) _ _ _); refine wpAny_isTrue_Compare1 ?_) | with_reducible refine wpAny_truthy_bool ?_ | with_reducible refine rEq ?_ | ((with_reducible show wpAny _ _ (eval (Expr.Call _ _ [] _) _) _ _ _); refine Call_ ?_) | ((with_reducible show wpAny _ _ (spliced (backTo _ (starEach (_ :: _) _))) _ _ _); refine spliced_more ?_) | ((with_reducible show wpAny _ _ (spliced (backTo _ (starEach [] _))) _ _ _); refine spliced_none ?_) | with_reducible refine wpAny_IfExp ?_))
  refine rM ?_
  repeat (first | (first | ((with_reducible show wpAny _ _ (execs (Stmt.Assign [Expr.Name _ _] _ _ :: _) _) _ _ _); refine rAs ?_) | with_reducible refine rRet ?_ | with_reducible refine rIf ?_ | with_reducible refine wpAny_BinOp ?_ | with_reducible refine rI ?_ | with_reducible refine rS ?_ | ((with_reducible show wpAny _ _ (eval (Expr.Name _ _) _) _ _ _); refine nL (by assumption) rfl ?_) | ((with_reducible show wpAny _ _ (storeName _ _ _) _ _ _); refine rSt (by assumption) ?_; intro _ _) | ((with_reducible show wpAny _ _ (isTrue (Expr.Compare _ [_] [_] _) _ _) _ _ _); refine wpAny_isTrue_Compare1 ?_) | with_reducible refine wpAny_truthy_bool ?_ | with_reducible refine rEq ?_ | ((with_reducible show wpAny _ _ (eval (Expr.Call _ _ [] _) _) _ _ _); refine Call_ ?_) | ((with_reducible show wpAny _ _ (spliced (backTo _ (starEach (_ :: _) _))) _ _ _); refine spliced_more ?_) | ((with_reducible show wpAny _ _ (spliced (backTo _ (starEach [] _))) _ _ _); refine spliced_none ?_) | with_reducible refine wpAny_IfExp ?_) | (dsimp only; first | ((with_reducible show wpAny _ _ (execs (Stmt.Assign [Expr.Name _ _] _ _ :: _) _) _ _ _); refine rAs ?_) | with_reducible refine rRet ?_ | with_reducible refine rIf ?_ | with_reducible refine wpAny_BinOp ?_ | with_reducible refine rI ?_ | with_reducible refine rS ?_ | ((with_reducible show wpAny _ _ (eval (Expr.Name _ _) _) _ _ _); refine nL (by assumption) rfl ?_) | ((with_reducible show wpAny _ _ (storeName _ _ _) _ _ _); refine rSt (by assumption) ?_; intro _ _) | ((with_reducible show wpAny _ _ (isTrue (Expr.Compare _ [_] [_] _) _ _) _ _ _); refine wpAny_isTrue_Compare1 ?_) | with_reducible refine wpAny_truthy_bool ?_ | with_reducible refine rEq ?_ | ((with_reducible show wpAny _ _ (eval (Expr.Call _ _ [] _) _) _ _ _); refine Call_ ?_) | ((with_reducible show wpAny _ _ (spliced (backTo _ (starEach (_ :: _) _))) _ _ _); refine spliced_more ?_) | ((with_reducible show wpAny _ _ (spliced (backTo _ (starEach [] _))) _ _ _); refine spliced_none ?_) | with_reducible refine wpAny_IfExp ?_))
  refine rBL ?_
  refine rCM0 ?_
  refine rBL' ?_
  repeat (first | (first | ((with_reducible show wpAny _ _ (execs (Stmt.Assign [Expr.Name _ _] _ _ :: _) _) _ _ _); refine rAs ?_) | with_reducible refine rRet ?_ | with_reducible refine rIf ?_ | with_reducible refine wpAny_BinOp ?_ | with_reducible refine rI ?_ | with_reducible refine rS ?_ | ((with_reducible show wpAny _ _ (eval (Expr.Name _ _) _) _ _ _); refine nL (by assumption) rfl ?_) | ((with_reducible show wpAny _ _ (storeName _ _ _) _ _ _); refine rSt (by assumption) ?_; intro _ _) | ((with_reducible show wpAny _ _ (isTrue (Expr.Compare _ [_] [_] _) _ _) _ _ _); refine wpAny_isTrue_Compare1 ?_) | with_reducible refine wpAny_truthy_bool ?_ | with_reducible refine rEq ?_ | ((with_reducible show wpAny _ _ (eval (Expr.Call _ _ [] _) _) _ _ _); refine Call_ ?_) | ((with_reducible show wpAny _ _ (spliced (backTo _ (starEach (_ :: _) _))) _ _ _); refine spliced_more ?_) | ((with_reducible show wpAny _ _ (spliced (backTo _ (starEach [] _))) _ _ _); refine spliced_none ?_) | with_reducible refine wpAny_IfExp ?_) | (dsimp only; first | ((with_reducible show wpAny _ _ (execs (Stmt.Assign [Expr.Name _ _] _ _ :: _) _) _ _ _); refine rAs ?_) | with_reducible refine rRet ?_ | with_reducible refine rIf ?_ | with_reducible refine wpAny_BinOp ?_ | with_reducible refine rI ?_ | with_reducible refine rS ?_ | ((with_reducible show wpAny _ _ (eval (Expr.Name _ _) _) _ _ _); refine nL (by assumption) rfl ?_) | ((with_reducible show wpAny _ _ (storeName _ _ _) _ _ _); refine rSt (by assumption) ?_; intro _ _) | ((with_reducible show wpAny _ _ (isTrue (Expr.Compare _ [_] [_] _) _ _) _ _ _); refine wpAny_isTrue_Compare1 ?_) | with_reducible refine wpAny_truthy_bool ?_ | with_reducible refine rEq ?_ | ((with_reducible show wpAny _ _ (eval (Expr.Call _ _ [] _) _) _ _ _); refine Call_ ?_) | ((with_reducible show wpAny _ _ (spliced (backTo _ (starEach (_ :: _) _))) _ _ _); refine spliced_more ?_) | ((with_reducible show wpAny _ _ (spliced (backTo _ (starEach [] _))) _ _ _); refine spliced_none ?_) | with_reducible refine wpAny_IfExp ?_))
  refine subT ((Builtin.Int.intBits (a : Int) : Int) - n) rfl ?_
  refine nG G F rfl ?_
  refine rLe ?_
  repeat (first | (first | ((with_reducible show wpAny _ _ (execs (Stmt.Assign [Expr.Name _ _] _ _ :: _) _) _ _ _); refine rAs ?_) | with_reducible refine rRet ?_ | with_reducible refine rIf ?_ | with_reducible refine wpAny_BinOp ?_ | with_reducible refine rI ?_ | with_reducible refine rS ?_ | ((with_reducible show wpAny _ _ (eval (Expr.Name _ _) _) _ _ _); refine nL (by assumption) rfl ?_) | ((with_reducible show wpAny _ _ (storeName _ _ _) _ _ _); refine rSt (by assumption) ?_; intro _ _) | ((with_reducible show wpAny _ _ (isTrue (Expr.Compare _ [_] [_] _) _ _) _ _ _); refine wpAny_isTrue_Compare1 ?_) | with_reducible refine wpAny_truthy_bool ?_ | with_reducible refine rEq ?_ | ((with_reducible show wpAny _ _ (eval (Expr.Call _ _ [] _) _) _ _ _); refine Call_ ?_) | ((with_reducible show wpAny _ _ (spliced (backTo _ (starEach (_ :: _) _))) _ _ _); refine spliced_more ?_) | ((with_reducible show wpAny _ _ (spliced (backTo _ (starEach [] _))) _ _ _); refine spliced_none ?_) | with_reducible refine wpAny_IfExp ?_) | (dsimp only; first | ((with_reducible show wpAny _ _ (execs (Stmt.Assign [Expr.Name _ _] _ _ :: _) _) _ _ _); refine rAs ?_) | with_reducible refine rRet ?_ | with_reducible refine rIf ?_ | with_reducible refine wpAny_BinOp ?_ | with_reducible refine rI ?_ | with_reducible refine rS ?_ | ((with_reducible show wpAny _ _ (eval (Expr.Name _ _) _) _ _ _); refine nL (by assumption) rfl ?_) | ((with_reducible show wpAny _ _ (storeName _ _ _) _ _ _); refine rSt (by assumption) ?_; intro _ _) | ((with_reducible show wpAny _ _ (isTrue (Expr.Compare _ [_] [_] _) _ _) _ _ _); refine wpAny_isTrue_Compare1 ?_) | with_reducible refine wpAny_truthy_bool ?_ | with_reducible refine rEq ?_ | ((with_reducible show wpAny _ _ (eval (Expr.Call _ _ [] _) _) _ _ _); refine Call_ ?_) | ((with_reducible show wpAny _ _ (spliced (backTo _ (starEach (_ :: _) _))) _ _ _); refine spliced_more ?_) | ((with_reducible show wpAny _ _ (spliced (backTo _ (starEach [] _))) _ _ _); refine spliced_none ?_) | with_reducible refine wpAny_IfExp ?_))
  refine iteT (by simp; (clear hb hl; omega)) ?_
  repeat (first | (first | ((with_reducible show wpAny _ _ (execs (Stmt.Assign [Expr.Name _ _] _ _ :: _) _) _ _ _); refine rAs ?_) | with_reducible refine rRet ?_ | with_reducible refine rIf ?_ | with_reducible refine wpAny_BinOp ?_ | with_reducible refine rI ?_ | with_reducible refine rS ?_ | ((with_reducible show wpAny _ _ (eval (Expr.Name _ _) _) _ _ _); refine nL (by assumption) rfl ?_) | ((with_reducible show wpAny _ _ (storeName _ _ _) _ _ _); refine rSt (by assumption) ?_; intro _ _) | ((with_reducible show wpAny _ _ (isTrue (Expr.Compare _ [_] [_] _) _ _) _ _ _); refine wpAny_isTrue_Compare1 ?_) | with_reducible refine wpAny_truthy_bool ?_ | with_reducible refine rEq ?_ | ((with_reducible show wpAny _ _ (eval (Expr.Call _ _ [] _) _) _ _ _); refine Call_ ?_) | ((with_reducible show wpAny _ _ (spliced (backTo _ (starEach (_ :: _) _))) _ _ _); refine spliced_more ?_) | ((with_reducible show wpAny _ _ (spliced (backTo _ (starEach [] _))) _ _ _); refine spliced_none ?_) | with_reducible refine wpAny_IfExp ?_) | (dsimp only; first | ((with_reducible show wpAny _ _ (execs (Stmt.Assign [Expr.Name _ _] _ _ :: _) _) _ _ _); refine rAs ?_) | with_reducible refine rRet ?_ | with_reducible refine rIf ?_ | with_reducible refine wpAny_BinOp ?_ | with_reducible refine rI ?_ | with_reducible refine rS ?_ | ((with_reducible show wpAny _ _ (eval (Expr.Name _ _) _) _ _ _); refine nL (by assumption) rfl ?_) | ((with_reducible show wpAny _ _ (storeName _ _ _) _ _ _); refine rSt (by assumption) ?_; intro _ _) | ((with_reducible show wpAny _ _ (isTrue (Expr.Compare _ [_] [_] _) _ _) _ _ _); refine wpAny_isTrue_Compare1 ?_) | with_reducible refine wpAny_truthy_bool ?_ | with_reducible refine rEq ?_ | ((with_reducible show wpAny _ _ (eval (Expr.Call _ _ [] _) _) _ _ _); refine Call_ ?_) | ((with_reducible show wpAny _ _ (spliced (backTo _ (starEach (_ :: _) _))) _ _ _); refine spliced_more ?_) | ((with_reducible show wpAny _ _ (spliced (backTo _ (starEach [] _))) _ _ _); refine spliced_none ?_) | with_reducible refine wpAny_IfExp ?_))
  refine nB G F rfl rfl ?_
  refine PyProof.Rows.callWith_builtin1 ?_
  repeat (first | (first | ((with_reducible show wpAny _ _ (execs (Stmt.Assign [Expr.Name _ _] _ _ :: _) _) _ _ _); refine rAs ?_) | with_reducible refine rRet ?_ | with_reducible refine rIf ?_ | with_reducible refine wpAny_BinOp ?_ | with_reducible refine rI ?_ | with_reducible refine rS ?_ | ((with_reducible show wpAny _ _ (eval (Expr.Name _ _) _) _ _ _); refine nL (by assumption) rfl ?_) | ((with_reducible show wpAny _ _ (storeName _ _ _) _ _ _); refine rSt (by assumption) ?_; intro _ _) | ((with_reducible show wpAny _ _ (isTrue (Expr.Compare _ [_] [_] _) _ _) _ _ _); refine wpAny_isTrue_Compare1 ?_) | with_reducible refine wpAny_truthy_bool ?_ | with_reducible refine rEq ?_ | ((with_reducible show wpAny _ _ (eval (Expr.Call _ _ [] _) _) _ _ _); refine Call_ ?_) | ((with_reducible show wpAny _ _ (spliced (backTo _ (starEach (_ :: _) _))) _ _ _); refine spliced_more ?_) | ((with_reducible show wpAny _ _ (spliced (backTo _ (starEach [] _))) _ _ _); refine spliced_none ?_) | with_reducible refine wpAny_IfExp ?_) | (dsimp only; first | ((with_reducible show wpAny _ _ (execs (Stmt.Assign [Expr.Name _ _] _ _ :: _) _) _ _ _); refine rAs ?_) | with_reducible refine rRet ?_ | with_reducible refine rIf ?_ | with_reducible refine wpAny_BinOp ?_ | with_reducible refine rI ?_ | with_reducible refine rS ?_ | ((with_reducible show wpAny _ _ (eval (Expr.Name _ _) _) _ _ _); refine nL (by assumption) rfl ?_) | ((with_reducible show wpAny _ _ (storeName _ _ _) _ _ _); refine rSt (by assumption) ?_; intro _ _) | ((with_reducible show wpAny _ _ (isTrue (Expr.Compare _ [_] [_] _) _ _) _ _ _); refine wpAny_isTrue_Compare1 ?_) | with_reducible refine wpAny_truthy_bool ?_ | with_reducible refine rEq ?_ | ((with_reducible show wpAny _ _ (eval (Expr.Call _ _ [] _) _) _ _ _); refine Call_ ?_) | ((with_reducible show wpAny _ _ (spliced (backTo _ (starEach (_ :: _) _))) _ _ _); refine spliced_more ?_) | ((with_reducible show wpAny _ _ (spliced (backTo _ (starEach [] _))) _ _ _); refine spliced_none ?_) | with_reducible refine wpAny_IfExp ?_))
  refine rDivmod hb hl ?_
  intro u1 u2 tk2
  have F2 := F.psh { cls := .type "tuple", data := .seq #[.int (a / b : Nat) u1, .int (a % b : Nat) u2] }
  have q := fun tks => h _ _ _ _ tks F2.ok F2.kp F.gsz ⟨_, F2.at 0 rfl, rfl, _, rfl⟩
  exact q _
end Mine

namespace Mine
theorem digs_get (n : Nat) : ∀ k x i, i < k → (digs n k x)[i]? = some (((x / 2 ^ (n * i)) % 2 ^ n : Nat) : Int)
  | k + 1, x, 0, _ => by simp [digs]
  | k + 1, x, i + 1, h => by
    rw [digs, List.getElem?_cons_succ, digs_get n k (x / 2 ^ n) i (by omega), Nat.div_div_eq_div_mul, ← Nat.pow_add, Nat.mul_add, Nat.mul_one, Nat.add_comm n]
theorem step_div (n b A d : Nat) (hb : 0 < b) (hd : d < 2 ^ n) (hbn : b < 2 ^ n) :
    (A % b * 2 ^ n + d) / b < 2 ^ n ∧ (A * 2 ^ n + d) / b = A / b * 2 ^ n + (A % b * 2 ^ n + d) / b ∧ (A % b * 2 ^ n + d) % b = (A * 2 ^ n + d) % b := by
  have h1 : A % b < b := Nat.mod_lt _ hb
  have h2 : A % b * 2 ^ n + d < b * 2 ^ n := by
    have : (A % b + 1) * 2 ^ n ≤ b * 2 ^ n := Nat.mul_le_mul_right _ h1
    rw [Nat.add_mul, Nat.one_mul] at this
    (clear hb hbn h1; omega)
  have e : A * 2 ^ n + d = (A % b * 2 ^ n + d) + b * (A / b * 2 ^ n) := by
    have := Nat.mod_add_div A b
    have h3 : A * 2 ^ n = (A % b + b * (A / b)) * 2 ^ n := by rw [this]
    rw [h3, Nat.add_mul, Nat.mul_assoc]; (clear hb hd hbn h1 h2 this h3; omega)
  refine ⟨by rw [Nat.div_lt_iff_lt_mul hb, Nat.mul_comm (2 ^ n) b]; exact h2, ?_, ?_⟩
  · rw [e, Nat.add_mul_div_left _ _ hb]; (clear hb hd hbn h1 h2 e; omega)
  · rw [e, Nat.add_mul_mod_self_left]
theorem c_dmp {w : World} {mg mb : Str → Option Value} {g0 : Heap} (G : Gd w mg mb g0) {A : Around} {R : Result → Shared → Prop} {hp : Heap} {gn : Array GenState} {dr : Drawn} {tk0 : Nat} {os : OsState} (k : OK g0 hp) {a b n : Nat} {t1 t2 : Tok}
  (hbn : Builtin.Int.intBits (b : Int) = n) (rm : Rm A (cnt n a + 20)) (hb : 0 < b) (hn : n ≤ 1000) (hc : cnt n a ≤ 1000)
 (h : ∀ t u1 u2 h' tks, OK g0 h' → Kp [] hp h' → hp.objs.size ≤ t → h'.IsTuple t #[.int (a / b : Nat) u1, .int (a % b : Nat) u2] → R (.ok (.ret (.ref t))) ⟨h', gn, dr, tks, os⟩) : codeAny (model PP w) A (.call (.ref aDMP) ⟨[.int a t1, .int b t2], []⟩) R ⟨hp, gn, dr, tk0, os⟩ := by
  have hblt : b < 2 ^ n := by
    have := intBits_le_iff.mp (Nat.le_of_eq hbn)
    rwa [Int.natAbs_natCast] at this
  have hn0 : 0 < n := by
    rcases Nat.eq_zero_or_pos n with z | z
    · subst z; simp at hblt; (clear hbn hn hc; omega)
    · exact z
  refine ent (T := []) (n := cnt n a + 19) (binds := [("a", .int a t1), ("b", .int b t2)]) G k rm (k.at0 G rfl) rfl (k.code G rfl) rfl rfl rfl rfl rfl rfl rfl ?_
  intro h1 tk1 F rm1 kk
  generalize hLL : hp.objs.size = L at *
  generalize hcc : cnt n a = c at *
  repeat (first | (first | ((with_reducible show wpAny _ _ (execs (Stmt.Assign [Expr.Name _ _] _ _ :: _) _) _ _ _); refine rAs ?_) | with_reducible refine rRet ?_ | with_reducible refine rIf ?_ | with_reducible refine wpAny_BinOp ?_ | with_reducible refine rI ?_ | with_reducible refine rS ?_ | ((with_reducible show wpAny _ _ (eval (Expr.Name _ _) _) _ _ _); refine nL (by assumption) rfl ?_) | ((with_reducible show wpAny _ _ (storeName _ _ _) _ _ _); refine rSt (by assumption) ?_; intro _ _) | ((with_reducible show wpAny _ _ (isTrue (Expr.Compare _ [_] [_] _) _ _) _ _ _); refine wpAny_isTrue_Compare1 ?_) | with_reducible refine wpAny_truthy_bool ?_ | with_reducible refine rEq ?_ | ((with_reducible show wpAny _ _ (eval (Expr.Call _ _ [] _) _) _ _ _); refine Call_ ?_) | ((with_reducible show wpAny _ _ (spliced (backTo _ (starEach (_ :: _) _))) _ _ _); refine spliced_more ?_) | ((with_reducible show wpAny _ _ (spliced (backTo _ (starEach [] _))) _ _ _); refine spliced_none ?_) | with_reducible refine wpAny_IfExp ?_) | (dsimp only; first | ((with_reducible show wpAny _ _ (execs (Stmt.Assign [Expr.Name _ _] _ _ :: _) _) _ _ _); refine rAs ?_) | with_reducible refine rRet ?_ | with_reducible refine rIf ?_ | with_reducible refine wpAny_BinOp ?_ | with_reducible refine rI ?_ | with_reducible refine rS ?_ | ((with_reducible show wpAny _ _ (eval (Expr.Name _ _) _) _ _ _); refine nL (by assumption) rfl ?_) | ((with_reducible show wpAny _ _ (storeName _ _ _) _ _ _); refine rSt (by assumption) ?_; intro _ _) | ((with_reducible show wpAny _ _ (isTrue (Expr.Compare _ [_] [_] _) _ _) _ _ _); refine wpAny_isTrue_Compare1 ?_) | with_reducible refine wpAny_truthy_bool ?_ | with_reducible refine rEq ?_ | ((with_reducible show wpAny _ _ (eval (Expr.Call _ _ [] _) _) _ _ _); refine Call_ ?_) | ((with_reducible show wpAny _ _ (spliced (backTo _ (starEach (_ :: _) _))) _ _ _); refine spliced_more ?_) | ((with_reducible show wpAny _ _ (spliced (backTo _ (starEach [] _))) _ _ _); refine spliced_none ?_) | with_reducible refine wpAny_IfExp ?_))
  refine rM ?_
  repeat (first | (first | ((with_reducible show wpAny _ _ (execs (Stmt.Assign [Expr.Name _ _] _ _ :: _) _) _ _ _); refine rAs ?_) | with_reducible refine rRet ?_ | with_reducible refine rIf ?_ | with_reducible refine wpAny_BinOp ?_ | with_reducible refine rI ?_ | with_reducible refine rS ?_ | ((with_reducible show wpAny _ _ (eval (Expr.Name _ _) _) _ _ _); refine nL (by assumption) rfl ?_) | ((with_reducible show wpAny _ _ (storeName _ _ _) _ _ _); refine rSt (by assumption) ?_; intro _ _) | ((with_reducible show wpAny _ _ (isTrue (Expr.Compare _ [_] [_] _) _ _) _ _ _); refine wpAny_isTrue_Compare1 ?_) | with_reducible refine wpAny_truthy_bool ?_ | with_reducible refine rEq ?_ | ((with_reducible show wpAny _ _ (eval (Expr.Call _ _ [] _) _) _ _ _); refine Call_ ?_) | ((with_reducible show wpAny _ _ (spliced (backTo _ (starEach (_ :: _) _))) _ _ _); refine spliced_more ?_) | ((with_reducible show wpAny _ _ (spliced (backTo _ (starEach [] _))) _ _ _); refine spliced_none ?_) | with_reducible refine wpAny_IfExp ?_) | (dsimp only; first | ((with_reducible show wpAny _ _ (execs (Stmt.Assign [Expr.Name _ _] _ _ :: _) _) _ _ _); refine rAs ?_) | with_reducible refine rRet ?_ | with_reducible refine rIf ?_ | with_reducible refine wpAny_BinOp ?_ | with_reducible refine rI ?_ | with_reducible refine rS ?_ | ((with_reducible show wpAny _ _ (eval (Expr.Name _ _) _) _ _ _); refine nL (by assumption) rfl ?_) | ((with_reducible show wpAny _ _ (storeName _ _ _) _ _ _); refine rSt (by assumption) ?_; intro _ _) | ((with_reducible show wpAny _ _ (isTrue (Expr.Compare _ [_] [_] _) _ _) _ _ _); refine wpAny_isTrue_Compare1 ?_) | with_reducible refine wpAny_truthy_bool ?_ | with_reducible refine rEq ?_ | ((with_reducible show wpAny _ _ (eval (Expr.Call _ _ [] _) _) _ _ _); refine Call_ ?_) | ((with_reducible show wpAny _ _ (spliced (backTo _ (starEach (_ :: _) _))) _ _ _); refine spliced_more ?_) | ((with_reducible show wpAny _ _ (spliced (backTo _ (starEach [] _))) _ _ _); refine spliced_none ?_) | with_reducible refine wpAny_IfExp ?_))
  refine rBL ?_
  refine rCM0 ?_
  refine rBL' ?_
  rw [hbn]
  repeat (first | (first | ((with_reducible show wpAny _ _ (execs (Stmt.Assign [Expr.Name _ _] _ _ :: _) _) _ _ _); refine rAs ?_) | with_reducible refine rRet ?_ | with_reducible refine rIf ?_ | with_reducible refine wpAny_BinOp ?_ | with_reducible refine rI ?_ | with_reducible refine rS ?_ | ((with_reducible show wpAny _ _ (eval (Expr.Name _ _) _) _ _ _); refine nL (by assumption) rfl ?_) | ((with_reducible show wpAny _ _ (storeName _ _ _) _ _ _); refine rSt (by assumption) ?_; intro _ _) | ((with_reducible show wpAny _ _ (isTrue (Expr.Compare _ [_] [_] _) _ _) _ _ _); refine wpAny_isTrue_Compare1 ?_) | with_reducible refine wpAny_truthy_bool ?_ | with_reducible refine rEq ?_ | ((with_reducible show wpAny _ _ (eval (Expr.Call _ _ [] _) _) _ _ _); refine Call_ ?_) | ((with_reducible show wpAny _ _ (spliced (backTo _ (starEach (_ :: _) _))) _ _ _); refine spliced_more ?_) | ((with_reducible show wpAny _ _ (spliced (backTo _ (starEach [] _))) _ _ _); refine spliced_none ?_) | with_reducible refine wpAny_IfExp ?_) | (dsimp only; first | ((with_reducible show wpAny _ _ (execs (Stmt.Assign [Expr.Name _ _] _ _ :: _) _) _ _ _); refine rAs ?_) | with_reducible refine rRet ?_ | with_reducible refine rIf ?_ | with_reducible refine wpAny_BinOp ?_ | with_reducible refine rI ?_ | with_reducible refine rS ?_ | ((with_reducible show wpAny _ _ (eval (Expr.Name _ _) _) _ _ _); refine nL (by assumption) rfl ?_) | ((with_reducible show wpAny _ _ (storeName _ _ _) _ _ _); refine rSt (by assumption) ?_; intro _ _) | ((with_reducible show wpAny _ _ (isTrue (Expr.Compare _ [_] [_] _) _ _) _ _ _); refine wpAny_isTrue_Compare1 ?_) | with_reducible refine wpAny_truthy_bool ?_ | with_reducible refine rEq ?_ | ((with_reducible show wpAny _ _ (eval (Expr.Call _ _ [] _) _) _ _ _); refine Call_ ?_) | ((with_reducible show wpAny _ _ (spliced (backTo _ (starEach (_ :: _) _))) _ _ _); refine spliced_more ?_) | ((with_reducible show wpAny _ _ (spliced (backTo _ (starEach [] _))) _ _ _); refine spliced_none ?_) | with_reducible refine wpAny_IfExp ?_))
  rename_i h2 F2
  refine nG G F2 rfl ?_
  refine rCW (F2.ok.at0 G rfl) rfl ?_
  repeat (first | (first | ((with_reducible show wpAny _ _ (execs (Stmt.Assign [Expr.Name _ _] _ _ :: _) _) _ _ _); refine rAs ?_) | with_reducible refine rRet ?_ | with_reducible refine rIf ?_ | with_reducible refine wpAny_BinOp ?_ | with_reducible refine rI ?_ | with_reducible refine rS ?_ | ((with_reducible show wpAny _ _ (eval (Expr.Name _ _) _) _ _ _); refine nL (by assumption) rfl ?_) | ((with_reducible show wpAny _ _ (storeName _ _ _) _ _ _); refine rSt (by assumption) ?_; intro _ _) | ((with_reducible show wpAny _ _ (isTrue (Expr.Compare _ [_] [_] _) _ _) _ _ _); refine wpAny_isTrue_Compare1 ?_) | with_reducible refine wpAny_truthy_bool ?_ | with_reducible refine rEq ?_ | ((with_reducible show wpAny _ _ (eval (Expr.Call _ _ [] _) _) _ _ _); refine Call_ ?_) | ((with_reducible show wpAny _ _ (spliced (backTo _ (starEach (_ :: _) _))) _ _ _); refine spliced_more ?_) | ((with_reducible show wpAny _ _ (spliced (backTo _ (starEach [] _))) _ _ _); refine spliced_none ?_) | with_reducible refine wpAny_IfExp ?_) | (dsimp only; first | ((with_reducible show wpAny _ _ (execs (Stmt.Assign [Expr.Name _ _] _ _ :: _) _) _ _ _); refine rAs ?_) | with_reducible refine rRet ?_ | with_reducible refine rIf ?_ | with_reducible refine wpAny_BinOp ?_ | with_reducible refine rI ?_ | with_reducible refine rS ?_ | ((with_reducible show wpAny _ _ (eval (Expr.Name _ _) _) _ _ _); refine nL (by assumption) rfl ?_) | ((with_reducible show wpAny _ _ (storeName _ _ _) _ _ _); refine rSt (by assumption) ?_; intro _ _) | ((with_reducible show wpAny _ _ (isTrue (Expr.Compare _ [_] [_] _) _ _) _ _ _); refine wpAny_isTrue_Compare1 ?_) | with_reducible refine wpAny_truthy_bool ?_ | with_reducible refine rEq ?_ | ((with_reducible show wpAny _ _ (eval (Expr.Call _ _ [] _) _) _ _ _); refine Call_ ?_) | ((with_reducible show wpAny _ _ (spliced (backTo _ (starEach (_ :: _) _))) _ _ _); refine spliced_more ?_) | ((with_reducible show wpAny _ _ (spliced (backTo _ (starEach [] _))) _ _ _); refine spliced_none ?_) | with_reducible refine wpAny_IfExp ?_))
  refine ⟨F2.ok.at0 G rfl, ?_⟩
  refine c_i2d G F2.ok (by rw [hcc]; exact rm1.le (by (clear hbn hb hn hblt hn0 hLL hcc hc; omega))) hn0 hn (by rw [hcc]; exact hc) ?_
  intro l vs h3 tk3 k3 K3 hl hlis hints
  rw [hcc] at hints
  obtain ⟨ol, el, cl, en, dl⟩ := hlis
  have F3 := (F2.call k3 K3).add el (Nat.le_trans F2.gsz hl) (F2.fresh hl).1 (F2.fresh hl).2
  repeat (first | (first | ((with_reducible show wpAny _ _ (execs (Stmt.Assign [Expr.Name _ _] _ _ :: _) _) _ _ _); refine rAs ?_) | with_reducible refine rRet ?_ | with_reducible refine rIf ?_ | with_reducible refine wpAny_BinOp ?_ | with_reducible refine rI ?_ | with_reducible refine rS ?_ | ((with_reducible show wpAny _ _ (eval (Expr.Name _ _) _) _ _ _); refine nL (by assumption) rfl ?_) | ((with_reducible show wpAny _ _ (storeName _ _ _) _ _ _); refine rSt (by assumption) ?_; intro _ _) | ((with_reducible show wpAny _ _ (isTrue (Expr.Compare _ [_] [_] _) _ _) _ _ _); refine wpAny_isTrue_Compare1 ?_) | with_reducible refine wpAny_truthy_bool ?_ | with_reducible refine rEq ?_ | ((with_reducible show wpAny _ _ (eval (Expr.Call _ _ [] _) _) _ _ _); refine Call_ ?_) | ((with_reducible show wpAny _ _ (spliced (backTo _ (starEach (_ :: _) _))) _ _ _); refine spliced_more ?_) | ((with_reducible show wpAny _ _ (spliced (backTo _ (starEach [] _))) _ _ _); refine spliced_none ?_) | with_reducible refine wpAny_IfExp ?_) | (dsimp only; first | ((with_reducible show wpAny _ _ (execs (Stmt.Assign [Expr.Name _ _] _ _ :: _) _) _ _ _); refine rAs ?_) | with_reducible refine rRet ?_ | with_reducible refine rIf ?_ | with_reducible refine wpAny_BinOp ?_ | with_reducible refine rI ?_ | with_reducible refine rS ?_ | ((with_reducible show wpAny _ _ (eval (Expr.Name _ _) _) _ _ _); refine nL (by assumption) rfl ?_) | ((with_reducible show wpAny _ _ (storeName _ _ _) _ _ _); refine rSt (by assumption) ?_; intro _ _) | ((with_reducible show wpAny _ _ (isTrue (Expr.Compare _ [_] [_] _) _ _) _ _ _); refine wpAny_isTrue_Compare1 ?_) | with_reducible refine wpAny_truthy_bool ?_ | with_reducible refine rEq ?_ | ((with_reducible show wpAny _ _ (eval (Expr.Call _ _ [] _) _) _ _ _); refine Call_ ?_) | ((with_reducible show wpAny _ _ (spliced (backTo _ (starEach (_ :: _) _))) _ _ _); refine spliced_more ?_) | ((with_reducible show wpAny _ _ (spliced (backTo _ (starEach [] _))) _ _ _); refine spliced_none ?_) | with_reducible refine wpAny_IfExp ?_))
  rename_i h4 F4
  refine rList ?_
  repeat (first | (first | ((with_reducible show wpAny _ _ (execs (Stmt.Assign [Expr.Name _ _] _ _ :: _) _) _ _ _); refine rAs ?_) | with_reducible refine rRet ?_ | with_reducible refine rIf ?_ | with_reducible refine wpAny_BinOp ?_ | with_reducible refine rI ?_ | with_reducible refine rS ?_ | ((with_reducible show wpAny _ _ (eval (Expr.Name _ _) _) _ _ _); refine nL (by assumption) rfl ?_) | ((with_reducible show wpAny _ _ (storeName _ _ _) _ _ _); refine rSt (by assumption) ?_; intro _ _) | ((with_reducible show wpAny _ _ (isTrue (Expr.Compare _ [_] [_] _) _ _) _ _ _); refine wpAny_isTrue_Compare1 ?_) | with_reducible refine wpAny_truthy_bool ?_ | with_reducible refine rEq ?_ | ((with_reducible show wpAny _ _ (eval (Expr.Call _ _ [] _) _) _ _ _); refine Call_ ?_) | ((with_reducible show wpAny _ _ (spliced (backTo _ (starEach (_ :: _) _))) _ _ _); refine spliced_more ?_) | ((with_reducible show wpAny _ _ (spliced (backTo _ (starEach [] _))) _ _ _); refine spliced_none ?_) | with_reducible refine wpAny_IfExp ?_) | (dsimp only; first | ((with_reducible show wpAny _ _ (execs (Stmt.Assign [Expr.Name _ _] _ _ :: _) _) _ _ _); refine rAs ?_) | with_reducible refine rRet ?_ | with_reducible refine rIf ?_ | with_reducible refine wpAny_BinOp ?_ | with_reducible refine rI ?_ | with_reducible refine rS ?_ | ((with_reducible show wpAny _ _ (eval (Expr.Name _ _) _) _ _ _); refine nL (by assumption) rfl ?_) | ((with_reducible show wpAny _ _ (storeName _ _ _) _ _ _); refine rSt (by assumption) ?_; intro _ _) | ((with_reducible show wpAny _ _ (isTrue (Expr.Compare _ [_] [_] _) _ _) _ _ _); refine wpAny_isTrue_Compare1 ?_) | with_reducible refine wpAny_truthy_bool ?_ | with_reducible refine rEq ?_ | ((with_reducible show wpAny _ _ (eval (Expr.Call _ _ [] _) _) _ _ _); refine Call_ ?_) | ((with_reducible show wpAny _ _ (spliced (backTo _ (starEach (_ :: _) _))) _ _ _); refine spliced_more ?_) | ((with_reducible show wpAny _ _ (spliced (backTo _ (starEach [] _))) _ _ _); refine spliced_none ?_) | with_reducible refine wpAny_IfExp ?_))
  refine rNewL ?_ (by simp [sizeLine])
  have F5 := F4.psh (LO [] 0)
  generalize hlq : h4.objs.size = lq at *
  repeat (first | (first | ((with_reducible show wpAny _ _ (execs (Stmt.Assign [Expr.Name _ _] _ _ :: _) _) _ _ _); refine rAs ?_) | with_reducible refine rRet ?_ | with_reducible refine rIf ?_ | with_reducible refine wpAny_BinOp ?_ | with_reducible refine rI ?_ | with_reducible refine rS ?_ | ((with_reducible show wpAny _ _ (eval (Expr.Name _ _) _) _ _ _); refine nL (by assumption) rfl ?_) | ((with_reducible show wpAny _ _ (storeName _ _ _) _ _ _); refine rSt (by assumption) ?_; intro _ _) | ((with_reducible show wpAny _ _ (isTrue (Expr.Compare _ [_] [_] _) _ _) _ _ _); refine wpAny_isTrue_Compare1 ?_) | with_reducible refine wpAny_truthy_bool ?_ | with_reducible refine rEq ?_ | ((with_reducible show wpAny _ _ (eval (Expr.Call _ _ [] _) _) _ _ _); refine Call_ ?_) | ((with_reducible show wpAny _ _ (spliced (backTo _ (starEach (_ :: _) _))) _ _ _); refine spliced_more ?_) | ((with_reducible show wpAny _ _ (spliced (backTo _ (starEach [] _))) _ _ _); refine spliced_none ?_) | with_reducible refine wpAny_IfExp ?_) | (dsimp only; first | ((with_reducible show wpAny _ _ (execs (Stmt.Assign [Expr.Name _ _] _ _ :: _) _) _ _ _); refine rAs ?_) | with_reducible refine rRet ?_ | with_reducible refine rIf ?_ | with_reducible refine wpAny_BinOp ?_ | with_reducible refine rI ?_ | with_reducible refine rS ?_ | ((with_reducible show wpAny _ _ (eval (Expr.Name _ _) _) _ _ _); refine nL (by assumption) rfl ?_) | ((with_reducible show wpAny _ _ (storeName _ _ _) _ _ _); refine rSt (by assumption) ?_; intro _ _) | ((with_reducible show wpAny _ _ (isTrue (Expr.Compare _ [_] [_] _) _ _) _ _ _); refine wpAny_isTrue_Compare1 ?_) | with_reducible refine wpAny_truthy_bool ?_ | with_reducible refine rEq ?_ | ((with_reducible show wpAny _ _ (eval (Expr.Call _ _ [] _) _) _ _ _); refine Call_ ?_) | ((with_reducible show wpAny _ _ (spliced (backTo _ (starEach (_ :: _) _))) _ _ _); refine spliced_more ?_) | ((with_reducible show wpAny _ _ (spliced (backTo _ (starEach [] _))) _ _ _); refine spliced_none ?_) | with_reducible refine wpAny_IfExp ?_))
  rename_i h6 F6
  refine rForL ?_
  repeat (first | (first | ((with_reducible show wpAny _ _ (execs (Stmt.Assign [Expr.Name _ _] _ _ :: _) _) _ _ _); refine rAs ?_) | with_reducible refine rRet ?_ | with_reducible refine rIf ?_ | with_reducible refine wpAny_BinOp ?_ | with_reducible refine rI ?_ | with_reducible refine rS ?_ | ((with_reducible show wpAny _ _ (eval (Expr.Name _ _) _) _ _ _); refine nL (by assumption) rfl ?_) | ((with_reducible show wpAny _ _ (storeName _ _ _) _ _ _); refine rSt (by assumption) ?_; intro _ _) | ((with_reducible show wpAny _ _ (isTrue (Expr.Compare _ [_] [_] _) _ _) _ _ _); refine wpAny_isTrue_Compare1 ?_) | with_reducible refine wpAny_truthy_bool ?_ | with_reducible refine rEq ?_ | ((with_reducible show wpAny _ _ (eval (Expr.Call _ _ [] _) _) _ _ _); refine Call_ ?_) | ((with_reducible show wpAny _ _ (spliced (backTo _ (starEach (_ :: _) _))) _ _ _); refine spliced_more ?_) | ((with_reducible show wpAny _ _ (spliced (backTo _ (starEach [] _))) _ _ _); refine spliced_none ?_) | with_reducible refine wpAny_IfExp ?_) | (dsimp only; first | ((with_reducible show wpAny _ _ (execs (Stmt.Assign [Expr.Name _ _] _ _ :: _) _) _ _ _); refine rAs ?_) | with_reducible refine rRet ?_ | with_reducible refine rIf ?_ | with_reducible refine wpAny_BinOp ?_ | with_reducible refine rI ?_ | with_reducible refine rS ?_ | ((with_reducible show wpAny _ _ (eval (Expr.Name _ _) _) _ _ _); refine nL (by assumption) rfl ?_) | ((with_reducible show wpAny _ _ (storeName _ _ _) _ _ _); refine rSt (by assumption) ?_; intro _ _) | ((with_reducible show wpAny _ _ (isTrue (Expr.Compare _ [_] [_] _) _ _) _ _ _); refine wpAny_isTrue_Compare1 ?_) | with_reducible refine wpAny_truthy_bool ?_ | with_reducible refine rEq ?_ | ((with_reducible show wpAny _ _ (eval (Expr.Call _ _ [] _) _) _ _ _); refine Call_ ?_) | ((with_reducible show wpAny _ _ (spliced (backTo _ (starEach (_ :: _) _))) _ _ _); refine spliced_more ?_) | ((with_reducible show wpAny _ _ (spliced (backTo _ (starEach [] _))) _ _ _); refine spliced_none ?_) | with_reducible refine wpAny_IfExp ?_))
  refine nB G F6 rfl rfl ?_
  refine rCT ?_
  repeat (first | (first | ((with_reducible show wpAny _ _ (execs (Stmt.Assign [Expr.Name _ _] _ _ :: _) _) _ _ _); refine rAs ?_) | with_reducible refine rRet ?_ | with_reducible refine rIf ?_ | with_reducible refine wpAny_BinOp ?_ | with_reducible refine rI ?_ | with_reducible refine rS ?_ | ((with_reducible show wpAny _ _ (eval (Expr.Name _ _) _) _ _ _); refine nL (by assumption) rfl ?_) | ((with_reducible show wpAny _ _ (storeName _ _ _) _ _ _); refine rSt (by assumption) ?_; intro _ _) | ((with_reducible show wpAny _ _ (isTrue (Expr.Compare _ [_] [_] _) _ _) _ _ _); refine wpAny_isTrue_Compare1 ?_) | with_reducible refine wpAny_truthy_bool ?_ | with_reducible refine rEq ?_ | ((with_reducible show wpAny _ _ (eval (Expr.Call _ _ [] _) _) _ _ _); refine Call_ ?_) | ((with_reducible show wpAny _ _ (spliced (backTo _ (starEach (_ :: _) _))) _ _ _); refine spliced_more ?_) | ((with_reducible show wpAny _ _ (spliced (backTo _ (starEach [] _))) _ _ _); refine spliced_none ?_) | with_reducible refine wpAny_IfExp ?_) | (dsimp only; first | ((with_reducible show wpAny _ _ (execs (Stmt.Assign [Expr.Name _ _] _ _ :: _) _) _ _ _); refine rAs ?_) | with_reducible refine rRet ?_ | with_reducible refine rIf ?_ | with_reducible refine wpAny_BinOp ?_ | with_reducible refine rI ?_ | with_reducible refine rS ?_ | ((with_reducible show wpAny _ _ (eval (Expr.Name _ _) _) _ _ _); refine nL (by assumption) rfl ?_) | ((with_reducible show wpAny _ _ (storeName _ _ _) _ _ _); refine rSt (by assumption) ?_; intro _ _) | ((with_reducible show wpAny _ _ (isTrue (Expr.Compare _ [_] [_] _) _ _) _ _ _); refine wpAny_isTrue_Compare1 ?_) | with_reducible refine wpAny_truthy_bool ?_ | with_reducible refine rEq ?_ | ((with_reducible show wpAny _ _ (eval (Expr.Call _ _ [] _) _) _ _ _); refine Call_ ?_) | ((with_reducible show wpAny _ _ (spliced (backTo _ (starEach (_ :: _) _))) _ _ _); refine spliced_more ?_) | ((with_reducible show wpAny _ _ (spliced (backTo _ (starEach [] _))) _ _ _); refine spliced_none ?_) | with_reducible refine wpAny_IfExp ?_))
  have hvl : vs.length = c := by rw [hints.length, digs_len]
  refine rRevN ⟨ol, F6.at 1 rfl, cl, en, dl⟩ ?_
  have F7 := F6.psh (revObj l ((vs.toArray.size : Int) - 1))
  generalize hit : h6.objs.size = it at *
  refine wpAny_pyIter_revIter ⟨_, F7.at 0 rfl, rfl, rfl⟩ ?_
  refine rLoop (fun i s => ∃ h' tk' mm vs' ql e oi tn tr, s = ⟨h', gn, dr, tk', os⟩ ∧ FS g0 hp [] L h' mm [(it, oi), (lq, LO vs' e), (l, ol)] ∧ oi.cls = .type "list_reverseiterator" ∧ oi.data = .fields #[.ref l, rawInt ((i : Int) - 1)] ∧
    IntsAre vs' ql.reverse ∧ ql.length + i = c ∧ dsum n ql = (a / 2 ^ (n * i) / b : Nat) ∧ (∀ d ∈ ql, 0 ≤ d ∧ d < 2 ^ n) ∧ mm "b" = some (.int b t2) ∧ mm "n" = some (.int n tn) ∧ mm "r" = some (.int (a / 2 ^ (n * i) % b : Nat) tr) ∧ mm "q_digits" = some (.ref lq)) ?_ c ?_
  · rintro J hJ i s ⟨h', tk', mm, vs', ql, e, oi, tn, tr, rfl, Fi, hcls, hdat, hql, hlen, hsum, hbd, mb, mn, mr, mq⟩
    cases i with
    | zero =>
      refine wpAny_pyNext_rev_end rm1.hd ⟨oi, Fi.at 0 rfl, hcls, hdat⟩ ?_
      intro h8 X8
      have F8 := Fi.dropX (rev_nc hdat) X8
      show wpAny (model PP w) _ (execs _ _) _ _ ⟨h8, gn, dr, tk', os⟩
      refine rEx ?_
      refine rM ?_
      refine nL F8 mq ?_
      refine rRevM (F8.at 0 rfl) ?_
      refine rCM0 ?_
      have hvl' : vs'.length = c := by rw [hql.length, List.length_reverse]; (clear hbn hb hn hblt hn0 hLL hcc hc hl hlq hit hsum; omega)
      refine rReverse F8 0 rfl (by (clear hbn hb hn hblt hn0 hLL hl hlq hit hsum; omega)) ?_
      intro h9 F9
      repeat (first | (first | ((with_reducible show wpAny _ _ (execs (Stmt.Assign [Expr.Name _ _] _ _ :: _) _) _ _ _); refine rAs ?_) | with_reducible refine rRet ?_ | with_reducible refine rIf ?_ | with_reducible refine wpAny_BinOp ?_ | with_reducible refine rI ?_ | with_reducible refine rS ?_ | ((with_reducible show wpAny _ _ (eval (Expr.Name _ _) _) _ _ _); refine nL (by assumption) rfl ?_) | ((with_reducible show wpAny _ _ (storeName _ _ _) _ _ _); refine rSt (by assumption) ?_; intro _ _) | ((with_reducible show wpAny _ _ (isTrue (Expr.Compare _ [_] [_] _) _ _) _ _ _); refine wpAny_isTrue_Compare1 ?_) | with_reducible refine wpAny_truthy_bool ?_ | with_reducible refine rEq ?_ | ((with_reducible show wpAny _ _ (eval (Expr.Call _ _ [] _) _) _ _ _); refine Call_ ?_) | ((with_reducible show wpAny _ _ (spliced (backTo _ (starEach (_ :: _) _))) _ _ _); refine spliced_more ?_) | ((with_reducible show wpAny _ _ (spliced (backTo _ (starEach [] _))) _ _ _); refine spliced_none ?_) | with_reducible refine wpAny_IfExp ?_) | (dsimp only; first | ((with_reducible show wpAny _ _ (execs (Stmt.Assign [Expr.Name _ _] _ _ :: _) _) _ _ _); refine rAs ?_) | with_reducible refine rRet ?_ | with_reducible refine rIf ?_ | with_reducible refine wpAny_BinOp ?_ | with_reducible refine rI ?_ | with_reducible refine rS ?_ | ((with_reducible show wpAny _ _ (eval (Expr.Name _ _) _) _ _ _); refine nL (by assumption) rfl ?_) | ((with_reducible show wpAny _ _ (storeName _ _ _) _ _ _); refine rSt (by assumption) ?_; intro _ _) | ((with_reducible show wpAny _ _ (isTrue (Expr.Compare _ [_] [_] _) _ _) _ _ _); refine wpAny_isTrue_Compare1 ?_) | with_reducible refine wpAny_truthy_bool ?_ | with_reducible refine rEq ?_ | ((with_reducible show wpAny _ _ (eval (Expr.Call _ _ [] _) _) _ _ _); refine Call_ ?_) | ((with_reducible show wpAny _ _ (spliced (backTo _ (starEach (_ :: _) _))) _ _ _); refine spliced_more ?_) | ((with_reducible show wpAny _ _ (spliced (backTo _ (starEach [] _))) _ _ _); refine spliced_none ?_) | with_reducible refine wpAny_IfExp ?_))
      refine nG G F9 rfl ?_
      refine rCW (F9.ok.at0 G rfl) rfl ?_
      refine spliced_more ?_
      refine nL F9 mq ?_
      refine spliced_more ?_
      refine nL F9 mn ?_
      refine spliced_none ?_
      refine ⟨F9.ok.at0 G rfl, ?_⟩
      have hqr : IntsAre vs'.reverse ql := by have := PyProof.Rows.IntsAre.reverse hql; rwa [List.reverse_reverse] at this
      have hlen0 : ql.length = c := by (clear hbn hb hn hblt hn0 hLL hcc hc hl hlq hit hsum hvl'; omega)
      refine c_d2i G F9.ok (ds := ql) (n := n) (rm1.le (by (clear hbn hb hn hblt hn0 hLL hcc hc hl hlq hit hsum hvl' hlen0; omega))) (LO.is (F9.at 0 rfl)) hqr hbd (by (clear hbn hb hn hblt hn0 hLL hl hlq hit hsum hlen0; omega)) hn (F9.ok.nt (F9.lo0 (.head _))) ?_
      intro tk10 h10 tks10 k10 K10
      have F10 := F9.call k10 K10
      have hsum' : dsum n ql = ((a / b : Nat) : Int) := by simpa using hsum
      rw [hsum']
      refine rSt F10 ?_
      intro h11 F11
      refine rRet ?_
      refine Tuple_ ?_
      refine spliced_more ?_
      refine nL F11 rfl ?_
      refine spliced_more ?_
      refine nL F11 mr ?_
      refine spliced_none ?_
      refine rNewT ?_ (by simp [sizeLine])
      have F12 := F11.psh { cls := .type "tuple", data := .seq [Value.int (a / b : Nat) tk10, .int (a / 2 ^ (n * 0) % b : Nat) tr].toArray }
      have q := fun tks => h h11.objs.size tk10 tr _ tks F12.ok F12.kp (hLL ▸ F11.gsz) ⟨_, F12.at 0 rfl, rfl, 0, by simp⟩
      exact q _
    | succ i =>
      have hi : i < c := by (clear hbn hb hn hblt hn0 hLL hcc hc hl hlq hit hsum; omega)
      obtain ⟨tv, ev⟩ := intsAre_get hints (i := i) (by rw [digs_len]; exact hi)
      have eg : (digs n c a)[i]'(by rw [digs_len]; exact hi) = (((a / 2 ^ (n * i)) % 2 ^ n : Nat) : Int) := by
        have e1 := digs_get n c a i hi
        rw [List.getElem?_eq_getElem (by rw [digs_len]; exact hi)] at e1
        exact Option.some.inj e1
      rw [eg] at ev
      refine wpAny_pyNext_rev_item (i := i) ⟨oi, Fi.at 0 rfl, hcls, by rw [hdat, show (((i + 1 : Nat) : Int) - 1) = (i : Int) by (clear hbn hb hn hblt hn0 hLL hcc hc hl hlq hvl hit hlen hsum eg; omega)]⟩ ⟨ol, Fi.at 2 rfl, cl, en, dl⟩ (x := .int ((a / 2 ^ (n * i) % 2 ^ n : Nat) : Int) tv) (by rw [List.getElem?_toArray]; exact ev) ?_
      rintro h8 ⟨o8, e8, c8, d8⟩ S8
      have F8 := Fi.updS 0 rfl (rev_nc hdat) S8 e8
      show wpAny (model PP w) _ (storeName _ _ _) _ _ ⟨h8, gn, dr, tk', os⟩
      refine rSt F8 ?_
      intro h9 F9
      refine rAs2 ?_
      refine Call_ ?_
      refine nG G F9 rfl ?_
      refine rCW (F9.ok.at0 G rfl) rfl ?_
      refine spliced_more ?_
      refine wpAny_BinOp ?_
      refine wpAny_BinOp ?_
      refine nL F9 mr ?_
      refine nL F9 mn ?_
      generalize hA : a / 2 ^ (n * (i + 1)) = A1 at *
      generalize hd : a / 2 ^ (n * i) % 2 ^ n = d at *
      have hdlt : d < 2 ^ n := by rw [← hd]; exact Nat.mod_lt _ (Nat.pow_pos (by (clear hbn hb hn hblt hn0 hLL hcc hc hl hlq hvl hit hlen hA hsum hd eg; omega)))
      have hAd : a / 2 ^ (n * i) = A1 * 2 ^ n + d := by
        have e1 : a / 2 ^ (n * (i + 1)) = a / 2 ^ (n * i) / 2 ^ n := by rw [Nat.div_div_eq_div_mul, ← Nat.pow_add, Nat.mul_add, Nat.mul_one]
        rw [← hA, ← hd, e1]
        have := Nat.mod_add_div (a / 2 ^ (n * i)) (2 ^ n)
        rw [Nat.mul_comm (2 ^ n)] at this
        (clear hbn hb hn hblt hn0 hLL hcc hc hl hlq hvl hit hlen hA hsum hdlt e1; omega)
      obtain ⟨s1, s2, s3⟩ := step_div n b A1 d hb hdlt hblt
      have hr1 : A1 % b < 2 ^ n := Nat.lt_trans (Nat.mod_lt _ hb) hblt
      refine rLsh n ((A1 % b * 2 ^ n : Nat) : Int) rfl (by simp) rm1.hd (by have := bits_nat hr1; (clear hb hblt hLL hcc hc hl hlq hvl hit hlen hA hsum hd eg hdlt hAd s1 s2 s3 hr1; omega)) ?_
      refine nL F9 rfl ?_
      refine rAdd ((A1 % b * 2 ^ n + d : Nat) : Int) (by rw [Int.natCast_add]) ?_
      refine spliced_more ?_
      refine nL F9 mb ?_
      refine spliced_more ?_
      refine nL F9 mn ?_
      refine spliced_none ?_
      refine ⟨F9.ok.at0 G rfl, ?_⟩
      have hbits : Builtin.Int.intBits ((A1 % b * 2 ^ n + d : Nat) : Int) ≤ 4000 + n := by
        have : A1 % b * 2 ^ n + d < 2 ^ (n + n) := by
          have h1 : A1 % b + 1 ≤ 2 ^ n := hr1
          have h2 := Nat.mul_le_mul_right (2 ^ n) h1
          rw [Nat.add_mul, Nat.one_mul] at h2
          rw [Nat.pow_add]
          (clear hbn hb hn hblt hn0 hLL hcc hc hl hlq hvl hit hlen hA hsum hdlt s1 s2 s3 hr1 h1; omega)
        have := bits_nat this
        (clear hb hblt hLL hcc hc hl hlq hvl hit hlen hA hsum hd eg hdlt hAd s1 s2 s3 hr1; omega)
      refine c_d2n G F9.ok (rm1.le (by (clear hbn hb hn hblt hn0 hLL hl hlq hit hA hsum hd eg hdlt hAd s1 s2 s3 hr1 hbits; omega))) (by (clear hbn hn hblt hn0 hLL hcc hc hl hlq hvl hit hlen hA hsum hd eg hdlt hAd s1 s2 s3 hr1 hbits; omega)) (log2_le hblt (by (clear hb hblt hLL hcc hc hl hlq hvl hit hlen hA hsum hd eg hdlt hAd s1 s2 s3 hr1 hbits; omega))) hbits ?_
      intro t u1 u2 h10 tks10 k10 K10 ht htu
      have F10 := F9.call k10 K10
      refine rTup2 F10 rm1.hd htu ?_
      intro h11 F11
      refine rEx ?_
      refine rM ?_
      refine nL F11 mq ?_
      refine rAppM (F11.at 1 rfl) ?_
      refine rCM ?_
      refine spliced_more ?_
      refine nL F11 rfl ?_
      refine spliced_none ?_
      refine rAppend F11 1 rfl (by have := hql.length; rw [List.length_reverse] at this; (clear hbn hb hn hblt hn0 hLL hl hlq hit hA hsum hd eg hdlt hAd s1 s2 s3 hr1 hbits ht; omega)) ?_
      intro h12 F12
      refine rNil ?_
      refine ⟨i, Nat.lt_succ_self i, hJ _ _ ⟨h12, _, _, vs' ++ [Value.int ((A1 % b * 2 ^ n + d) / b : Nat) u1], (((A1 % b * 2 ^ n + d) / b : Nat) : Int) :: ql, e + 1, o8, tn, u2, rfl, F12, c8, ?_, ?_, ?_, ?_, ?_, mb, mn, ?_, mq⟩⟩
      · rw [d8]
      · rw [List.reverse_cons]
        exact IntsAre.append hql (.cons _ _ .nil)
      · rw [List.length_cons]; (clear hbn hb hn hblt hn0 hLL hcc hc hl hlq hit hA hsum hd eg hdlt hAd s1 s2 s3 hr1 hbits ht; omega)
      · rw [dsum, hsum, hAd, s2]
        have : ((2 : Int) ^ n) = ((2 ^ n : Nat) : Int) := by simp
        rw [this, ← Int.natCast_mul, ← Int.natCast_add, Nat.mul_comm (2 ^ n), Nat.add_comm]
      · intro x hx
        rcases List.mem_cons.mp hx with rfl | hx
        · refine ⟨Int.natCast_nonneg _, ?_⟩
          have : ((2 : Int) ^ n) = ((2 ^ n : Nat) : Int) := by simp
          rw [this]
          exact Int.ofNat_lt.mpr s1
        · exact hbd x hx
      · rw [hAd, ← s3]
        rfl
  · have ha0 : a / 2 ^ (n * c) = 0 := by
      apply Nat.div_eq_of_lt
      have h1 : Builtin.Int.intBits (a : Int) + n - 1 < n * (c + 1) := by
        rw [← hcc]
        exact Nat.lt_mul_div_succ _ hn0
      have h2 : Builtin.Int.intBits (a : Int) ≤ n * c := by rw [Nat.mul_add, Nat.mul_one] at h1; (clear hbn hb hn hblt hn0 hLL hcc hc hl hlq hvl hit; omega)
      have := intBits_le_iff.mp h2
      rwa [Int.natAbs_natCast] at this
    refine ⟨_, _, _, [], [], 0, _, _, tk3 + 1, rfl, F7, rfl, ?_, .nil, by simp, ?_, by simp, rfl, rfl, ?_, rfl⟩
    · simp [revObj, hvl]
    · simp [dsum, ha0]
    · have hr0 : a / 2 ^ (n * c) % b = 0 := by rw [ha0]; exact Nat.zero_mod b
      rw [hr0]; rfl
end Mine

namespace Mine
section
variable {w : World} {A : Around} {E : Value → Shared → Prop} {Q : Value → Shared → Prop} {t u : Tok} {hp : Heap} {gn : Array GenState} {dr : Drawn} {tk : Nat} {os : OsState}
theorem rLt {a b : Int} (h : Q (.bool (decide (a < b))) ⟨hp, gn, dr, tk, os⟩) : wpAny (model PP w) A (compareOp .Lt (.int a t) (.int b u)) Q E ⟨hp, gn, dr, tk, os⟩ := lt_int h
end
theorem c_idm0 {w : World} {mg mb : Str → Option Value} {g0 : Heap} (G : Gd w mg mb g0) {A : Around} {R : Result → Shared → Prop} {hp : Heap} {gn : Array GenState} {dr : Drawn} {tk0 : Nat} {os : OsState} (k : OK g0 hp) {a b n : Nat} {t1 t2 : Tok}
  (hbn : Builtin.Int.intBits (b : Int) = n) (rm : Rm A (cnt n a + 22)) (hb : 0 < b) (hn : n ≤ 1000) (hc : cnt n a ≤ 1000)
 (h : ∀ t u1 u2 h' tks, OK g0 h' → Kp [] hp h' → hp.objs.size ≤ t → h'.IsTuple t #[.int (a / b : Nat) u1, .int (a % b : Nat) u2] → R (.ok (.ret (.ref t))) ⟨h', gn, dr, tks, os⟩) : codeAny (model PP w) A (.call (.ref aIDM) ⟨[.int a t1, .int b t2], []⟩) R ⟨hp, gn, dr, tk0, os⟩ := by
  refine ent (T := []) (n := cnt n a + 21) (binds := [("a", .int a t1), ("b", .int b t2)]) G k rm (k.at0 G rfl) rfl (k.code G rfl) rfl rfl rfl rfl rfl rfl rfl ?_
  intro h1 tk1 F rm1 kk
  repeat (first | (first | ((with_reducible show wpAny _ _ (execs (Stmt.Assign [Expr.Name _ _] _ _ :: _) _) _ _ _); refine rAs ?_) | with_reducible refine rRet ?_ | with_reducible refine rIf ?_ | with_reducible refine wpAny_BinOp ?_ | with_reducible refine rI ?_ | with_reducible refine rS ?_ | ((with_reducible show wpAny _ _ (eval (Expr.Name _ _) _) _ _ _); refine nL (by assumption) rfl ?_) | ((with_reducible show wpAny _ _ (storeName _ _ _) _ _ _); refine rSt (by assumption) ?_; intro _ _) | ((with_reducible show wpAny _ _ (isTrue (Expr.Compare _ [_] [_] _) _ _) _ _ _); refine wpAny_isTrue_Compare1 ?_) | with_reducible refine wpAny_truthy_bool ?_ | with_reducible refine rEq ?_ | ((with_reducible show wpAny _ _ (eval (Expr.Call _ _ [] _) _) _ _ _); refine Call_ ?_) | ((with_reducible show wpAny _ _ (spliced (backTo _ (starEach (_ :: _) _))) _ _ _); refine spliced_more ?_) | ((with_reducible show wpAny _ _ (spliced (backTo _ (starEach [] _))) _ _ _); refine spliced_none ?_) | with_reducible refine wpAny_IfExp ?_) | (dsimp only; first | ((with_reducible show wpAny _ _ (execs (Stmt.Assign [Expr.Name _ _] _ _ :: _) _) _ _ _); refine rAs ?_) | with_reducible refine rRet ?_ | with_reducible refine rIf ?_ | with_reducible refine wpAny_BinOp ?_ | with_reducible refine rI ?_ | with_reducible refine rS ?_ | ((with_reducible show wpAny _ _ (eval (Expr.Name _ _) _) _ _ _); refine nL (by assumption) rfl ?_) | ((with_reducible show wpAny _ _ (storeName _ _ _) _ _ _); refine rSt (by assumption) ?_; intro _ _) | ((with_reducible show wpAny _ _ (isTrue (Expr.Compare _ [_] [_] _) _ _) _ _ _); refine wpAny_isTrue_Compare1 ?_) | with_reducible refine wpAny_truthy_bool ?_ | with_reducible refine rEq ?_ | ((with_reducible show wpAny _ _ (eval (Expr.Call _ _ [] _) _) _ _ _); refine Call_ ?_) | ((with_reducible show wpAny _ _ (spliced (backTo _ (starEach (_ :: _) _))) _ _ _); refine spliced_more ?_) | ((with_reducible show wpAny _ _ (spliced (backTo _ (starEach [] _))) _ _ _); refine spliced_none ?_) | with_reducible refine wpAny_IfExp ?_))
  refine iteF (by simp <;> (clear hbn hn hc; omega)) ?_
  repeat (first | (first | ((with_reducible show wpAny _ _ (execs (Stmt.Assign [Expr.Name _ _] _ _ :: _) _) _ _ _); refine rAs ?_) | with_reducible refine rRet ?_ | with_reducible refine rIf ?_ | with_reducible refine wpAny_BinOp ?_ | with_reducible refine rI ?_ | with_reducible refine rS ?_ | ((with_reducible show wpAny _ _ (eval (Expr.Name _ _) _) _ _ _); refine nL (by assumption) rfl ?_) | ((with_reducible show wpAny _ _ (storeName _ _ _) _ _ _); refine rSt (by assumption) ?_; intro _ _) | ((with_reducible show wpAny _ _ (isTrue (Expr.Compare _ [_] [_] _) _ _) _ _ _); refine wpAny_isTrue_Compare1 ?_) | with_reducible refine wpAny_truthy_bool ?_ | with_reducible refine rEq ?_ | ((with_reducible show wpAny _ _ (eval (Expr.Call _ _ [] _) _) _ _ _); refine Call_ ?_) | ((with_reducible show wpAny _ _ (spliced (backTo _ (starEach (_ :: _) _))) _ _ _); refine spliced_more ?_) | ((with_reducible show wpAny _ _ (spliced (backTo _ (starEach [] _))) _ _ _); refine spliced_none ?_) | with_reducible refine wpAny_IfExp ?_) | (dsimp only; first | ((with_reducible show wpAny _ _ (execs (Stmt.Assign [Expr.Name _ _] _ _ :: _) _) _ _ _); refine rAs ?_) | with_reducible refine rRet ?_ | with_reducible refine rIf ?_ | with_reducible refine wpAny_BinOp ?_ | with_reducible refine rI ?_ | with_reducible refine rS ?_ | ((with_reducible show wpAny _ _ (eval (Expr.Name _ _) _) _ _ _); refine nL (by assumption) rfl ?_) | ((with_reducible show wpAny _ _ (storeName _ _ _) _ _ _); refine rSt (by assumption) ?_; intro _ _) | ((with_reducible show wpAny _ _ (isTrue (Expr.Compare _ [_] [_] _) _ _) _ _ _); refine wpAny_isTrue_Compare1 ?_) | with_reducible refine wpAny_truthy_bool ?_ | with_reducible refine rEq ?_ | ((with_reducible show wpAny _ _ (eval (Expr.Call _ _ [] _) _) _ _ _); refine Call_ ?_) | ((with_reducible show wpAny _ _ (spliced (backTo _ (starEach (_ :: _) _))) _ _ _); refine spliced_more ?_) | ((with_reducible show wpAny _ _ (spliced (backTo _ (starEach [] _))) _ _ _); refine spliced_none ?_) | with_reducible refine wpAny_IfExp ?_))
  refine rLt ?_
  repeat (first | (first | ((with_reducible show wpAny _ _ (execs (Stmt.Assign [Expr.Name _ _] _ _ :: _) _) _ _ _); refine rAs ?_) | with_reducible refine rRet ?_ | with_reducible refine rIf ?_ | with_reducible refine wpAny_BinOp ?_ | with_reducible refine rI ?_ | with_reducible refine rS ?_ | ((with_reducible show wpAny _ _ (eval (Expr.Name _ _) _) _ _ _); refine nL (by assumption) rfl ?_) | ((with_reducible show wpAny _ _ (storeName _ _ _) _ _ _); refine rSt (by assumption) ?_; intro _ _) | ((with_reducible show wpAny _ _ (isTrue (Expr.Compare _ [_] [_] _) _ _) _ _ _); refine wpAny_isTrue_Compare1 ?_) | with_reducible refine wpAny_truthy_bool ?_ | with_reducible refine rEq ?_ | ((with_reducible show wpAny _ _ (eval (Expr.Call _ _ [] _) _) _ _ _); refine Call_ ?_) | ((with_reducible show wpAny _ _ (spliced (backTo _ (starEach (_ :: _) _))) _ _ _); refine spliced_more ?_) | ((with_reducible show wpAny _ _ (spliced (backTo _ (starEach [] _))) _ _ _); refine spliced_none ?_) | with_reducible refine wpAny_IfExp ?_) | (dsimp only; first | ((with_reducible show wpAny _ _ (execs (Stmt.Assign [Expr.Name _ _] _ _ :: _) _) _ _ _); refine rAs ?_) | with_reducible refine rRet ?_ | with_reducible refine rIf ?_ | with_reducible refine wpAny_BinOp ?_ | with_reducible refine rI ?_ | with_reducible refine rS ?_ | ((with_reducible show wpAny _ _ (eval (Expr.Name _ _) _) _ _ _); refine nL (by assumption) rfl ?_) | ((with_reducible show wpAny _ _ (storeName _ _ _) _ _ _); refine rSt (by assumption) ?_; intro _ _) | ((with_reducible show wpAny _ _ (isTrue (Expr.Compare _ [_] [_] _) _ _) _ _ _); refine wpAny_isTrue_Compare1 ?_) | with_reducible refine wpAny_truthy_bool ?_ | with_reducible refine rEq ?_ | ((with_reducible show wpAny _ _ (eval (Expr.Call _ _ [] _) _) _ _ _); refine Call_ ?_) | ((with_reducible show wpAny _ _ (spliced (backTo _ (starEach (_ :: _) _))) _ _ _); refine spliced_more ?_) | ((with_reducible show wpAny _ _ (spliced (backTo _ (starEach [] _))) _ _ _); refine spliced_none ?_) | with_reducible refine wpAny_IfExp ?_))
  refine iteF (by simp <;> omega) ?_
  repeat (first | (first | ((with_reducible show wpAny _ _ (execs (Stmt.Assign [Expr.Name _ _] _ _ :: _) _) _ _ _); refine rAs ?_) | with_reducible refine rRet ?_ | with_reducible refine rIf ?_ | with_reducible refine wpAny_BinOp ?_ | with_reducible refine rI ?_ | with_reducible refine rS ?_ | ((with_reducible show wpAny _ _ (eval (Expr.Name _ _) _) _ _ _); refine nL (by assumption) rfl ?_) | ((with_reducible show wpAny _ _ (storeName _ _ _) _ _ _); refine rSt (by assumption) ?_; intro _ _) | ((with_reducible show wpAny _ _ (isTrue (Expr.Compare _ [_] [_] _) _ _) _ _ _); refine wpAny_isTrue_Compare1 ?_) | with_reducible refine wpAny_truthy_bool ?_ | with_reducible refine rEq ?_ | ((with_reducible show wpAny _ _ (eval (Expr.Call _ _ [] _) _) _ _ _); refine Call_ ?_) | ((with_reducible show wpAny _ _ (spliced (backTo _ (starEach (_ :: _) _))) _ _ _); refine spliced_more ?_) | ((with_reducible show wpAny _ _ (spliced (backTo _ (starEach [] _))) _ _ _); refine spliced_none ?_) | with_reducible refine wpAny_IfExp ?_) | (dsimp only; first | ((with_reducible show wpAny _ _ (execs (Stmt.Assign [Expr.Name _ _] _ _ :: _) _) _ _ _); refine rAs ?_) | with_reducible refine rRet ?_ | with_reducible refine rIf ?_ | with_reducible refine wpAny_BinOp ?_ | with_reducible refine rI ?_ | with_reducible refine rS ?_ | ((with_reducible show wpAny _ _ (eval (Expr.Name _ _) _) _ _ _); refine nL (by assumption) rfl ?_) | ((with_reducible show wpAny _ _ (storeName _ _ _) _ _ _); refine rSt (by assumption) ?_; intro _ _) | ((with_reducible show wpAny _ _ (isTrue (Expr.Compare _ [_] [_] _) _ _) _ _ _); refine wpAny_isTrue_Compare1 ?_) | with_reducible refine wpAny_truthy_bool ?_ | with_reducible refine rEq ?_ | ((with_reducible show wpAny _ _ (eval (Expr.Call _ _ [] _) _) _ _ _); refine Call_ ?_) | ((with_reducible show wpAny _ _ (spliced (backTo _ (starEach (_ :: _) _))) _ _ _); refine spliced_more ?_) | ((with_reducible show wpAny _ _ (spliced (backTo _ (starEach [] _))) _ _ _); refine spliced_none ?_) | with_reducible refine wpAny_IfExp ?_))
  refine rLt ?_
  repeat (first | (first | ((with_reducible show wpAny _ _ (execs (Stmt.Assign [Expr.Name _ _] _ _ :: _) _) _ _ _); refine rAs ?_) | with_reducible refine rRet ?_ | with_reducible refine rIf ?_ | with_reducible refine wpAny_BinOp ?_ | with_reducible refine rI ?_ | with_reducible refine rS ?_ | ((with_reducible show wpAny _ _ (eval (Expr.Name _ _) _) _ _ _); refine nL (by assumption) rfl ?_) | ((with_reducible show wpAny _ _ (storeName _ _ _) _ _ _); refine rSt (by assumption) ?_; intro _ _) | ((with_reducible show wpAny _ _ (isTrue (Expr.Compare _ [_] [_] _) _ _) _ _ _); refine wpAny_isTrue_Compare1 ?_) | with_reducible refine wpAny_truthy_bool ?_ | with_reducible refine rEq ?_ | ((with_reducible show wpAny _ _ (eval (Expr.Call _ _ [] _) _) _ _ _); refine Call_ ?_) | ((with_reducible show wpAny _ _ (spliced (backTo _ (starEach (_ :: _) _))) _ _ _); refine spliced_more ?_) | ((with_reducible show wpAny _ _ (spliced (backTo _ (starEach [] _))) _ _ _); refine spliced_none ?_) | with_reducible refine wpAny_IfExp ?_) | (dsimp only; first | ((with_reducible show wpAny _ _ (execs (Stmt.Assign [Expr.Name _ _] _ _ :: _) _) _ _ _); refine rAs ?_) | with_reducible refine rRet ?_ | with_reducible refine rIf ?_ | with_reducible refine wpAny_BinOp ?_ | with_reducible refine rI ?_ | with_reducible refine rS ?_ | ((with_reducible show wpAny _ _ (eval (Expr.Name _ _) _) _ _ _); refine nL (by assumption) rfl ?_) | ((with_reducible show wpAny _ _ (storeName _ _ _) _ _ _); refine rSt (by assumption) ?_; intro _ _) | ((with_reducible show wpAny _ _ (isTrue (Expr.Compare _ [_] [_] _) _ _) _ _ _); refine wpAny_isTrue_Compare1 ?_) | with_reducible refine wpAny_truthy_bool ?_ | with_reducible refine rEq ?_ | ((with_reducible show wpAny _ _ (eval (Expr.Call _ _ [] _) _) _ _ _); refine Call_ ?_) | ((with_reducible show wpAny _ _ (spliced (backTo _ (starEach (_ :: _) _))) _ _ _); refine spliced_more ?_) | ((with_reducible show wpAny _ _ (spliced (backTo _ (starEach [] _))) _ _ _); refine spliced_none ?_) | with_reducible refine wpAny_IfExp ?_))
  refine iteF (by simp <;> omega) ?_
  repeat (first | (first | ((with_reducible show wpAny _ _ (execs (Stmt.Assign [Expr.Name _ _] _ _ :: _) _) _ _ _); refine rAs ?_) | with_reducible refine rRet ?_ | with_reducible refine rIf ?_ | with_reducible refine wpAny_BinOp ?_ | with_reducible refine rI ?_ | with_reducible refine rS ?_ | ((with_reducible show wpAny _ _ (eval (Expr.Name _ _) _) _ _ _); refine nL (by assumption) rfl ?_) | ((with_reducible show wpAny _ _ (storeName _ _ _) _ _ _); refine rSt (by assumption) ?_; intro _ _) | ((with_reducible show wpAny _ _ (isTrue (Expr.Compare _ [_] [_] _) _ _) _ _ _); refine wpAny_isTrue_Compare1 ?_) | with_reducible refine wpAny_truthy_bool ?_ | with_reducible refine rEq ?_ | ((with_reducible show wpAny _ _ (eval (Expr.Call _ _ [] _) _) _ _ _); refine Call_ ?_) | ((with_reducible show wpAny _ _ (spliced (backTo _ (starEach (_ :: _) _))) _ _ _); refine spliced_more ?_) | ((with_reducible show wpAny _ _ (spliced (backTo _ (starEach [] _))) _ _ _); refine spliced_none ?_) | with_reducible refine wpAny_IfExp ?_) | (dsimp only; first | ((with_reducible show wpAny _ _ (execs (Stmt.Assign [Expr.Name _ _] _ _ :: _) _) _ _ _); refine rAs ?_) | with_reducible refine rRet ?_ | with_reducible refine rIf ?_ | with_reducible refine wpAny_BinOp ?_ | with_reducible refine rI ?_ | with_reducible refine rS ?_ | ((with_reducible show wpAny _ _ (eval (Expr.Name _ _) _) _ _ _); refine nL (by assumption) rfl ?_) | ((with_reducible show wpAny _ _ (storeName _ _ _) _ _ _); refine rSt (by assumption) ?_; intro _ _) | ((with_reducible show wpAny _ _ (isTrue (Expr.Compare _ [_] [_] _) _ _) _ _ _); refine wpAny_isTrue_Compare1 ?_) | with_reducible refine wpAny_truthy_bool ?_ | with_reducible refine rEq ?_ | ((with_reducible show wpAny _ _ (eval (Expr.Call _ _ [] _) _) _ _ _); refine Call_ ?_) | ((with_reducible show wpAny _ _ (spliced (backTo _ (starEach (_ :: _) _))) _ _ _); refine spliced_more ?_) | ((with_reducible show wpAny _ _ (spliced (backTo _ (starEach [] _))) _ _ _); refine spliced_none ?_) | with_reducible refine wpAny_IfExp ?_))
  refine nG G F rfl ?_
  refine rCW (F.ok.at0 G rfl) rfl ?_
  repeat (first | (first | ((with_reducible show wpAny _ _ (execs (Stmt.Assign [Expr.Name _ _] _ _ :: _) _) _ _ _); refine rAs ?_) | with_reducible refine rRet ?_ | with_reducible refine rIf ?_ | with_reducible refine wpAny_BinOp ?_ | with_reducible refine rI ?_ | with_reducible refine rS ?_ | ((with_reducible show wpAny _ _ (eval (Expr.Name _ _) _) _ _ _); refine nL (by assumption) rfl ?_) | ((with_reducible show wpAny _ _ (storeName _ _ _) _ _ _); refine rSt (by assumption) ?_; intro _ _) | ((with_reducible show wpAny _ _ (isTrue (Expr.Compare _ [_] [_] _) _ _) _ _ _); refine wpAny_isTrue_Compare1 ?_) | with_reducible refine wpAny_truthy_bool ?_ | with_reducible refine rEq ?_ | ((with_reducible show wpAny _ _ (eval (Expr.Call _ _ [] _) _) _ _ _); refine Call_ ?_) | ((with_reducible show wpAny _ _ (spliced (backTo _ (starEach (_ :: _) _))) _ _ _); refine spliced_more ?_) | ((with_reducible show wpAny _ _ (spliced (backTo _ (starEach [] _))) _ _ _); refine spliced_none ?_) | with_reducible refine wpAny_IfExp ?_) | (dsimp only; first | ((with_reducible show wpAny _ _ (execs (Stmt.Assign [Expr.Name _ _] _ _ :: _) _) _ _ _); refine rAs ?_) | with_reducible refine rRet ?_ | with_reducible refine rIf ?_ | with_reducible refine wpAny_BinOp ?_ | with_reducible refine rI ?_ | with_reducible refine rS ?_ | ((with_reducible show wpAny _ _ (eval (Expr.Name _ _) _) _ _ _); refine nL (by assumption) rfl ?_) | ((with_reducible show wpAny _ _ (storeName _ _ _) _ _ _); refine rSt (by assumption) ?_; intro _ _) | ((with_reducible show wpAny _ _ (isTrue (Expr.Compare _ [_] [_] _) _ _) _ _ _); refine wpAny_isTrue_Compare1 ?_) | with_reducible refine wpAny_truthy_bool ?_ | with_reducible refine rEq ?_ | ((with_reducible show wpAny _ _ (eval (Expr.Call _ _ [] _) _) _ _ _); refine Call_ ?_) | ((with_reducible show wpAny _ _ (spliced (backTo _ (starEach (_ :: _) _))) _ _ _); refine spliced_more ?_) | ((with_reducible show wpAny _ _ (spliced (backTo _ (starEach [] _))) _ _ _); refine spliced_none ?_) | with_reducible refine wpAny_IfExp ?_))
  refine ⟨F.ok.at0 G rfl, ?_⟩
  refine c_dmp G F.ok hbn (rm1.le (by (clear hbn hb hn hc; omega))) hb hn hc ?_
  intro t u1 u2 h' tks k' K' ht hT
  have F' := F.call k' K'
  have q := fun tks => h t u1 u2 h' tks k' F'.kp (Nat.le_trans F.gsz ht) hT
  exact q _
end Mine

namespace Mine
def hx (x : Nat) : List Nat := if h : x = 0 then [] else (x % 16) :: hx (x / 16)
theorem hx_zero : hx 0 = [] := by rw [hx]; rfl
theorem hx_pos {x : Nat} (h : x ≠ 0) : hx x = (x % 16) :: hx (x / 16) := by rw [hx]; rw [dif_neg h]
def ap (d : Nat) : UInt8 := (65 + d).toUInt8
def apB (ds : List Nat) : Array UInt8 := (ds.reverse.map ap).toArray
def APs : Array UInt8 := [(65 : UInt8), 66, 67, 68, 69, 70, 71, 72, 73, 74, 75, 76, 77, 78, 79, 80].toArray
theorem aps_one : ∀ d : Nat, d < 16 → KBy.picked APs (some (d : Int)) (some ((d + 1 : Nat) : Int)) = #[ap d] := by
  intro d hd
  have : ∀ d : Fin 16, KBy.picked APs (some ((d.val : Nat) : Int)) (some ((d.val + 1 : Nat) : Int)) = #[ap d.val] := by decide +kernel
  exact this ⟨d, hd⟩
section
variable {w : World} {A : Around} {E : Value → Shared → Prop} {Q : Value → Shared → Prop} {t u : Tok} {hp : Heap} {gn : Array GenState} {dr : Drawn} {tk : Nat} {os : OsState} {pos : Pos} {k : Nat} {env : Env}
theorem rBy {x : List UInt8} (h : ∀ t, Q (.bytes x.toArray t) ⟨hp, gn, dr, tk + 1, os⟩) : wpAny (model PP w) A (eval (.Constant (.bytes x) k pos) env) Q E ⟨hp, gn, dr, tk, os⟩ := Constant_bytes (h _)
theorem rSub1 {value slice : Expr}
    (h : wpAny (model PP w) A (eval value env) (fun o s₁ => wpAny (model PP w) A (eval slice env) (fun i s₂ => wpAny (model PP w) A (subscriptTail value slice o i) Q E s₂) E s₁) E ⟨hp, gn, dr, tk, os⟩) :
    wpAny (model PP w) A (eval (.Subscript value slice pos) env) Q E ⟨hp, gn, dr, tk, os⟩ := Subscript_ h
theorem rBySl {value slice : Expr} {b : Array UInt8} {l u : Value} {lo hi : Option Int} (hl : IsPart l lo) (hu : IsPart u hi) (hz : b.size ≤ 16777216)
    (h : ∀ t' k', Q (.bytes (KBy.picked b lo hi) t') ⟨hp.push { cls := .type "slice", data := .fields #[l, u, .none] }, gn, dr, k', os⟩)
    (hs : subscripted slice false (.bytes b t) (.ref hp.objs.size) = operate [.ref hp.objs.size, .bytes b t] (getItem (.bytes b t) (.ref hp.objs.size)) := by with_unfolding_all rfl)
    (ht : ∀ r, letTemporaryGo value (.bytes b t) r = pure () := by intro _; with_unfolding_all rfl) :
    wpAny (model PP w) A (subscriptTail value slice (.bytes b t) (.ref hp.objs.size)) Q E ⟨hp.push { cls := .type "slice", data := .fields #[l, u, .none] }, gn, dr, tk, os⟩ :=
  tail_of_ItemOn ⟨"bytes", _, FB.slot_bytes_getitem.lookup, typeIs_bytes _ _ _, getItem_meets (typeIs_bytes _ _ _) (by decide) FB.slot_bytes_getitem FB.entry_bytes_getitem (FB.args_bytes_getitem_2 _ _) (KBc.meets_slice2 b t _ hl hu)
    ⟨Heap.IsSliceOf.new _ _ _ _, Nat.le_trans (KBc.size_picked_le b lo hi) (by rw [sizeLine_eq]; exact hz), fun t' k => h _ _⟩⟩ hs ht
theorem rByAdd {b c : Array UInt8} (hsz : b.size + c.size ≤ 16777216) (h : ∀ t' k', Q (.bytes (b ++ c) t') ⟨hp, gn, dr, k', os⟩) : wpAny (model PP w) A (binaryOp .Add (.bytes b t) (.bytes c u)) Q E ⟨hp, gn, dr, tk, os⟩ := KBy.add_bytes hsz h
theorem rSlc {lower upper step : Option Expr} {p : Pos}
    (h : wpAny (model PP w) A (evalPart lower env) (fun l s₁ => wpAny (model PP w) A (evalPart upper env) (fun u s₂ => wpAny (model PP w) A (evalPart step env) (fun st s₃ =>
      Q (.ref s₃.heap.objs.size) { s₃ with heap := s₃.heap.push { cls := .type "slice", data := .fields #[l, u, st] } }) E s₂) E s₁) E ⟨hp, gn, dr, tk, os⟩) :
    wpAny (model PP w) A (eval (.Slice lower upper step p) env) Q E ⟨hp, gn, dr, tk, os⟩ := wpAny_Slice h
end
theorem c_i2a {w : World} {mg mb : Str → Option Value} {g0 : Heap} (G : Gd w mg mb g0) {A : Around} {R : Result → Shared → Prop} {hp : Heap} {gn : Array GenState} {dr : Drawn} {tk0 : Nat} {os : OsState} (k : OK g0 hp) {x : Nat} {t1 : Tok}
  (rm : Rm A 5) (hs : (hx x).length ≤ 1000)
 (h : ∀ t h' tks, OK g0 h' → Kp [] hp h' → R (.ok (.ret (.bytes (apB (hx x)) t))) ⟨h', gn, dr, tks, os⟩) : codeAny (model PP w) A (.call (.ref aI2A) ⟨[.int x t1], []⟩) R ⟨hp, gn, dr, tk0, os⟩ := by
  refine ent (T := []) (n := 4) (binds := [("num", .int x t1)]) G k rm (k.at0 G rfl) rfl (k.code G rfl) rfl rfl rfl rfl rfl rfl rfl ?_
  intro h1 tk1 F rm1 kk
  repeat (first | (first | ((with_reducible show wpAny _ _ (execs (Stmt.Assign [Expr.Name _ _] _ _ :: _) _) _ _ _); refine rAs ?_) | with_reducible refine rRet ?_ | with_reducible refine rIf ?_ | with_reducible refine wpAny_BinOp ?_ | with_reducible refine rI ?_ | with_reducible refine rS ?_ | ((with_reducible show wpAny _ _ (eval (Expr.Name _ _) _) _ _ _); refine nL (by assumption) rfl ?_) | ((with_reducible show wpAny _ _ (storeName _ _ _) _ _ _); refine rSt (by assumption) ?_; intro _ _) | ((with_reducible show wpAny _ _ (isTrue (Expr.Compare _ [_] [_] _) _ _) _ _ _); refine wpAny_isTrue_Compare1 ?_) | with_reducible refine wpAny_truthy_bool ?_ | with_reducible refine rEq ?_ | ((with_reducible show wpAny _ _ (eval (Expr.Call _ _ [] _) _) _ _ _); refine Call_ ?_) | ((with_reducible show wpAny _ _ (spliced (backTo _ (starEach (_ :: _) _))) _ _ _); refine spliced_more ?_) | ((with_reducible show wpAny _ _ (spliced (backTo _ (starEach [] _))) _ _ _); refine spliced_none ?_) | with_reducible refine wpAny_IfExp ?_) | (dsimp only; first | ((with_reducible show wpAny _ _ (execs (Stmt.Assign [Expr.Name _ _] _ _ :: _) _) _ _ _); refine rAs ?_) | with_reducible refine rRet ?_ | with_reducible refine rIf ?_ | with_reducible refine wpAny_BinOp ?_ | with_reducible refine rI ?_ | with_reducible refine rS ?_ | ((with_reducible show wpAny _ _ (eval (Expr.Name _ _) _) _ _ _); refine nL (by assumption) rfl ?_) | ((with_reducible show wpAny _ _ (storeName _ _ _) _ _ _); refine rSt (by assumption) ?_; intro _ _) | ((with_reducible show wpAny _ _ (isTrue (Expr.Compare _ [_] [_] _) _ _) _ _ _); refine wpAny_isTrue_Compare1 ?_) | with_reducible refine wpAny_truthy_bool ?_ | with_reducible refine rEq ?_ | ((with_reducible show wpAny _ _ (eval (Expr.Call _ _ [] _) _) _ _ _); refine Call_ ?_) | ((with_reducible show wpAny _ _ (spliced (backTo _ (starEach (_ :: _) _))) _ _ _); refine spliced_more ?_) | ((with_reducible show wpAny _ _ (spliced (backTo _ (starEach [] _))) _ _ _); refine spliced_none ?_) | with_reducible refine wpAny_IfExp ?_))
  refine rBy ?_
  intro t2
  repeat (first | (first | ((with_reducible show wpAny _ _ (execs (Stmt.Assign [Expr.Name _ _] _ _ :: _) _) _ _ _); refine rAs ?_) | with_reducible refine rRet ?_ | with_reducible refine rIf ?_ | with_reducible refine wpAny_BinOp ?_ | with_reducible refine rI ?_ | with_reducible refine rS ?_ | ((with_reducible show wpAny _ _ (eval (Expr.Name _ _) _) _ _ _); refine nL (by assumption) rfl ?_) | ((with_reducible show wpAny _ _ (storeName _ _ _) _ _ _); refine rSt (by assumption) ?_; intro _ _) | ((with_reducible show wpAny _ _ (isTrue (Expr.Compare _ [_] [_] _) _ _) _ _ _); refine wpAny_isTrue_Compare1 ?_) | with_reducible refine wpAny_truthy_bool ?_ | with_reducible refine rEq ?_ | ((with_reducible show wpAny _ _ (eval (Expr.Call _ _ [] _) _) _ _ _); refine Call_ ?_) | ((with_reducible show wpAny _ _ (spliced (backTo _ (starEach (_ :: _) _))) _ _ _); refine spliced_more ?_) | ((with_reducible show wpAny _ _ (spliced (backTo _ (starEach [] _))) _ _ _); refine spliced_none ?_) | with_reducible refine wpAny_IfExp ?_) | (dsimp only; first | ((with_reducible show wpAny _ _ (execs (Stmt.Assign [Expr.Name _ _] _ _ :: _) _) _ _ _); refine rAs ?_) | with_reducible refine rRet ?_ | with_reducible refine rIf ?_ | with_reducible refine wpAny_BinOp ?_ | with_reducible refine rI ?_ | with_reducible refine rS ?_ | ((with_reducible show wpAny _ _ (eval (Expr.Name _ _) _) _ _ _); refine nL (by assumption) rfl ?_) | ((with_reducible show wpAny _ _ (storeName _ _ _) _ _ _); refine rSt (by assumption) ?_; intro _ _) | ((with_reducible show wpAny _ _ (isTrue (Expr.Compare _ [_] [_] _) _ _) _ _ _); refine wpAny_isTrue_Compare1 ?_) | with_reducible refine wpAny_truthy_bool ?_ | with_reducible refine rEq ?_ | ((with_reducible show wpAny _ _ (eval (Expr.Call _ _ [] _) _) _ _ _); refine Call_ ?_) | ((with_reducible show wpAny _ _ (spliced (backTo _ (starEach (_ :: _) _))) _ _ _); refine spliced_more ?_) | ((with_reducible show wpAny _ _ (spliced (backTo _ (starEach [] _))) _ _ _); refine spliced_none ?_) | with_reducible refine wpAny_IfExp ?_))
  rename_i h2 F2
  refine rBy ?_
  intro t3
  repeat (first | (first | ((with_reducible show wpAny _ _ (execs (Stmt.Assign [Expr.Name _ _] _ _ :: _) _) _ _ _); refine rAs ?_) | with_reducible refine rRet ?_ | with_reducible refine rIf ?_ | with_reducible refine wpAny_BinOp ?_ | with_reducible refine rI ?_ | with_reducible refine rS ?_ | ((with_reducible show wpAny _ _ (eval (Expr.Name _ _) _) _ _ _); refine nL (by assumption) rfl ?_) | ((with_reducible show wpAny _ _ (storeName _ _ _) _ _ _); refine rSt (by assumption) ?_; intro _ _) | ((with_reducible show wpAny _ _ (isTrue (Expr.Compare _ [_] [_] _) _ _) _ _ _); refine wpAny_isTrue_Compare1 ?_) | with_reducible refine wpAny_truthy_bool ?_ | with_reducible refine rEq ?_ | ((with_reducible show wpAny _ _ (eval (Expr.Call _ _ [] _) _) _ _ _); refine Call_ ?_) | ((with_reducible show wpAny _ _ (spliced (backTo _ (starEach (_ :: _) _))) _ _ _); refine spliced_more ?_) | ((with_reducible show wpAny _ _ (spliced (backTo _ (starEach [] _))) _ _ _); refine spliced_none ?_) | with_reducible refine wpAny_IfExp ?_) | (dsimp only; first | ((with_reducible show wpAny _ _ (execs (Stmt.Assign [Expr.Name _ _] _ _ :: _) _) _ _ _); refine rAs ?_) | with_reducible refine rRet ?_ | with_reducible refine rIf ?_ | with_reducible refine wpAny_BinOp ?_ | with_reducible refine rI ?_ | with_reducible refine rS ?_ | ((with_reducible show wpAny _ _ (eval (Expr.Name _ _) _) _ _ _); refine nL (by assumption) rfl ?_) | ((with_reducible show wpAny _ _ (storeName _ _ _) _ _ _); refine rSt (by assumption) ?_; intro _ _) | ((with_reducible show wpAny _ _ (isTrue (Expr.Compare _ [_] [_] _) _ _) _ _ _); refine wpAny_isTrue_Compare1 ?_) | with_reducible refine wpAny_truthy_bool ?_ | with_reducible refine rEq ?_ | ((with_reducible show wpAny _ _ (eval (Expr.Call _ _ [] _) _) _ _ _); refine Call_ ?_) | ((with_reducible show wpAny _ _ (spliced (backTo _ (starEach (_ :: _) _))) _ _ _); refine spliced_more ?_) | ((with_reducible show wpAny _ _ (spliced (backTo _ (starEach [] _))) _ _ _); refine spliced_none ?_) | with_reducible refine wpAny_IfExp ?_))
  rename_i h3 F3
  refine nB G F3 rfl rfl ?_
  refine rCT ?_
  repeat (first | (first | ((with_reducible show wpAny _ _ (execs (Stmt.Assign [Expr.Name _ _] _ _ :: _) _) _ _ _); refine rAs ?_) | with_reducible refine rRet ?_ | with_reducible refine rIf ?_ | with_reducible refine wpAny_BinOp ?_ | with_reducible refine rI ?_ | with_reducible refine rS ?_ | ((with_reducible show wpAny _ _ (eval (Expr.Name _ _) _) _ _ _); refine nL (by assumption) rfl ?_) | ((with_reducible show wpAny _ _ (storeName _ _ _) _ _ _); refine rSt (by assumption) ?_; intro _ _) | ((with_reducible show wpAny _ _ (isTrue (Expr.Compare _ [_] [_] _) _ _) _ _ _); refine wpAny_isTrue_Compare1 ?_) | with_reducible refine wpAny_truthy_bool ?_ | with_reducible refine rEq ?_ | ((with_reducible show wpAny _ _ (eval (Expr.Call _ _ [] _) _) _ _ _); refine Call_ ?_) | ((with_reducible show wpAny _ _ (spliced (backTo _ (starEach (_ :: _) _))) _ _ _); refine spliced_more ?_) | ((with_reducible show wpAny _ _ (spliced (backTo _ (starEach [] _))) _ _ _); refine spliced_none ?_) | with_reducible refine wpAny_IfExp ?_) | (dsimp only; first | ((with_reducible show wpAny _ _ (execs (Stmt.Assign [Expr.Name _ _] _ _ :: _) _) _ _ _); refine rAs ?_) | with_reducible refine rRet ?_ | with_reducible refine rIf ?_ | with_reducible refine wpAny_BinOp ?_ | with_reducible refine rI ?_ | with_reducible refine rS ?_ | ((with_reducible show wpAny _ _ (eval (Expr.Name _ _) _) _ _ _); refine nL (by assumption) rfl ?_) | ((with_reducible show wpAny _ _ (storeName _ _ _) _ _ _); refine rSt (by assumption) ?_; intro _ _) | ((with_reducible show wpAny _ _ (isTrue (Expr.Compare _ [_] [_] _) _ _) _ _ _); refine wpAny_isTrue_Compare1 ?_) | with_reducible refine wpAny_truthy_bool ?_ | with_reducible refine rEq ?_ | ((with_reducible show wpAny _ _ (eval (Expr.Call _ _ [] _) _) _ _ _); refine Call_ ?_) | ((with_reducible show wpAny _ _ (spliced (backTo _ (starEach (_ :: _) _))) _ _ _); refine spliced_more ?_) | ((with_reducible show wpAny _ _ (spliced (backTo _ (starEach [] _))) _ _ _); refine spliced_none ?_) | with_reducible refine wpAny_IfExp ?_))
  refine nB G F3 rfl rfl ?_
  refine rCB ?_
  repeat (first | (first | ((with_reducible show wpAny _ _ (execs (Stmt.Assign [Expr.Name _ _] _ _ :: _) _) _ _ _); refine rAs ?_) | with_reducible refine rRet ?_ | with_reducible refine rIf ?_ | with_reducible refine wpAny_BinOp ?_ | with_reducible refine rI ?_ | with_reducible refine rS ?_ | ((with_reducible show wpAny _ _ (eval (Expr.Name _ _) _) _ _ _); refine nL (by assumption) rfl ?_) | ((with_reducible show wpAny _ _ (storeName _ _ _) _ _ _); refine rSt (by assumption) ?_; intro _ _) | ((with_reducible show wpAny _ _ (isTrue (Expr.Compare _ [_] [_] _) _ _) _ _ _); refine wpAny_isTrue_Compare1 ?_) | with_reducible refine wpAny_truthy_bool ?_ | with_reducible refine rEq ?_ | ((with_reducible show wpAny _ _ (eval (Expr.Call _ _ [] _) _) _ _ _); refine Call_ ?_) | ((with_reducible show wpAny _ _ (spliced (backTo _ (starEach (_ :: _) _))) _ _ _); refine spliced_more ?_) | ((with_reducible show wpAny _ _ (spliced (backTo _ (starEach [] _))) _ _ _); refine spliced_none ?_) | with_reducible refine wpAny_IfExp ?_) | (dsimp only; first | ((with_reducible show wpAny _ _ (execs (Stmt.Assign [Expr.Name _ _] _ _ :: _) _) _ _ _); refine rAs ?_) | with_reducible refine rRet ?_ | with_reducible refine rIf ?_ | with_reducible refine wpAny_BinOp ?_ | with_reducible refine rI ?_ | with_reducible refine rS ?_ | ((with_reducible show wpAny _ _ (eval (Expr.Name _ _) _) _ _ _); refine nL (by assumption) rfl ?_) | ((with_reducible show wpAny _ _ (storeName _ _ _) _ _ _); refine rSt (by assumption) ?_; intro _ _) | ((with_reducible show wpAny _ _ (isTrue (Expr.Compare _ [_] [_] _) _ _) _ _ _); refine wpAny_isTrue_Compare1 ?_) | with_reducible refine wpAny_truthy_bool ?_ | with_reducible refine rEq ?_ | ((with_reducible show wpAny _ _ (eval (Expr.Call _ _ [] _) _) _ _ _); refine Call_ ?_) | ((with_reducible show wpAny _ _ (spliced (backTo _ (starEach (_ :: _) _))) _ _ _); refine spliced_more ?_) | ((with_reducible show wpAny _ _ (spliced (backTo _ (starEach [] _))) _ _ _); refine spliced_none ?_) | with_reducible refine wpAny_IfExp ?_))
  refine call_abs_int ?_
  intro u4 tk4
  rw [if_neg (by (clear hs; omega))]
  repeat (first | (first | ((with_reducible show wpAny _ _ (execs (Stmt.Assign [Expr.Name _ _] _ _ :: _) _) _ _ _); refine rAs ?_) | with_reducible refine rRet ?_ | with_reducible refine rIf ?_ | with_reducible refine wpAny_BinOp ?_ | with_reducible refine rI ?_ | with_reducible refine rS ?_ | ((with_reducible show wpAny _ _ (eval (Expr.Name _ _) _) _ _ _); refine nL (by assumption) rfl ?_) | ((with_reducible show wpAny _ _ (storeName _ _ _) _ _ _); refine rSt (by assumption) ?_; intro _ _) | ((with_reducible show wpAny _ _ (isTrue (Expr.Compare _ [_] [_] _) _ _) _ _ _); refine wpAny_isTrue_Compare1 ?_) | with_reducible refine wpAny_truthy_bool ?_ | with_reducible refine rEq ?_ | ((with_reducible show wpAny _ _ (eval (Expr.Call _ _ [] _) _) _ _ _); refine Call_ ?_) | ((with_reducible show wpAny _ _ (spliced (backTo _ (starEach (_ :: _) _))) _ _ _); refine spliced_more ?_) | ((with_reducible show wpAny _ _ (spliced (backTo _ (starEach [] _))) _ _ _); refine spliced_none ?_) | with_reducible refine wpAny_IfExp ?_) | (dsimp only; first | ((with_reducible show wpAny _ _ (execs (Stmt.Assign [Expr.Name _ _] _ _ :: _) _) _ _ _); refine rAs ?_) | with_reducible refine rRet ?_ | with_reducible refine rIf ?_ | with_reducible refine wpAny_BinOp ?_ | with_reducible refine rI ?_ | with_reducible refine rS ?_ | ((with_reducible show wpAny _ _ (eval (Expr.Name _ _) _) _ _ _); refine nL (by assumption) rfl ?_) | ((with_reducible show wpAny _ _ (storeName _ _ _) _ _ _); refine rSt (by assumption) ?_; intro _ _) | ((with_reducible show wpAny _ _ (isTrue (Expr.Compare _ [_] [_] _) _ _) _ _ _); refine wpAny_isTrue_Compare1 ?_) | with_reducible refine wpAny_truthy_bool ?_ | with_reducible refine rEq ?_ | ((with_reducible show wpAny _ _ (eval (Expr.Call _ _ [] _) _) _ _ _); refine Call_ ?_) | ((with_reducible show wpAny _ _ (spliced (backTo _ (starEach (_ :: _) _))) _ _ _); refine spliced_more ?_) | ((with_reducible show wpAny _ _ (spliced (backTo _ (starEach [] _))) _ _ _); refine spliced_none ?_) | with_reducible refine wpAny_IfExp ?_))
  refine call_int_int ?_
  show wpAny (model PP w) _ _ _ _ ⟨h3, gn, dr, tk4, os⟩
  repeat (first | (first | ((with_reducible show wpAny _ _ (execs (Stmt.Assign [Expr.Name _ _] _ _ :: _) _) _ _ _); refine rAs ?_) | with_reducible refine rRet ?_ | with_reducible refine rIf ?_ | with_reducible refine wpAny_BinOp ?_ | with_reducible refine rI ?_ | with_reducible refine rS ?_ | ((with_reducible show wpAny _ _ (eval (Expr.Name _ _) _) _ _ _); refine nL (by assumption) rfl ?_) | ((with_reducible show wpAny _ _ (storeName _ _ _) _ _ _); refine rSt (by assumption) ?_; intro _ _) | ((with_reducible show wpAny _ _ (isTrue (Expr.Compare _ [_] [_] _) _ _) _ _ _); refine wpAny_isTrue_Compare1 ?_) | with_reducible refine wpAny_truthy_bool ?_ | with_reducible refine rEq ?_ | ((with_reducible show wpAny _ _ (eval (Expr.Call _ _ [] _) _) _ _ _); refine Call_ ?_) | ((with_reducible show wpAny _ _ (spliced (backTo _ (starEach (_ :: _) _))) _ _ _); refine spliced_more ?_) | ((with_reducible show wpAny _ _ (spliced (backTo _ (starEach [] _))) _ _ _); refine spliced_none ?_) | with_reducible refine wpAny_IfExp ?_) | (dsimp only; first | ((with_reducible show wpAny _ _ (execs (Stmt.Assign [Expr.Name _ _] _ _ :: _) _) _ _ _); refine rAs ?_) | with_reducible refine rRet ?_ | with_reducible refine rIf ?_ | with_reducible refine wpAny_BinOp ?_ | with_reducible refine rI ?_ | with_reducible refine rS ?_ | ((with_reducible show wpAny _ _ (eval (Expr.Name _ _) _) _ _ _); refine nL (by assumption) rfl ?_) | ((with_reducible show wpAny _ _ (storeName _ _ _) _ _ _); refine rSt (by assumption) ?_; intro _ _) | ((with_reducible show wpAny _ _ (isTrue (Expr.Compare _ [_] [_] _) _ _) _ _ _); refine wpAny_isTrue_Compare1 ?_) | with_reducible refine wpAny_truthy_bool ?_ | with_reducible refine rEq ?_ | ((with_reducible show wpAny _ _ (eval (Expr.Call _ _ [] _) _) _ _ _); refine Call_ ?_) | ((with_reducible show wpAny _ _ (spliced (backTo _ (starEach (_ :: _) _))) _ _ _); refine spliced_more ?_) | ((with_reducible show wpAny _ _ (spliced (backTo _ (starEach [] _))) _ _ _); refine spliced_none ?_) | with_reducible refine wpAny_IfExp ?_))
  rename_i h5 F5
  refine rWhile (fun i s => ∃ h' tk' mm ds tn tv, s = ⟨h', gn, dr, tk', os⟩ ∧ FS g0 hp [] hp.objs.size h' mm [] ∧ hx x = ds ++ hx i ∧ mm "num" = some (.int i tn) ∧ mm "val" = some (.bytes (apB ds) tv) ∧ mm "AP" = some (.bytes APs t3)) ?_ x ?_
  · rintro J hJ i s ⟨h', tk', mm, ds, tn, tv, rfl, Fi, hds, mn, mv, ma⟩
    refine isTrue_plain ?_
    refine nL Fi mn ?_
    refine rTru ?_
    by_cases hi : i = 0
    · subst hi
      refine iteF (by simp) ?_
      refine rRet ?_
      refine nL Fi mv ?_
      rw [hx_zero, List.append_nil] at hds
      subst hds
      have q := fun tks => h tv h' tks Fi.ok Fi.kp
      exact q _
    refine iteT (by simp; (clear hs; omega)) ?_
    refine rAs2 ?_
    refine Call_ ?_
    refine nB G Fi rfl rfl ?_
    refine rCB ?_
    refine spliced_more ?_
    refine nL Fi mn ?_
    repeat (first | (first | ((with_reducible show wpAny _ _ (execs (Stmt.Assign [Expr.Name _ _] _ _ :: _) _) _ _ _); refine rAs ?_) | with_reducible refine rRet ?_ | with_reducible refine rIf ?_ | with_reducible refine wpAny_BinOp ?_ | with_reducible refine rI ?_ | with_reducible refine rS ?_ | ((with_reducible show wpAny _ _ (eval (Expr.Name _ _) _) _ _ _); refine nL (by assumption) rfl ?_) | ((with_reducible show wpAny _ _ (storeName _ _ _) _ _ _); refine rSt (by assumption) ?_; intro _ _) | ((with_reducible show wpAny _ _ (isTrue (Expr.Compare _ [_] [_] _) _ _) _ _ _); refine wpAny_isTrue_Compare1 ?_) | with_reducible refine wpAny_truthy_bool ?_ | with_reducible refine rEq ?_ | ((with_reducible show wpAny _ _ (eval (Expr.Call _ _ [] _) _) _ _ _); refine Call_ ?_) | ((with_reducible show wpAny _ _ (spliced (backTo _ (starEach (_ :: _) _))) _ _ _); refine spliced_more ?_) | ((with_reducible show wpAny _ _ (spliced (backTo _ (starEach [] _))) _ _ _); refine spliced_none ?_) | with_reducible refine wpAny_IfExp ?_) | (dsimp only; first | ((with_reducible show wpAny _ _ (execs (Stmt.Assign [Expr.Name _ _] _ _ :: _) _) _ _ _); refine rAs ?_) | with_reducible refine rRet ?_ | with_reducible refine rIf ?_ | with_reducible refine wpAny_BinOp ?_ | with_reducible refine rI ?_ | with_reducible refine rS ?_ | ((with_reducible show wpAny _ _ (eval (Expr.Name _ _) _) _ _ _); refine nL (by assumption) rfl ?_) | ((with_reducible show wpAny _ _ (storeName _ _ _) _ _ _); refine rSt (by assumption) ?_; intro _ _) | ((with_reducible show wpAny _ _ (isTrue (Expr.Compare _ [_] [_] _) _ _) _ _ _); refine wpAny_isTrue_Compare1 ?_) | with_reducible refine wpAny_truthy_bool ?_ | with_reducible refine rEq ?_ | ((with_reducible show wpAny _ _ (eval (Expr.Call _ _ [] _) _) _ _ _); refine Call_ ?_) | ((with_reducible show wpAny _ _ (spliced (backTo _ (starEach (_ :: _) _))) _ _ _); refine spliced_more ?_) | ((with_reducible show wpAny _ _ (spliced (backTo _ (starEach [] _))) _ _ _); refine spliced_none ?_) | with_reducible refine wpAny_IfExp ?_))
    refine rDivmod (b := 16) (by decide) (by decide) ?_
    intro u1 u2 tk2
    have F6 := Fi.psh { cls := .type "tuple", data := .seq #[.int (i / 16 : Nat) u1, .int (i % 16 : Nat) u2] }
    refine rTup2 F6 rm1.hd ⟨_, F6.at 0 rfl, rfl, _, rfl⟩ ?_
    intro h7 F7
    repeat (first | (first | ((with_reducible show wpAny _ _ (execs (Stmt.Assign [Expr.Name _ _] _ _ :: _) _) _ _ _); refine rAs ?_) | with_reducible refine rRet ?_ | with_reducible refine rIf ?_ | with_reducible refine wpAny_BinOp ?_ | with_reducible refine rI ?_ | with_reducible refine rS ?_ | ((with_reducible show wpAny _ _ (eval (Expr.Name _ _) _) _ _ _); refine nL (by assumption) rfl ?_) | ((with_reducible show wpAny _ _ (storeName _ _ _) _ _ _); refine rSt (by assumption) ?_; intro _ _) | ((with_reducible show wpAny _ _ (isTrue (Expr.Compare _ [_] [_] _) _ _) _ _ _); refine wpAny_isTrue_Compare1 ?_) | with_reducible refine wpAny_truthy_bool ?_ | with_reducible refine rEq ?_ | ((with_reducible show wpAny _ _ (eval (Expr.Call _ _ [] _) _) _ _ _); refine Call_ ?_) | ((with_reducible show wpAny _ _ (spliced (backTo _ (starEach (_ :: _) _))) _ _ _); refine spliced_more ?_) | ((with_reducible show wpAny _ _ (spliced (backTo _ (starEach [] _))) _ _ _); refine spliced_none ?_) | with_reducible refine wpAny_IfExp ?_) | (dsimp only; first | ((with_reducible show wpAny _ _ (execs (Stmt.Assign [Expr.Name _ _] _ _ :: _) _) _ _ _); refine rAs ?_) | with_reducible refine rRet ?_ | with_reducible refine rIf ?_ | with_reducible refine wpAny_BinOp ?_ | with_reducible refine rI ?_ | with_reducible refine rS ?_ | ((with_reducible show wpAny _ _ (eval (Expr.Name _ _) _) _ _ _); refine nL (by assumption) rfl ?_) | ((with_reducible show wpAny _ _ (storeName _ _ _) _ _ _); refine rSt (by assumption) ?_; intro _ _) | ((with_reducible show wpAny _ _ (isTrue (Expr.Compare _ [_] [_] _) _ _) _ _ _); refine wpAny_isTrue_Compare1 ?_) | with_reducible refine wpAny_truthy_bool ?_ | with_reducible refine rEq ?_ | ((with_reducible show wpAny _ _ (eval (Expr.Call _ _ [] _) _) _ _ _); refine Call_ ?_) | ((with_reducible show wpAny _ _ (spliced (backTo _ (starEach (_ :: _) _))) _ _ _); refine spliced_more ?_) | ((with_reducible show wpAny _ _ (spliced (backTo _ (starEach [] _))) _ _ _); refine spliced_none ?_) | with_reducible refine wpAny_IfExp ?_))
    refine rSub1 ?_
    refine nL F7 ma ?_
    refine rSlc ?_
    rw [evalPart_some]
    refine nL F7 rfl ?_
    rw [evalPart_some]
    repeat (first | (first | ((with_reducible show wpAny _ _ (execs (Stmt.Assign [Expr.Name _ _] _ _ :: _) _) _ _ _); refine rAs ?_) | with_reducible refine rRet ?_ | with_reducible refine rIf ?_ | with_reducible refine wpAny_BinOp ?_ | with_reducible refine rI ?_ | with_reducible refine rS ?_ | ((with_reducible show wpAny _ _ (eval (Expr.Name _ _) _) _ _ _); refine nL (by assumption) rfl ?_) | ((with_reducible show wpAny _ _ (storeName _ _ _) _ _ _); refine rSt (by assumption) ?_; intro _ _) | ((with_reducible show wpAny _ _ (isTrue (Expr.Compare _ [_] [_] _) _ _) _ _ _); refine wpAny_isTrue_Compare1 ?_) | with_reducible refine wpAny_truthy_bool ?_ | with_reducible refine rEq ?_ | ((with_reducible show wpAny _ _ (eval (Expr.Call _ _ [] _) _) _ _ _); refine Call_ ?_) | ((with_reducible show wpAny _ _ (spliced (backTo _ (starEach (_ :: _) _))) _ _ _); refine spliced_more ?_) | ((with_reducible show wpAny _ _ (spliced (backTo _ (starEach [] _))) _ _ _); refine spliced_none ?_) | with_reducible refine wpAny_IfExp ?_) | (dsimp only; first | ((with_reducible show wpAny _ _ (execs (Stmt.Assign [Expr.Name _ _] _ _ :: _) _) _ _ _); refine rAs ?_) | with_reducible refine rRet ?_ | with_reducible refine rIf ?_ | with_reducible refine wpAny_BinOp ?_ | with_reducible refine rI ?_ | with_reducible refine rS ?_ | ((with_reducible show wpAny _ _ (eval (Expr.Name _ _) _) _ _ _); refine nL (by assumption) rfl ?_) | ((with_reducible show wpAny _ _ (storeName _ _ _) _ _ _); refine rSt (by assumption) ?_; intro _ _) | ((with_reducible show wpAny _ _ (isTrue (Expr.Compare _ [_] [_] _) _ _) _ _ _); refine wpAny_isTrue_Compare1 ?_) | with_reducible refine wpAny_truthy_bool ?_ | with_reducible refine rEq ?_ | ((with_reducible show wpAny _ _ (eval (Expr.Call _ _ [] _) _) _ _ _); refine Call_ ?_) | ((with_reducible show wpAny _ _ (spliced (backTo _ (starEach (_ :: _) _))) _ _ _); refine spliced_more ?_) | ((with_reducible show wpAny _ _ (spliced (backTo _ (starEach [] _))) _ _ _); refine spliced_none ?_) | with_reducible refine wpAny_IfExp ?_))
    refine rAdd ((i % 16 + 1 : Nat) : Int) (by simp) ?_
    rw [evalPart_none]
    refine wpAny_pure ?_
    have hlen : ds.length + 1 ≤ 1000 := by
      rw [hds, List.length_append, hx_pos hi, List.length_cons] at hs
      (clear hi; omega)
    refine rBySl (.int _ _) (.int _ _) (by decide) ?_
    intro t8 k8
    rw [aps_one _ (Nat.mod_lt _ (by decide))]
    have F8 := F7.psh0 { cls := .type "slice", data := .fields #[.int (i % 16 : Nat) u2, .int ((i % 16 + 1 : Nat) : Int) (tk2 + 1 + 1 + 1), .none] }
    refine nL F8 mv ?_
    refine rByAdd (by simp [apB]; (clear hs hi; omega)) ?_
    intro t9 k9
    refine rSt F8 ?_
    intro h10 F10
    refine rNil ?_
    refine ⟨i / 16, Nat.div_lt_self (by (clear hs hlen; omega)) (by decide), hJ _ _ ⟨h10, _, _, ds ++ [i % 16], u1, t9, rfl, F10.drop (List.nil_sublist _), ?_, ?_, ?_, ?_⟩⟩
    · rw [hds, hx_pos hi, List.append_assoc]; rfl
    · rfl
    · have : #[ap (i % 16)] ++ apB ds = apB (ds ++ [i % 16]) := by
        unfold apB
        rw [List.reverse_append, List.map_append]
        simp
      rw [← this]
      rfl
    · exact ma
  · exact ⟨_, _, _, [], _, _, rfl, F5, rfl, rfl, rfl, rfl⟩
end Mine

namespace Mine
noncomputable def KQ (w : World) : Frag := (KK w).filter fun p => !tabs.contains p.1
theorem look_filter {a : Addr} {o : Obj} : ∀ {l : Frag}, (l.filter fun p => !tabs.contains p.1).lookup a = some o → l.lookup a = some o ∧ a ∉ tabs
  | [], e => nomatch e
  | p :: l, e => by
    rw [List.filter_cons] at e
    split at e
    · rename_i q
      obtain ⟨b, ob⟩ := p
      rw [List.lookup_cons] at e ⊢
      split at e
      · rename_i z
        cases e
        have : a = b := eq_of_beq z
        subst this
        exact ⟨rfl, by simpa using q⟩
      · exact look_filter e
    · rename_i q
      obtain ⟨b, ob⟩ := p
      have r := look_filter e
      rw [List.lookup_cons]
      have : (a == b) = false := by
        rw [beq_eq_false_iff_ne]
        rintro rfl
        exact q (by simpa using r.2)
      rw [this]
      exact r
theorem OK.Q {w : World} {mg mb : Str → Option Value} {g0 h : Heap} (k : OK g0 h) (G : Gd w mg mb g0) : (KQ w).In h := fun a o e => by
  obtain ⟨e1, e2⟩ := look_filter e
  exact k.kp a o (G.X _ _ e1) e2
theorem q_mk (w : World) : makesIn (KQ w) aLEX = true := by kernel_rfl
theorem q_init (w : World) : findIn (KQ w) (.ref aLEX) "__init__" = some (some (.ref aINIT)) := by kernel_rfl
theorem q_initf (w : World) : typeIn (KQ w) (.ref aINIT) = some (.type "function") := by kernel_rfl
theorem q_ga (w : World) : findIn (KQ w) (.ref aLEX) "__getattribute__" = some (some (.builtin "object.__getattribute__")) := by kernel_rfl
theorem q_gk (w : World) : findIn (KQ w) (.ref aLEX) "__getattr__" = some none := by kernel_rfl
theorem q_sa (w : World) : findIn (KQ w) (.ref aLEX) "__setattr__" = some (some (.builtin "object.__setattr__")) := by kernel_rfl
theorem q_gt (w : World) : findIn (KQ w) (.ref aLEX) "get_token" = some (some (.ref aGT)) := by kernel_rfl
theorem q_po (w : World) : plainOver (KQ w) aLEX = true := by kernel_rfl
theorem q_t1 (w : World) : takerIn (KQ w) aLEX "lineno" = some none := by kernel_rfl
theorem q_t2 (w : World) : takerIn (KQ w) aLEX "instream" = some none := by kernel_rfl
theorem q_t3 (w : World) : takerIn (KQ w) aLEX "whitespace" = some none := by kernel_rfl
theorem q_t4 (w : World) : takerIn (KQ w) aLEX "pushback" = some none := by kernel_rfl
theorem q_t5 (w : World) : takerIn (KQ w) aLEX "read" = some none := by kernel_rfl
theorem q_hd (w : World) : (clsIn (KQ w) aLEX).any (·.hasDict) = true := by kernel_rfl
end Mine

namespace Mine
theorem owner_ci : Manifest.owners.lookup (String.ofList ['r', 'o', 't', 'a', 'r', 'e', 't', 'i', '_', 'e', 'l', 'b', 'a', 'l', 'l', 'a', 'c'].reverse) = some Manifest.sig_callable_iterator := by kernel_rfl
theorem slot_ci_next : Slot "callable_iterator" "__next__" "callable_iterator.__next__" :=
  .of (owner := "callable_iterator") (n := "__next__") (by rw [typeLookup_type, builtinLookup_eq_fast]; kernel_rfl) (by decide +kernel) (by decide +kernel) (by decide +kernel)
    (by first | exact .inl (by decide +kernel) | exact .inr (by decide +kernel)) (by rw [isSubtype_type]; kernel_rfl)
theorem entry_ci_next : entryFor table "callable_iterator.__next__" = some Builtin.«callable_iterator.__next__» := entryFor_of_tree (by kernel_rfl)
theorem args_ci_next (a : Value) : argsOk "callable_iterator.__next__" ⟨[a], []⟩ := by
  unfold argsOk; rw [signature?_of (id := "callable_iterator.__next__") (n := ['_', '_', 't', 'x', 'e', 'n', '_', '_']) (o := ['r', 'o', 't', 'a', 'r', 'e', 't', 'i', '_', 'e', 'l', 'b', 'a', 'l', 'l', 'a', 'c']) (by kernel_rfl) owner_ci]; kernel_rfl
theorem slot_ci_iter : Slot "callable_iterator" "__iter__" "callable_iterator.__iter__" :=
  .of (owner := "callable_iterator") (n := "__iter__") (by rw [typeLookup_type, builtinLookup_eq_fast]; kernel_rfl) (by decide +kernel) (by decide +kernel) (by decide +kernel)
    (by first | exact .inl (by decide +kernel) | exact .inr (by decide +kernel)) (by rw [isSubtype_type]; kernel_rfl)
theorem args_ci_iter (a : Value) : argsOk "callable_iterator.__iter__" ⟨[a], []⟩ := by
  unfold argsOk; rw [signature?_of (id := "callable_iterator.__iter__") (n := ['_', '_', 'r', 'e', 't', 'i', '_', '_']) (o := ['r', 'o', 't', 'a', 'r', 'e', 't', 'i', '_', 'e', 'l', 'b', 'a', 'l', 'l', 'a', 'c']) (by kernel_rfl) owner_ci]; kernel_rfl
theorem entry_ci_iter : entryFor table "callable_iterator.__iter__" = some Builtin.«dict_keyiterator.__iter__» :=
  entryFor_alias (id' := "dict_keyiterator.__iter__") (by kernel_rfl) (by first | rfl | decide +kernel | (unfold String.splitOn; simp +decide [String.splitOnAux])) (by decide +kernel) (by kernel_rfl)
abbrev CIt (b : Addr) (t : Tok) : Obj := { cls := .type "callable_iterator", data := .fields #[.ref b, .str "" t, .bool false] }
abbrev CEnd : Obj := { cls := .type "callable_iterator", data := .fields #[.none, .none, .bool true] }
theorem entry_iter : entryFor table "iter" = some Builtin.«iter» := entryFor_of_tree (by kernel_rfl)
theorem args_iter2 (a b : Value) : argsOk "iter" ⟨[a, b], []⟩ := by unfold argsOk; kernel_rfl
theorem slot_m_call : typeLookup (.type "method") "__call__" = pure (some (.builtin "method.__call__")) := by rw [typeLookup_type, builtinLookup_eq_fast]; kernel_rfl
section
variable {w : World} {A : Around} {E : Value → Shared → Prop} {Q : Value → Shared → Prop} {t u : Tok} {hp : Heap} {gn : Array GenState} {dr : Drawn} {tk : Nat} {os : OsState} {pos : Pos} {k : Nat} {env : Env}
  {g0 g : Heap} {T : List Addr} {L : Addr} {m : Str → Option Value} {nw : List (Addr × Obj)} {mg mb : Str → Option Value}
theorem wpAny_borrowed {f : Value} {args : List Value} (hc : codeAny (model PP w) A (.call f ⟨args, []⟩) (fun r s' => match r with | .ok (.ret v) => Q v s' | .ok _ => False | .error e => E e s') ⟨hp, gn, dr, tk, os⟩) :
    wpAny (model PP w) A (callBorrowed f args) Q E ⟨hp, gn, dr, tk, os⟩ := fun Γ p hΓ => by
  have r := hc (Γ.enter (.call f ⟨args, []⟩) none p) p rfl (hΓ.enter (.call f ⟨args, []⟩) none p (by intro x; cases x))
  show wpCode _ _ _ _ _
  refine wpCode_mono (fun r s' z => ?_) r
  rcases r with e | (v | _ | _ | _) <;> first | exact z | exact z.elim
theorem rIter2 {b : Addr} {f : Value} {x : Value} {c : Str} (hb : hp.get? b = some (methodObj f x)) (h : Q (.ref hp.objs.size) ⟨hp.push { cls := .type "callable_iterator", data := .fields #[.ref b, .str c t, .bool false] }, gn, dr, tk, os⟩) :
    wpAny (model PP w) A (call (.builtin "iter") [.ref b, .str c t]) Q E ⟨hp, gn, dr, tk, os⟩ := by
  refine call_function_entry (by decide +kernel) (by decide +kernel) entry_iter (args_iter2 _ _) ?_
  unfold Builtin.«iter»
  refine wpAny_bind (m := someArgs "iter" 1 2 _) (wpAny_of_eq (a := [Value.ref b, .str c t]) (by first | rfl | kernel_rfl!) ?_)
  refine wpAny_bind (wpAny_specialOf (T := "method") ⟨_, hb, rfl⟩ slot_m_call ?_)
  show wpAny _ _ (rule _ >>= _) _ _ _
  refine wpAny_bind (wpAny_rule ?_)
  exact wpAny_bind (wpAny_newObj_type (wpAny_pure ⟨_, rfl, h⟩))
theorem rIterCI {it b : Addr} (hi : hp.get? it = some (CIt b t)) (h : Q (.ref it) ⟨hp, gn, dr, tk, os⟩) : wpAny (model PP w) A (pyIter (.ref it)) Q E ⟨hp, gn, dr, tk, os⟩ := by
  have ty : Shared.TypeIs ⟨hp, gn, dr, tk, os⟩ (.ref it) "callable_iterator" := ⟨_, hi, rfl⟩
  refine wpAny_pyIter_slot ty slot_ci_iter (wpAny_call_entry slot_ci_iter ty entry_ci_iter ?_ (args_ci_iter _))
  show wpAny _ _ (ret (.ref it)) _ _ _
  exact wpAny_pure ⟨_, rfl, "callable_iterator", _, ty, slot_ci_next.lookup, h⟩
theorem borrows {b f : Addr} {x : Value} {of : Obj} {fd : FuncData} {Q : Bool → Shared → Prop} {s : Shared} (hb : s.heap.get? b = some (methodObj (.ref f) x)) (hf : s.heap.get? f = some of) (hfd : of.data = .func fd)
    (h : Q true s) : wpAny (model PP w) A (borrowsExactly (.ref b)) Q E s := by
  unfold borrowsExactly
  refine wpAny_bind (wpAny_load hb ?_)
  dsimp only
  rw [if_pos (by decide)]
  show wpAny _ _ (load f >>= _) _ _ _
  refine wpAny_bind (wpAny_load hf ?_)
  rw [hfd]
  exact wpAny_pure h
theorem rNextCI {it b f : Addr} {x : Value} {of : Obj} {fd : FuncData} {Q : Option Value → Shared → Prop} (hA : A.handled = none) (hi : hp.get? it = some (CIt b t)) (hb : hp.get? b = some (methodObj (.ref f) x)) (hf : hp.get? f = some of) (hfd : of.data = .func fd)
    (h : codeAny (model PP w) A.in1 (.call (.ref f) ⟨[x], []⟩) (fun r s' => match r with
      | .ok (.ret v) => ∃ c tc, v = .str c tc ∧ s'.heap.get? it = some (CIt b t) ∧ s'.heap.get? b = some (methodObj (.ref f) x) ∧ s'.heap.get? f = some of ∧
        (if c = "" then ∀ h', Heap.ExtBut it s'.heap h' → h'.get? it = some CEnd → Q none { s' with heap := h' } else Q (some v) s')
      | _ => False) ⟨hp, gn, dr, tk, os⟩) :
    wpAny (model PP w) A (pyNext (.ref it)) Q E ⟨hp, gn, dr, tk, os⟩ := by
  have ty : Shared.TypeIs ⟨hp, gn, dr, tk, os⟩ (.ref it) "callable_iterator" := ⟨_, hi, rfl⟩
  unfold pyNext
  refine wpAny_bind (wpAny_attempt (wpAny_callSpecial?_slot (name := Str.ofString "__next__") ty slot_ci_next
    (wpAny_call_entry slot_ci_next ty entry_ci_next ?_ (args_ci_next _))))
  unfold Builtin.«callable_iterator.__next__»
  refine wpAny_bind (wpAny_of_eq (a := (Value.ref it, [])) rfl ?_)
  try dsimp only
  refine wpAny_bind (wpAny_field hi rfl (x := .bool false) rfl ?_)
  rw [if_neg (by decide)]
  refine wpAny_bind ?_
  refine wpAny_field hi rfl (x := .ref b) rfl ?_
  refine wpAny_bind (wpAny_attempt ?_)
  unfold callOutOfASlot
  refine wpAny_bind ?_
  refine borrows hb hf hfd ?_
  rw [if_pos rfl]
  refine wpAny_borrowed ?_
  refine ks_codeAny_call_bound hb ?_
  refine codeAny_mono h fun r s' z => ?_
  rcases r with e | (_ | _ | _ | v)
  · exact z.elim
  · exact z.elim
  · exact z.elim
  · exact z.elim
  · obtain ⟨c, tc, rfl, hi', hb', hf', z⟩ := z
    dsimp only
    refine wpAny_bind (wpAny_field hi' rfl (x := .bool false) rfl ?_)
    rw [if_neg (by decide)]
    refine wpAny_bind ?_
    refine wpAny_field hi' rfl (x := .str "" t) rfl ?_
    refine wpAny_bind (wpAny_holding ?_)
    refine eqBool_str ?_
    by_cases hc : c = ""
    · subst hc
      rw [if_pos rfl] at z
      rw [if_neg (by decide)]
      refine wpAny_bind (wpAny_rule ?_)
      refine wpAny_bind ?_
      show wpAny _ _ (field (.ref it) 0 >>= _) _ _ _
      refine wpAny_bind (wpAny_field hi' rfl (x := .ref b) rfl ?_)
      refine wpAny_bind ?_
      unfold slotLetsGo
      dsimp only
      refine wpAny_bind (borrows hb' hf' hfd ?_)
      rw [if_pos rfl]
      refine wpAny_pure ?_
      refine wpAny_bind (wpAny_setField_rec hi' (by simp) fun h1 e1 S1 => ?_)
      refine wpAny_bind (wpAny_setField_rec e1 (by simp) fun h2 e2 S2 => ?_)
      refine wpAny_setField_rec e2 (by simp) fun h3 e3 S3 => ?_
      show wpAny _ _ (newExc (.type "StopIteration") [] >>= _) _ _ _
      refine wpAny_bind ?_
      simp only [newExc, newTuple]
      refine wpAny_bind (wpAny_newObj_type ?_ (by size_fits))
      refine wpAny_bind (m := firstArgMember _ _) (wpAny_of_eq (a := Value.none) (by first | rfl | (simp only [firstArgMember]; rfl)) ?_)
      refine wpAny_newObj_type ?_ (by size_fits)
      simp only [raiseNew]
      refine wpAny_bind (wpAny_handled ?_)
      first | rw [show A.in1.handled = none from hA] | rw [hA]
      refine wpAny_bind (wpAny_pure (wpAny_throw ?_))
      refine wpAny_bind (wpAny_isInstance (T := "StopIteration") (b := true) ⟨_, Heap.get?_push_size _ rfl, rfl⟩ isSubtype_stop ?_)
      refine wpAny_pure (z _ (((?_ : Heap.ExtBut it s'.heap h3).push _).push _) (Heap.get?_push_of_some _ (Heap.get?_push_of_some _ e3)))
      intro y o hy e
      exact (S3.2 y hy).trans ((S2.2 y hy).trans ((S1.2 y hy).trans e))
    · rw [if_neg hc] at z
      rw [if_pos (by have : ((Str.ofString "" : Str) == c) = false := beq_eq_false_iff_ne.mpr (Ne.symm hc)
                     rw [this]; rfl)]
      exact wpAny_pure ⟨_, rfl, wpAny_pure z⟩
theorem rNextCE {it : Addr} {Q : Option Value → Shared → Prop} (hA : A.handled = none) (hi : hp.get? it = some CEnd) (h : ∀ h', Heap.ExtBut hp.objs.size hp h' → Q none ⟨h', gn, dr, tk, os⟩) :
    wpAny (model PP w) A (pyNext (.ref it)) Q E ⟨hp, gn, dr, tk, os⟩ := by
  have ty : Shared.TypeIs ⟨hp, gn, dr, tk, os⟩ (.ref it) "callable_iterator" := ⟨_, hi, rfl⟩
  unfold pyNext
  refine wpAny_bind (wpAny_attempt (wpAny_callSpecial?_slot (name := Str.ofString "__next__") ty slot_ci_next
    (wpAny_call_entry slot_ci_next ty entry_ci_next ?_ (args_ci_next _))))
  unfold Builtin.«callable_iterator.__next__»
  refine wpAny_bind (wpAny_of_eq (a := (Value.ref it, [])) rfl ?_)
  try dsimp only
  refine wpAny_bind (wpAny_field hi rfl (x := .bool true) rfl ?_)
  rw [if_pos (by decide)]
  refine wpAny_bind (wpAny_rule ?_)
  refine wpAny_bind ?_
  show wpAny _ _ (newExc (.type "StopIteration") [] >>= _) _ _ _
  refine wpAny_bind ?_
  simp only [newExc, newTuple]
  refine wpAny_bind (wpAny_newObj_type ?_ (by size_fits))
  refine wpAny_bind (m := firstArgMember _ _) (wpAny_of_eq (a := Value.none) (by first | rfl | (simp only [firstArgMember]; rfl)) ?_)
  refine wpAny_newObj_type ?_ (by size_fits)
  simp only [raiseNew]
  refine wpAny_bind (wpAny_handled ?_)
  first | rw [show A.in1.handled = none from hA] | rw [hA]
  refine wpAny_bind (wpAny_pure (wpAny_throw ?_))
  refine wpAny_bind (wpAny_isInstance (T := "StopIteration") (b := true) ⟨_, Heap.get?_push_size _ rfl, rfl⟩ isSubtype_stop ?_)
  refine wpAny_pure (h _ ?_)
  exact (((Heap.ExtBut.refl _ _).push _).push _)
end
end Mine

namespace Mine
abbrev aE (w : World) (name : Str) (t : Tok) (v : Value) : DictEntry := ⟨PyData.keyHash w.params name, .str name t, v⟩
abbrev aD (es : List DictEntry) (n : Nat) : Obj := { cls := .type "dict", data := .dict es.toArray n }
theorem q_rd (w : World) : findIn (KQ w) (.ref aLEX) "read" = some none := by kernel_rfl
theorem q_rcf (w : World) : typeIn (KQ w) (.ref aRC) = some (.type "function") := by kernel_rfl
theorem q_gtf (w : World) : typeIn (KQ w) (.ref aGT) = some (.type "function") := by kernel_rfl
section
variable {w : World} {A : Around} {E : Value → Shared → Prop} {Q : Value → Shared → Prop} {t u : Tok} {hp : Heap} {gn : Array GenState} {dr : Drawn} {tk : Nat} {os : OsState} {pos : Pos} {k : Nat} {env : Env}
  {g0 g : Heap} {T : List Addr} {L : Addr} {m : Str → Option Value} {nw : List (Addr × Obj)} {mg mb : Str → Option Value}
theorem inst {x dx : Addr} {od : Obj} (hx : hp.get? x = some (instObj aLEX dx)) (hd : hp.get? dx = some od) : InstAt hp x (instObj aLEX dx) aLEX (some od) := ⟨hx, rfl, rfl, hd⟩
theorem rSAS {Q : Unit → Shared → Prop} {x dx : Addr} {od od' : Obj} {name : Str} {v : Value} {es : List DictEntry} {n : Nat} (G : Gd w mg mb g0) (F : FS g0 g T L hp m nw) (i : Nat) (hi : nw[i]? = some (dx, od)) (hx : hp.get? x = some (instObj aLEX dx))
    (ht : takerIn (KQ w) aLEX name = some none) (hl : (lookIn name od).isSome = true) (hn : NC od)
    (e : Obj.putName name (PyData.keyHash w.params name) (.str name (tk + 1)) v od = od') (e' : od'.data = .dict es.toArray n) (hz : es.length ≤ 1000)
    (h : ∀ h', Heap.SameBut dx hp h' → FS g0 g T L h' m (nw.set i (dx, od')) → Q () ⟨h', gn, dr, tk + 1 + 1, os⟩) : wpAny (model PP w) A (setAttr (.ref x) name v) Q E ⟨hp, gn, dr, tk, os⟩ := by
  have X := F.ok.Q G
  have I := inst hx (F.at i hi)
  refine set_plain X I (q_sa w) ?_
  refine osa_open (s := ⟨hp, gn, dr, tk + 1, os⟩) X I (q_po w) ht fun b => ?_
  have D := F.at i hi
  have fr : od'.isFreed = false := by obtain ⟨_, _, dd, _⟩ := od'; cases e'; rfl
  have F' := F.set' i hi hn e fr
  have D' := F'.at i (by rw [List.getElem?_set_self (by have := List.getElem?_eq_some_iff.mp hi; exact this.1)])
  obtain ⟨cd, hc, hd'⟩ := any_some (q_hd w)
  refine wpAny_bind (wpAny_pure (wpAny_bind (wpAny_bind (wpAny_loadPart hx (wpAny_bind ((looks_clsIn X hc).here ?_))))))
  rw [hd']
  refine wpAny_pure (a := some dx) (wpAny_bind (wpAny_pure (wpAny_bind ?_)))
  unfold nsSet
  refine wpAny_bind (wpAny_bind (wpAny_askSetting (wpAny_pure (wpAny_bind (wpAny_mkText (wpAny_bind (wpAny_loadPart D ?_)))))))
  unfold lookIn at hl
  split at hl
  · rename_i es₀ n₀ q
    rw [q]
    dsimp only
    have c : (!es₀.any (·.key.isStr name) && es₀.any (·.refKey)) = false := by
      rw [← Array.any_toList, ← Array.any_toList]
      split at hl
      · rename_i en he
        rw [List.any_eq_true.mpr ⟨en, List.mem_of_find?_eq_some he, List.find?_some he⟩]; rfl
      · split at hl
        · cases hl
        · rename_i z; rw [Bool.not_eq_true] at z; rw [z, Bool.and_false]
    rw [aRefKeyMayBeTheName_at, c]
    refine wpAny_updatePart D ?_
    refine wpAny_bind (wpAny_lookBehind D' (by rw [e']; exact pastItsLine_dict (by rw [List.size_toArray, sizeLine_eq]; omega)) ?_)
    exact wpAny_pure (h _ (Heap.SameBut.update ..) F')
  · cases hl
theorem rSA {Q : Unit → Shared → Prop} {x dx : Addr} {od od' : Obj} {name : Str} {v : Value} {es : List DictEntry} {n : Nat} (G : Gd w mg mb g0) (F : FS g0 g T L hp m nw) (i : Nat) (hi : nw[i]? = some (dx, od)) (hx : hp.get? x = some (instObj aLEX dx))
    (ht : takerIn (KQ w) aLEX name = some none) (hl : (lookIn name od).isSome = true) (hn : NC od)
    (e : Obj.putName name (PyData.keyHash w.params name) (.str name (tk + 1)) v od = od') (e' : od'.data = .dict es.toArray n) (hz : es.length ≤ 1000)
    (h : ∀ h', FS g0 g T L h' m (nw.set i (dx, od')) → Q () ⟨h', gn, dr, tk + 1 + 1, os⟩) : wpAny (model PP w) A (setAttr (.ref x) name v) Q E ⟨hp, gn, dr, tk, os⟩ :=
  rSAS G F i hi hx ht hl hn e e' hz fun h' _ F' => h h' F'
theorem rGA {x dx : Addr} {od : Obj} {name : Str} {v : Value} {ex : Bool} (G : Gd w mg mb g0) (k : OK g0 hp) (hx : hp.get? x = some (instObj aLEX dx)) (hd : hp.get? dx = some od)
    (hf : findObj (KQ w) aLEX (some od) name = some (.value v)) (hh : handedIn v = true) (h : Q v ⟨hp, gn, dr, tk + 1, os⟩) : wpAny (model PP w) A (getAttr (.ref x) name ex) Q E ⟨hp, gn, dr, tk, os⟩ :=
  get_value (k.Q G) (inst hx hd) (q_ga w) hf hh h
theorem rGB {x dx f : Addr} {od : Obj} {name : Str} {ex : Bool} (G : Gd w mg mb g0) (k : OK g0 hp) (hx : hp.get? x = some (instObj aLEX dx)) (hd : hp.get? dx = some od)
    (hf : findObj (KQ w) aLEX (some od) name = some (.bind (.builtin "function.__get__") (.ref f))) (ht : typeIn (KQ w) (.ref f) = some (.type "function"))
    (h : ∀ tk', Q (.ref hp.objs.size) ⟨hp.push (methodObj (.ref f) (.ref x)), gn, dr, tk', os⟩) : wpAny (model PP w) A (getAttr (.ref x) name ex) Q E ⟨hp, gn, dr, tk, os⟩ := by
  refine get_bind (k.Q G) (inst hx hd) (q_ga w) hf (q_gk w) ?_
  refine wpAny_call ?_
  refine fn_get (k.Q G) ht ?_
  exact handed_on rfl (h _)
theorem rGMf {x dx f : Addr} {od : Obj} {name : Str} {pl : Sem Bool} {QM : Value × List Value → Shared → Prop} (G : Gd w mg mb g0) (k : OK g0 hp) (hx : hp.get? x = some (instObj aLEX dx)) (hd : hp.get? dx = some od)
    (hf : findIn (KQ w) (.ref aLEX) name = some (some (.ref f))) (ht : typeIn (KQ w) (.ref f) = some (.type "function")) (hs : shadowIn (some od) name = some false)
    (h : QM (.ref f, [.ref x]) ⟨hp, gn, dr, tk, os⟩) : wpAny (model PP w) A (getMethod (.ref x) name pl) QM E ⟨hp, gn, dr, tk, os⟩ := method_fn (k.Q G) (inst hx hd) (q_ga w) (q_gk w) hf ht hs h
theorem rGMd {x dx : Addr} {od : Obj} {name : Str} {v : Value} {pl : Sem Bool} {QM : Value × List Value → Shared → Prop} (G : Gd w mg mb g0) (k : OK g0 hp) (hx : hp.get? x = some (instObj aLEX dx)) (hd : hp.get? dx = some od)
    (hf : findIn (KQ w) (.ref aLEX) name = some none) (hv : findObj (KQ w) aLEX (some od) name = some (.value v)) (hh : handedIn v = true)
    (h : QM (v, []) ⟨hp, gn, dr, tk + 1, os⟩) : wpAny (model PP w) A (getMethod (.ref x) name pl) QM E ⟨hp, gn, dr, tk, os⟩ := method_usual (k.Q G) (inst hx hd) (q_ga w) (q_gk w) hf rfl (rGA G k hx hd hv hh h)
theorem rNewI {rest : List Value} {R : Result → Shared → Prop} (G : Gd w mg mb g0) (k : OK g0 hp)
    (h : codeAny (model PP w) (A.under (.builtin "type.__call__" ⟨.ref aLEX :: rest, []⟩)) (.call (.ref aINIT) ⟨.ref (hp.objs.size + 1) :: rest, []⟩) (InitBack (hp.objs.size + 1) R) ⟨(hp.push emptyDict).push (instObj aLEX hp.objs.size), gn, dr, tk, os⟩) :
    codeAny (model PP w) A (.call (.ref aLEX) ⟨rest, []⟩) R ⟨hp, gn, dr, tk, os⟩ :=
  make_core (makes_of (k.Q G) (q_mk w)) (looks_findIn (k.Q G) (q_init w)) (fun self => bind_fn (k.Q G) self (q_initf w)) (.inl rfl) h
end
end Mine

namespace Mine
theorem Rm.under {A : Around} {n : Nat} {c : Addr} {rest : List Value} (r : Rm A (n + 1)) : Rm (A.under (.builtin "type.__call__" ⟨.ref c :: rest, []⟩)) n := by
  have e1 : Code.weight (.builtin "type.__call__" ⟨.ref c :: rest, []⟩) = 1 := by rfl
  have e2 : Code.cUnits (.builtin "type.__call__" ⟨.ref c :: rest, []⟩) ≤ 20 := by
    show _ ≤ _
    first | exact Nat.le_of_ble_eq_true (by rfl) | decide
  refine ⟨r.hd, ?_, ?_⟩
  · have := r.dp
    show A.depth + Code.weight (.builtin "type.__call__" ⟨.ref c :: rest, []⟩) + n < _
    (clear e2; omega)
  · have := r.un
    show A.units + Code.cUnits (.builtin "type.__call__" ⟨.ref c :: rest, []⟩) + 20 * n < _
    (clear e1; omega)
abbrev lexD (w : World) (t1 t2 t3 t4 : Tok) (ln fp ws : Value) (pb : Addr) : Obj := aD [aE w "lineno" t1 ln, aE w "instream" t2 fp, aE w "whitespace" t3 ws, aE w "pushback" t4 (.ref pb)] 4
theorem dict_nc {es : Array DictEntry} {n : Nat} {o : Obj} (hd : o.data = .dict es n) : NC o := fun vs q t z => by rw [hd] at z; cases z
section
variable {w : World} {A : Around} {E : Value → Shared → Prop} {t u : Tok} {hp : Heap} {gn : Array GenState} {dr : Drawn} {tk : Nat} {os : OsState} {pos : Pos} {k : Nat} {env : Env}
  {g0 g : Heap} {T : List Addr} {L : Addr} {m : Str → Option Value} {nw : List (Addr × Obj)} {mg mb : Str → Option Value}
theorem rAsA {o : Expr} {attr : Str} {pos' : Pos} {value : Expr} {rest : List Stmt} {Q : Flow → Shared → Prop}
    (h : wpAny (model PP w) A (eval value env) (fun v s₁ => wpAny (model PP w) A (eval o env) (fun ov s₂ => wpAny (model PP w) A (setAttr ov attr v) (fun _ s₃ => wpAny (model PP w) A (execs rest env) Q E s₃) E s₂) E s₁) E ⟨hp, gn, dr, tk, os⟩)
    (hs : swapsWith value (some (.Attribute o attr pos')) pos.line env = pure false := by rfl) : wpAny (model PP w) A (execs (.Assign [.Attribute o attr pos'] value pos :: rest) env) Q E ⟨hp, gn, dr, tk, os⟩ :=
  wpAny_execs_cons (plainObj_wpAny_Assign_Attribute h hs)
end
theorem c_init {w : World} {mg mb : Str → Option Value} {g0 : Heap} (G : Gd w mg mb g0) {A : Around} {R : Result → Shared → Prop} {hp : Heap} {gn : Array GenState} {dr : Drawn} {tk0 : Nat} {os : OsState} (k : OK g0 hp) {x dx : Addr} {fp : Value}
  (rm : Rm A 3) (hx : hp.get? x = some (instObj aLEX dx)) (hd : hp.get? dx = some emptyDict) (hx0 : g0.objs.size ≤ x) (hd0 : g0.objs.size ≤ dx) (hne : @Ne Nat x dx)
 (h : ∀ t1 t2 t3 t4 u1 u3 pb h' tks, OK g0 h' → Kp [dx] hp h' → h'.get? dx = some (lexD w t1 t2 t3 t4 (.int 1 u1) fp (.str "\n\t\r " u3) pb) → hp.objs.size ≤ pb → h'.get? pb = some (LO [] 0) → R (.ok (.ret .none)) ⟨h', gn, dr, tks, os⟩) :
  codeAny (model PP w) A (.call (.ref aINIT) ⟨[.ref x, fp], []⟩) R ⟨hp, gn, dr, tk0, os⟩ := by
  refine ent (T := [dx]) (n := 2) (binds := [("self", .ref x), ("fp", fp)]) G k rm (k.at0 G rfl) rfl (k.code G rfl) rfl rfl rfl rfl rfl rfl rfl ?_
  intro h1 tk1 F rm1 kk
  have F1 := F.addT (kk _ _ hd) (List.mem_singleton.mpr rfl) hd0 (fun _ q => (nomatch q)) (Nat.ne_of_lt (Heap.lt_size hd))
  have hx1 := kk _ _ hx
  refine rAsA ?_
  repeat (first | (first | ((with_reducible show wpAny _ _ (execs (Stmt.Assign [Expr.Name _ _] _ _ :: _) _) _ _ _); refine rAs ?_) | with_reducible refine rRet ?_ | with_reducible refine rIf ?_ | with_reducible refine wpAny_BinOp ?_ | with_reducible refine rI ?_ | with_reducible refine rS ?_ | ((with_reducible show wpAny _ _ (eval (Expr.Name _ _) _) _ _ _); refine nL (by assumption) rfl ?_) | ((with_reducible show wpAny _ _ (storeName _ _ _) _ _ _); refine rSt (by assumption) ?_; intro _ _) | ((with_reducible show wpAny _ _ (isTrue (Expr.Compare _ [_] [_] _) _ _) _ _ _); refine wpAny_isTrue_Compare1 ?_) | with_reducible refine wpAny_truthy_bool ?_ | with_reducible refine rEq ?_ | ((with_reducible show wpAny _ _ (eval (Expr.Call _ _ [] _) _) _ _ _); refine Call_ ?_) | ((with_reducible show wpAny _ _ (spliced (backTo _ (starEach (_ :: _) _))) _ _ _); refine spliced_more ?_) | ((with_reducible show wpAny _ _ (spliced (backTo _ (starEach [] _))) _ _ _); refine spliced_none ?_) | with_reducible refine wpAny_IfExp ?_) | (dsimp only; first | ((with_reducible show wpAny _ _ (execs (Stmt.Assign [Expr.Name _ _] _ _ :: _) _) _ _ _); refine rAs ?_) | with_reducible refine rRet ?_ | with_reducible refine rIf ?_ | with_reducible refine wpAny_BinOp ?_ | with_reducible refine rI ?_ | with_reducible refine rS ?_ | ((with_reducible show wpAny _ _ (eval (Expr.Name _ _) _) _ _ _); refine nL (by assumption) rfl ?_) | ((with_reducible show wpAny _ _ (storeName _ _ _) _ _ _); refine rSt (by assumption) ?_; intro _ _) | ((with_reducible show wpAny _ _ (isTrue (Expr.Compare _ [_] [_] _) _ _) _ _ _); refine wpAny_isTrue_Compare1 ?_) | with_reducible refine wpAny_truthy_bool ?_ | with_reducible refine rEq ?_ | ((with_reducible show wpAny _ _ (eval (Expr.Call _ _ [] _) _) _ _ _); refine Call_ ?_) | ((with_reducible show wpAny _ _ (spliced (backTo _ (starEach (_ :: _) _))) _ _ _); refine spliced_more ?_) | ((with_reducible show wpAny _ _ (spliced (backTo _ (starEach [] _))) _ _ _); refine spliced_none ?_) | with_reducible refine wpAny_IfExp ?_))
  refine rSA (es := [aE w "lineno" _ (.int 1 tk1)]) G F1 0 rfl hx1 (q_t1 w) (by rfl) (dict_nc rfl) rfl rfl (by simp) ?_
  intro h2 F2
  have nx : x ∉ [dx] := fun q => hne (List.mem_singleton.mp q)
  refine rAsA ?_
  repeat (first | (first | ((with_reducible show wpAny _ _ (execs (Stmt.Assign [Expr.Name _ _] _ _ :: _) _) _ _ _); refine rAs ?_) | with_reducible refine rRet ?_ | with_reducible refine rIf ?_ | with_reducible refine wpAny_BinOp ?_ | with_reducible refine rI ?_ | with_reducible refine rS ?_ | ((with_reducible show wpAny _ _ (eval (Expr.Name _ _) _) _ _ _); refine nL (by assumption) rfl ?_) | ((with_reducible show wpAny _ _ (storeName _ _ _) _ _ _); refine rSt (by assumption) ?_; intro _ _) | ((with_reducible show wpAny _ _ (isTrue (Expr.Compare _ [_] [_] _) _ _) _ _ _); refine wpAny_isTrue_Compare1 ?_) | with_reducible refine wpAny_truthy_bool ?_ | with_reducible refine rEq ?_ | ((with_reducible show wpAny _ _ (eval (Expr.Call _ _ [] _) _) _ _ _); refine Call_ ?_) | ((with_reducible show wpAny _ _ (spliced (backTo _ (starEach (_ :: _) _))) _ _ _); refine spliced_more ?_) | ((with_reducible show wpAny _ _ (spliced (backTo _ (starEach [] _))) _ _ _); refine spliced_none ?_) | with_reducible refine wpAny_IfExp ?_) | (dsimp only; first | ((with_reducible show wpAny _ _ (execs (Stmt.Assign [Expr.Name _ _] _ _ :: _) _) _ _ _); refine rAs ?_) | with_reducible refine rRet ?_ | with_reducible refine rIf ?_ | with_reducible refine wpAny_BinOp ?_ | with_reducible refine rI ?_ | with_reducible refine rS ?_ | ((with_reducible show wpAny _ _ (eval (Expr.Name _ _) _) _ _ _); refine nL (by assumption) rfl ?_) | ((with_reducible show wpAny _ _ (storeName _ _ _) _ _ _); refine rSt (by assumption) ?_; intro _ _) | ((with_reducible show wpAny _ _ (isTrue (Expr.Compare _ [_] [_] _) _ _) _ _ _); refine wpAny_isTrue_Compare1 ?_) | with_reducible refine wpAny_truthy_bool ?_ | with_reducible refine rEq ?_ | ((with_reducible show wpAny _ _ (eval (Expr.Call _ _ [] _) _) _ _ _); refine Call_ ?_) | ((with_reducible show wpAny _ _ (spliced (backTo _ (starEach (_ :: _) _))) _ _ _); refine spliced_more ?_) | ((with_reducible show wpAny _ _ (spliced (backTo _ (starEach [] _))) _ _ _); refine spliced_none ?_) | with_reducible refine wpAny_IfExp ?_))
  refine rSA (es := [aE w "lineno" _ (.int 1 tk1), aE w "instream" _ fp]) G F2 0 rfl (F2.kp.kp x _ hx (k.nt hx0) nx) (q_t2 w) (by rfl) (dict_nc rfl) rfl rfl (by simp) ?_
  intro h3 F3
  refine rAsA ?_
  repeat (first | (first | ((with_reducible show wpAny _ _ (execs (Stmt.Assign [Expr.Name _ _] _ _ :: _) _) _ _ _); refine rAs ?_) | with_reducible refine rRet ?_ | with_reducible refine rIf ?_ | with_reducible refine wpAny_BinOp ?_ | with_reducible refine rI ?_ | with_reducible refine rS ?_ | ((with_reducible show wpAny _ _ (eval (Expr.Name _ _) _) _ _ _); refine nL (by assumption) rfl ?_) | ((with_reducible show wpAny _ _ (storeName _ _ _) _ _ _); refine rSt (by assumption) ?_; intro _ _) | ((with_reducible show wpAny _ _ (isTrue (Expr.Compare _ [_] [_] _) _ _) _ _ _); refine wpAny_isTrue_Compare1 ?_) | with_reducible refine wpAny_truthy_bool ?_ | with_reducible refine rEq ?_ | ((with_reducible show wpAny _ _ (eval (Expr.Call _ _ [] _) _) _ _ _); refine Call_ ?_) | ((with_reducible show wpAny _ _ (spliced (backTo _ (starEach (_ :: _) _))) _ _ _); refine spliced_more ?_) | ((with_reducible show wpAny _ _ (spliced (backTo _ (starEach [] _))) _ _ _); refine spliced_none ?_) | with_reducible refine wpAny_IfExp ?_) | (dsimp only; first | ((with_reducible show wpAny _ _ (execs (Stmt.Assign [Expr.Name _ _] _ _ :: _) _) _ _ _); refine rAs ?_) | with_reducible refine rRet ?_ | with_reducible refine rIf ?_ | with_reducible refine wpAny_BinOp ?_ | with_reducible refine rI ?_ | with_reducible refine rS ?_ | ((with_reducible show wpAny _ _ (eval (Expr.Name _ _) _) _ _ _); refine nL (by assumption) rfl ?_) | ((with_reducible show wpAny _ _ (storeName _ _ _) _ _ _); refine rSt (by assumption) ?_; intro _ _) | ((with_reducible show wpAny _ _ (isTrue (Expr.Compare _ [_] [_] _) _ _) _ _ _); refine wpAny_isTrue_Compare1 ?_) | with_reducible refine wpAny_truthy_bool ?_ | with_reducible refine rEq ?_ | ((with_reducible show wpAny _ _ (eval (Expr.Call _ _ [] _) _) _ _ _); refine Call_ ?_) | ((with_reducible show wpAny _ _ (spliced (backTo _ (starEach (_ :: _) _))) _ _ _); refine spliced_more ?_) | ((with_reducible show wpAny _ _ (spliced (backTo _ (starEach [] _))) _ _ _); refine spliced_none ?_) | with_reducible refine wpAny_IfExp ?_))
  refine rSA (es := [aE w "lineno" _ (.int 1 tk1), aE w "instream" _ fp, aE w "whitespace" _ (.str "\n\t\r " _)]) G F3 0 rfl (F3.kp.kp x _ hx (k.nt hx0) nx) (q_t3 w) (by rfl) (dict_nc rfl) rfl rfl (by simp) ?_
  intro h4 F4
  refine rAsA ?_
  refine rList ?_
  repeat (first | (first | ((with_reducible show wpAny _ _ (execs (Stmt.Assign [Expr.Name _ _] _ _ :: _) _) _ _ _); refine rAs ?_) | with_reducible refine rRet ?_ | with_reducible refine rIf ?_ | with_reducible refine wpAny_BinOp ?_ | with_reducible refine rI ?_ | with_reducible refine rS ?_ | ((with_reducible show wpAny _ _ (eval (Expr.Name _ _) _) _ _ _); refine nL (by assumption) rfl ?_) | ((with_reducible show wpAny _ _ (storeName _ _ _) _ _ _); refine rSt (by assumption) ?_; intro _ _) | ((with_reducible show wpAny _ _ (isTrue (Expr.Compare _ [_] [_] _) _ _) _ _ _); refine wpAny_isTrue_Compare1 ?_) | with_reducible refine wpAny_truthy_bool ?_ | with_reducible refine rEq ?_ | ((with_reducible show wpAny _ _ (eval (Expr.Call _ _ [] _) _) _ _ _); refine Call_ ?_) | ((with_reducible show wpAny _ _ (spliced (backTo _ (starEach (_ :: _) _))) _ _ _); refine spliced_more ?_) | ((with_reducible show wpAny _ _ (spliced (backTo _ (starEach [] _))) _ _ _); refine spliced_none ?_) | with_reducible refine wpAny_IfExp ?_) | (dsimp only; first | ((with_reducible show wpAny _ _ (execs (Stmt.Assign [Expr.Name _ _] _ _ :: _) _) _ _ _); refine rAs ?_) | with_reducible refine rRet ?_ | with_reducible refine rIf ?_ | with_reducible refine wpAny_BinOp ?_ | with_reducible refine rI ?_ | with_reducible refine rS ?_ | ((with_reducible show wpAny _ _ (eval (Expr.Name _ _) _) _ _ _); refine nL (by assumption) rfl ?_) | ((with_reducible show wpAny _ _ (storeName _ _ _) _ _ _); refine rSt (by assumption) ?_; intro _ _) | ((with_reducible show wpAny _ _ (isTrue (Expr.Compare _ [_] [_] _) _ _) _ _ _); refine wpAny_isTrue_Compare1 ?_) | with_reducible refine wpAny_truthy_bool ?_ | with_reducible refine rEq ?_ | ((with_reducible show wpAny _ _ (eval (Expr.Call _ _ [] _) _) _ _ _); refine Call_ ?_) | ((with_reducible show wpAny _ _ (spliced (backTo _ (starEach (_ :: _) _))) _ _ _); refine spliced_more ?_) | ((with_reducible show wpAny _ _ (spliced (backTo _ (starEach [] _))) _ _ _); refine spliced_none ?_) | with_reducible refine wpAny_IfExp ?_))
  refine rNewL ?_ (by simp [sizeLine])
  have F5 := F4.psh (LO [] 0)
  repeat (first | (first | ((with_reducible show wpAny _ _ (execs (Stmt.Assign [Expr.Name _ _] _ _ :: _) _) _ _ _); refine rAs ?_) | with_reducible refine rRet ?_ | with_reducible refine rIf ?_ | with_reducible refine wpAny_BinOp ?_ | with_reducible refine rI ?_ | with_reducible refine rS ?_ | ((with_reducible show wpAny _ _ (eval (Expr.Name _ _) _) _ _ _); refine nL (by assumption) rfl ?_) | ((with_reducible show wpAny _ _ (storeName _ _ _) _ _ _); refine rSt (by assumption) ?_; intro _ _) | ((with_reducible show wpAny _ _ (isTrue (Expr.Compare _ [_] [_] _) _ _) _ _ _); refine wpAny_isTrue_Compare1 ?_) | with_reducible refine wpAny_truthy_bool ?_ | with_reducible refine rEq ?_ | ((with_reducible show wpAny _ _ (eval (Expr.Call _ _ [] _) _) _ _ _); refine Call_ ?_) | ((with_reducible show wpAny _ _ (spliced (backTo _ (starEach (_ :: _) _))) _ _ _); refine spliced_more ?_) | ((with_reducible show wpAny _ _ (spliced (backTo _ (starEach [] _))) _ _ _); refine spliced_none ?_) | with_reducible refine wpAny_IfExp ?_) | (dsimp only; first | ((with_reducible show wpAny _ _ (execs (Stmt.Assign [Expr.Name _ _] _ _ :: _) _) _ _ _); refine rAs ?_) | with_reducible refine rRet ?_ | with_reducible refine rIf ?_ | with_reducible refine wpAny_BinOp ?_ | with_reducible refine rI ?_ | with_reducible refine rS ?_ | ((with_reducible show wpAny _ _ (eval (Expr.Name _ _) _) _ _ _); refine nL (by assumption) rfl ?_) | ((with_reducible show wpAny _ _ (storeName _ _ _) _ _ _); refine rSt (by assumption) ?_; intro _ _) | ((with_reducible show wpAny _ _ (isTrue (Expr.Compare _ [_] [_] _) _ _) _ _ _); refine wpAny_isTrue_Compare1 ?_) | with_reducible refine wpAny_truthy_bool ?_ | with_reducible refine rEq ?_ | ((with_reducible show wpAny _ _ (eval (Expr.Call _ _ [] _) _) _ _ _); refine Call_ ?_) | ((with_reducible show wpAny _ _ (spliced (backTo _ (starEach (_ :: _) _))) _ _ _); refine spliced_more ?_) | ((with_reducible show wpAny _ _ (spliced (backTo _ (starEach [] _))) _ _ _); refine spliced_none ?_) | with_reducible refine wpAny_IfExp ?_))
  refine rSA (es := [aE w "lineno" _ (.int 1 tk1), aE w "instream" _ fp, aE w "whitespace" _ (.str "\n\t\r " _), aE w "pushback" _ (.ref h4.objs.size)]) G F5 1 rfl (F5.kp.kp x _ hx (k.nt hx0) nx) (q_t4 w) (by rfl) (dict_nc rfl) rfl rfl (by simp) ?_
  intro h6 F6
  refine rNil ?_
  have q := fun tks => h _ _ _ _ _ _ _ h6 tks F6.ok F6.kp (F6.at 1 rfl) F4.gsz (F6.at 0 rfl)
  exact q _
end Mine

namespace Mine
abbrev chr (c : Nat) : Str := ⟨#[c]⟩
def CA (vs : List Value) (cs : List Nat) : Prop := vs.length = cs.length ∧ ∀ (i c : Nat), cs[i]? = some c → ∃ t, vs[i]? = some (Value.str (chr c) t)
theorem CA.cons {vs : List Value} {c : Nat} {cs : List Nat} (h : CA vs (c :: cs)) : ∃ t r, vs = Value.str (chr c) t :: r ∧ CA r cs := by
  obtain ⟨t, e⟩ := h.2 0 c rfl
  cases vs with
  | nil => cases e
  | cons v r =>
    cases e
    refine ⟨t, r, rfl, by simpa using h.1, fun i c e => ?_⟩
    have := h.2 (i + 1) c (by simpa using e)
    simpa using this
abbrev strD (w : World) (t1 t2 t3 t4 t5 : Tok) (ln fp ws : Value) (pb : Addr) (rd : Value) : Obj := aD [aE w "lineno" t1 ln, aE w "instream" t2 fp, aE w "whitespace" t3 ws, aE w "pushback" t4 (.ref pb), aE w "read" t5 rd] 5
structure LA where
  (lx ldx pb sx sdx f l c cc : Addr)
  of : Obj
structure NX (w : World) (g0 : Heap) (a : LA) : Prop where
  fn : ∃ fd, a.of.data = .func fd
  call : ∀ {A : Around} {R : Result → Shared → Prop} {hp : Heap} {gn : Array GenState} {dr : Drawn} {tk : Nat} {os : OsState} {vs : List Value} {n : Nat} {sz : Int} {t : Tok}, OK g0 hp → Rm A 2 → hp.get? a.f = some a.of → hp.IsCell a.c (some (.ref a.l)) →
    hp.CodeRec (.ref a.cc) qLL → hp.get? a.l = some (LO vs n) → vs.length ≤ 2 ^ 20 →
    (∀ h' tks v r n', (vs = [] ∧ r = [] ∧ (∃ t, v = .str "" t)) ∨ vs = v :: r → OK g0 h' → Kp [a.l] hp h' → h'.get? a.l = some (LO r n') → R (.ok (.ret v)) ⟨h', gn, dr, tks, os⟩) →
    codeAny (model PP w) A (.call (.ref a.f) ⟨[.int sz t], []⟩) R ⟨hp, gn, dr, tk, os⟩
structure LX (w : World) (g0 h : Heap) (a : LA) (cs : List Nat) : Prop where
  lx : h.get? a.lx = some (instObj aLEX a.ldx)
  ldx : ∃ t1 t2 t3 t4 ln u1 u3, h.get? a.ldx = some (lexD w t1 t2 t3 t4 (.int ln u1) (.ref a.sx) (.str "\n\t\r " u3) a.pb)
  pb : h.get? a.pb = some (LO [] 0)
  sx : h.get? a.sx = some (instObj aLEX a.sdx)
  sdx : ∃ t1 t2 t3 t4 t5 ln fp ws p, h.get? a.sdx = some (strD w t1 t2 t3 t4 t5 ln fp ws p (.ref a.f))
  f : h.get? a.f = some a.of
  nx : NX w g0 a
  c : h.IsCell a.c (some (.ref a.l))
  cc : h.CodeRec (.ref a.cc) qLL
  cct : a.cc ∉ tabs
  l : ∃ vs n, h.get? a.l = some (LO vs n) ∧ CA vs cs
  lpb : @Ne Nat a.l a.pb
  lo : ∀ x ∈ [a.lx, a.ldx, a.pb, a.sx, a.sdx, a.f, a.l, a.c], g0.objs.size ≤ x
section
variable {w : World} {A : Around} {E : Value → Shared → Prop} {Q : Value → Shared → Prop} {t u : Tok} {hp : Heap} {gn : Array GenState} {dr : Drawn} {tk : Nat} {os : OsState} {pos : Pos} {k : Nat} {env : Env}
  {g0 g : Heap} {T : List Addr} {L : Addr} {m : Str → Option Value} {nw : List (Addr × Obj)} {mg mb : Str → Option Value}
theorem rPopM {l : Addr} {vs : List Value} {n : Nat} {pl : Sem Bool} {QM : Value × List Value → Shared → Prop} (e : hp.get? l = some (LO vs n)) (h : QM (.builtin "list.pop", [.ref l]) ⟨hp, gn, dr, tk, os⟩) : wpAny (model PP w) A (getMethod (.ref l) "pop" pl) QM E ⟨hp, gn, dr, tk, os⟩ :=
  getMethod_builtin (T := "list") ⟨_, e, rfl⟩ PySem.F.plainAttrs_list PySem.F.slot_list_pop PySem.F.type_list_pop (fun a e' => by cases e'; exact ⟨_, e, rfl⟩) h
theorem rPop0 (F : FS g0 g T L hp m nw) (i : Nat) {l : Addr} {v : Value} {vs : List Value} {n : Nat} (hi : nw[i]? = some (l, LO (v :: vs) n)) (hs : vs.length ≤ 2 ^ 20)
    (h : ∀ h' n', FS g0 g T L h' m (nw.set i (l, LO vs n')) → Q v ⟨h', gn, dr, tk, os⟩) : wpAny (model PP w) A (call (.builtin "list.pop") [.ref l, .int 0 t]) Q E ⟨hp, gn, dr, tk, os⟩ := by
  refine call_meets PySem.F.slot_list_pop ⟨_, F.at i hi, rfl⟩ PySem.F.entry_list_pop (PySem.F.args_list_pop_2 _ _) (PySem.MeetsSeq.list_pop_at l (v :: vs).toArray n 0 t 0 v (by decide) (by simp [seqIndex?]) (by simp) (by simp [sizeLine]; omega)) ⟨F.at i hi, h _ (n + 1) (F.set' i hi (list_nc rfl) ?_ rfl)⟩
  simp [Obj.mapSeq]
end
end Mine

namespace Mine
section
variable {w : World} {A : Around} {E : Value → Shared → Prop} {Q : Value → Shared → Prop} {t u : Tok} {hp : Heap} {gn : Array GenState} {dr : Drawn} {tk : Nat} {os : OsState} {pos : Pos} {k : Nat} {env : Env}
  {g0 g : Heap} {T : List Addr} {L : Addr} {m : Str → Option Value} {nw : List (Addr × Obj)} {mg mb : Str → Option Value}
theorem rStS {x : Str} {v : Value} {Q : Unit → Shared → Prop} (F : FS g0 g T L hp m nw)
    (h : ∀ h', Heap.SameBut L hp h' → FS g0 g T L h' (fun y => if y = x then some v else m y) nw → Q () ⟨h', gn, dr, tk + 1, os⟩)
    (hL : env.locals = L := by rfl) (hk : env.scope.kind = .function := by rfl) (hx : env.kindOf x = some .local := by rfl) : wpAny (model PP w) A (storeName env x v) Q E ⟨hp, gn, dr, tk, os⟩ := by
  subst hL
  exact wpAny_storeName_local hx F.ns (fun h' n s' => h h' s' (F.sto n s')) (by rw [hk]; rfl)
theorem FS.lo' {h : Heap} (F : FS g0 g [] L h m nw) {p : Addr × Obj} (hp : p ∈ nw) : g.objs.size ≤ p.1 := (F.lo p hp).resolve_right (fun q => nomatch q.1)
theorem q_keep (w : World) : keepIn (KQ w) (.ref aLEX) = true := by kernel_rfl
theorem rCC {e : Expr} {rest : List Expr} (G : Gd w mg mb g0) (k : OK g0 hp) (h : wpAny (model PP w) A (spliced (backTo pos (starEach (e :: rest) env))) (fun vs s₁ => OK g0 s₁.heap ∧ codeAny (model PP w) A (.call (.ref aLEX) ⟨vs, []⟩) (fun r s' => match r with | .ok (.ret v) => Q v s' | .ok _ => False | .error e => E e s') s₁) E ⟨hp, gn, dr, tk, os⟩)
    (he : starEach (e :: rest) env = (false, eval e env) :: starEach rest env := by rfl) (hplain : (backTo pos (starEach rest env)).any (·.1) = false := by rfl) :
    wpAny (model PP w) A (callWith pos (.ref aLEX) [] (backTo pos (starEach (e :: rest) env)) []) Q E ⟨hp, gn, dr, tk, os⟩ :=
  callWith_K (k.Q G) (q_keep w) (wpAny_mono h (fun _ _ z => ⟨z.1.Q G, wpAny_call z.2⟩) fun _ _ z => z) he hplain
theorem FS.call1N {h h' : Heap} (F : FS g0 g T L h m nw) (i : Nat) {a : Addr} {o o' : Obj} (hi : nw[i]? = some (a, o)) (k : OK g0 h') (K : Kp [a] h h') (e : h'.get? a = some o') {b : Addr} {ob : Obj} (eb : h'.get? b = some ob) (hb : h.objs.size ≤ b) :
    FS g0 g T L h' m ((b, ob) :: nw.set i (a, o')) := by
  refine (F.call1 i hi k K e).add eb (Nat.le_trans F.gsz hb) (fun p hp => ?_) (F.fresh hb).2
  have : p.1 ∈ (nw.set i (a, o')).map (·.1) := List.mem_map.mpr ⟨p, hp, rfl⟩
  rw [set_keys hi] at this
  obtain ⟨q, hq, e⟩ := List.mem_map.mp this
  rw [← e]
  exact (F.fresh hb).1 q hq
theorem rListS {x : Str} (hA : A.handled = none) (hsz : x.cps.size ≤ 2 ^ 20) (h : ∀ h' tk vs n, (∀ b o, hp.get? b = some o → h'.get? b = some o) → h'.get? hp.objs.size = some (LO vs n) → CA vs x.cps.toList → Q (.ref hp.objs.size) ⟨h', gn, dr, tk, os⟩) :
    wpAny (model PP w) A (call (.type "list") [.str x t]) Q E ⟨hp, gn, dr, tk, os⟩ := by
  refine call_list_str hA x t (hn := by simp [sizeLine]; omega) fun h' tk acc' c' hk hS' hacc => h h' tk acc'.toList c' hk (by simpa using hS') ⟨by simpa using hacc.1, fun i c e => ?_⟩
  have hi : i < acc'.size := by
    rw [hacc.1]
    have := List.getElem?_eq_some_iff.mp e
    simpa using this.1
  obtain ⟨c2, u, hc, hv⟩ := hacc.2 i acc'[i] (by simp [hi])
  refine ⟨u, ?_⟩
  have : c2 = c := by
    have e2 : x.cps[i]? = some c := by simpa using e
    rw [e2] at hc
    exact (Option.some.inj hc).symm
  subst this
  simp [hi, hv]
theorem rNone (h : Q .none ⟨hp, gn, dr, tk, os⟩) : wpAny (model PP w) A (eval (.Constant .none k pos) env) Q E ⟨hp, gn, dr, tk, os⟩ := fun _ _ _ => h
end
theorem c_lx {w : World} {mg mb : Str → Option Value} {g0 : Heap} (G : Gd w mg mb g0) {A : Around} {R : Result → Shared → Prop} {hp : Heap} {gn : Array GenState} {dr : Drawn} {tk0 : Nat} {os : OsState} (k : OK g0 hp) {x : Str} {t0 : Tok}
  (rm : Rm A 10) (hsz : x.cps.size ≤ 2 ^ 20)
 (h : ∀ a h' tks, OK g0 h' → Kp [] hp h' → LX w g0 h' a x.cps.toList → (∀ b ∈ [a.lx, a.ldx, a.pb, a.sx, a.sdx, a.f, a.l, a.c], hp.objs.size ≤ b) → R (.ok (.ret (.ref a.lx))) ⟨h', gn, dr, tks, os⟩) :
  codeAny (model PP w) A (.call (.ref aLL) ⟨[.str x t0], []⟩) R ⟨hp, gn, dr, tk0, os⟩ := by
  refine entC (T := []) (n := 9) (binds := [("text", .str x t0)]) G k rm (k.at0 G rfl) rfl (k.code G rfl) rfl rfl rfl rfl rfl rfl rfl ?_
  intro h₁ tk₁ F hc rm₁ kk
  generalize hLL : hp.objs.size = L at *
  obtain ⟨o1, e1, d1⟩ := hc "left" (L + 1) rfl
  have F1 := F.add e1 (by (clear hsz; omega)) (by simp) (by (clear hsz hLL; omega))
  repeat (first | (first | ((with_reducible show wpAny _ _ (execs (Stmt.Assign [Expr.Name _ _] _ _ :: _) _) _ _ _); refine rAs ?_) | with_reducible refine rRet ?_ | with_reducible refine rIf ?_ | with_reducible refine wpAny_BinOp ?_ | with_reducible refine rI ?_ | with_reducible refine rS ?_ | ((with_reducible show wpAny _ _ (eval (Expr.Name _ _) _) _ _ _); refine nL (by assumption) rfl ?_) | ((with_reducible show wpAny _ _ (storeName _ _ _) _ _ _); refine rSt (by assumption) ?_; intro _ _) | ((with_reducible show wpAny _ _ (isTrue (Expr.Compare _ [_] [_] _) _ _) _ _ _); refine wpAny_isTrue_Compare1 ?_) | with_reducible refine wpAny_truthy_bool ?_ | with_reducible refine rEq ?_ | ((with_reducible show wpAny _ _ (eval (Expr.Call _ _ [] _) _) _ _ _); refine Call_ ?_) | ((with_reducible show wpAny _ _ (spliced (backTo _ (starEach (_ :: _) _))) _ _ _); refine spliced_more ?_) | ((with_reducible show wpAny _ _ (spliced (backTo _ (starEach [] _))) _ _ _); refine spliced_none ?_) | with_reducible refine wpAny_IfExp ?_) | (dsimp only; first | ((with_reducible show wpAny _ _ (execs (Stmt.Assign [Expr.Name _ _] _ _ :: _) _) _ _ _); refine rAs ?_) | with_reducible refine rRet ?_ | with_reducible refine rIf ?_ | with_reducible refine wpAny_BinOp ?_ | with_reducible refine rI ?_ | with_reducible refine rS ?_ | ((with_reducible show wpAny _ _ (eval (Expr.Name _ _) _) _ _ _); refine nL (by assumption) rfl ?_) | ((with_reducible show wpAny _ _ (storeName _ _ _) _ _ _); refine rSt (by assumption) ?_; intro _ _) | ((with_reducible show wpAny _ _ (isTrue (Expr.Compare _ [_] [_] _) _ _) _ _ _); refine wpAny_isTrue_Compare1 ?_) | with_reducible refine wpAny_truthy_bool ?_ | with_reducible refine rEq ?_ | ((with_reducible show wpAny _ _ (eval (Expr.Call _ _ [] _) _) _ _ _); refine Call_ ?_) | ((with_reducible show wpAny _ _ (spliced (backTo _ (starEach (_ :: _) _))) _ _ _); refine spliced_more ?_) | ((with_reducible show wpAny _ _ (spliced (backTo _ (starEach [] _))) _ _ _); refine spliced_none ?_) | with_reducible refine wpAny_IfExp ?_))
  refine nB G F1 rfl rfl ?_
  refine rCT ?_
  repeat (first | (first | ((with_reducible show wpAny _ _ (execs (Stmt.Assign [Expr.Name _ _] _ _ :: _) _) _ _ _); refine rAs ?_) | with_reducible refine rRet ?_ | with_reducible refine rIf ?_ | with_reducible refine wpAny_BinOp ?_ | with_reducible refine rI ?_ | with_reducible refine rS ?_ | ((with_reducible show wpAny _ _ (eval (Expr.Name _ _) _) _ _ _); refine nL (by assumption) rfl ?_) | ((with_reducible show wpAny _ _ (storeName _ _ _) _ _ _); refine rSt (by assumption) ?_; intro _ _) | ((with_reducible show wpAny _ _ (isTrue (Expr.Compare _ [_] [_] _) _ _) _ _ _); refine wpAny_isTrue_Compare1 ?_) | with_reducible refine wpAny_truthy_bool ?_ | with_reducible refine rEq ?_ | ((with_reducible show wpAny _ _ (eval (Expr.Call _ _ [] _) _) _ _ _); refine Call_ ?_) | ((with_reducible show wpAny _ _ (spliced (backTo _ (starEach (_ :: _) _))) _ _ _); refine spliced_more ?_) | ((with_reducible show wpAny _ _ (spliced (backTo _ (starEach [] _))) _ _ _); refine spliced_none ?_) | with_reducible refine wpAny_IfExp ?_) | (dsimp only; first | ((with_reducible show wpAny _ _ (execs (Stmt.Assign [Expr.Name _ _] _ _ :: _) _) _ _ _); refine rAs ?_) | with_reducible refine rRet ?_ | with_reducible refine rIf ?_ | with_reducible refine wpAny_BinOp ?_ | with_reducible refine rI ?_ | with_reducible refine rS ?_ | ((with_reducible show wpAny _ _ (eval (Expr.Name _ _) _) _ _ _); refine nL (by assumption) rfl ?_) | ((with_reducible show wpAny _ _ (storeName _ _ _) _ _ _); refine rSt (by assumption) ?_; intro _ _) | ((with_reducible show wpAny _ _ (isTrue (Expr.Compare _ [_] [_] _) _ _) _ _ _); refine wpAny_isTrue_Compare1 ?_) | with_reducible refine wpAny_truthy_bool ?_ | with_reducible refine rEq ?_ | ((with_reducible show wpAny _ _ (eval (Expr.Call _ _ [] _) _) _ _ _); refine Call_ ?_) | ((with_reducible show wpAny _ _ (spliced (backTo _ (starEach (_ :: _) _))) _ _ _); refine spliced_more ?_) | ((with_reducible show wpAny _ _ (spliced (backTo _ (starEach [] _))) _ _ _); refine spliced_none ?_) | with_reducible refine wpAny_IfExp ?_))
  refine rListS rm₁.hd hsz ?_
  intro h2 tk2 vs n K2 e2 cav
  have F2 := (F1.extX K2).add e2 F1.gsz (F1.fresh (Nat.le_refl _)).1 (F1.fresh (Nat.le_refl _)).2
  generalize hl : h₁.objs.size = l at *
  refine rSC F2 1 rfl rfl d1 ?_
  intro h3 o3 d3 S3 F3
  repeat (first | (first | ((with_reducible show wpAny _ _ (execs (Stmt.Assign [Expr.Name _ _] _ _ :: _) _) _ _ _); refine rAs ?_) | with_reducible refine rRet ?_ | with_reducible refine rIf ?_ | with_reducible refine wpAny_BinOp ?_ | with_reducible refine rI ?_ | with_reducible refine rS ?_ | ((with_reducible show wpAny _ _ (eval (Expr.Name _ _) _) _ _ _); refine nL (by assumption) rfl ?_) | ((with_reducible show wpAny _ _ (storeName _ _ _) _ _ _); refine rSt (by assumption) ?_; intro _ _) | ((with_reducible show wpAny _ _ (isTrue (Expr.Compare _ [_] [_] _) _ _) _ _ _); refine wpAny_isTrue_Compare1 ?_) | with_reducible refine wpAny_truthy_bool ?_ | with_reducible refine rEq ?_ | ((with_reducible show wpAny _ _ (eval (Expr.Call _ _ [] _) _) _ _ _); refine Call_ ?_) | ((with_reducible show wpAny _ _ (spliced (backTo _ (starEach (_ :: _) _))) _ _ _); refine spliced_more ?_) | ((with_reducible show wpAny _ _ (spliced (backTo _ (starEach [] _))) _ _ _); refine spliced_none ?_) | with_reducible refine wpAny_IfExp ?_) | (dsimp only; first | ((with_reducible show wpAny _ _ (execs (Stmt.Assign [Expr.Name _ _] _ _ :: _) _) _ _ _); refine rAs ?_) | with_reducible refine rRet ?_ | with_reducible refine rIf ?_ | with_reducible refine wpAny_BinOp ?_ | with_reducible refine rI ?_ | with_reducible refine rS ?_ | ((with_reducible show wpAny _ _ (eval (Expr.Name _ _) _) _ _ _); refine nL (by assumption) rfl ?_) | ((with_reducible show wpAny _ _ (storeName _ _ _) _ _ _); refine rSt (by assumption) ?_; intro _ _) | ((with_reducible show wpAny _ _ (isTrue (Expr.Compare _ [_] [_] _) _ _) _ _ _); refine wpAny_isTrue_Compare1 ?_) | with_reducible refine wpAny_truthy_bool ?_ | with_reducible refine rEq ?_ | ((with_reducible show wpAny _ _ (eval (Expr.Call _ _ [] _) _) _ _ _); refine Call_ ?_) | ((with_reducible show wpAny _ _ (spliced (backTo _ (starEach (_ :: _) _))) _ _ _); refine spliced_more ?_) | ((with_reducible show wpAny _ _ (spliced (backTo _ (starEach [] _))) _ _ _); refine spliced_none ?_) | with_reducible refine wpAny_IfExp ?_))
  refine nG G F3 rfl ?_
  refine rCC G F3.ok ?_
  refine spliced_more ?_
  refine rNone ?_
  refine spliced_none ?_
  refine ⟨F3.ok, ?_⟩
  refine rNewI G F3.ok ?_
  have F4 := (F3.psh emptyDict).psh (instObj aLEX h3.objs.size)
  rw [Heap.size_push] at F4
  generalize hsdx : h3.objs.size = sdx at *
  refine c_init G F4.ok (x := sdx + 1) (dx := sdx) (rm₁.le (by decide)).under (F4.at 0 rfl) (F4.at 1 rfl) (F4.lo0 (.head _)) (F4.lo0 (.tail _ (.head _))) (by (clear hsz hLL hl hsdx; omega)) ?_
  intro t1 t2 t3 t4 u1 u3 pb h5 tk5 k5 K5 e5 hpb epb
  refine ⟨rfl, ?_⟩
  have F5 := F4.call1N 1 rfl k5 K5 e5 epb hpb
  dsimp only
  refine rSt F5 ?_
  intro h6 F6
  refine rDef rfl rfl rfl ?_
  refine rFn G F6.ok (.inr (.inr ⟨rfl, rfl, rfl⟩)) rfl G.h3 (by decide) rfl rfl rfl ?_
  intro f doc pm cc ctv h7 tk7 k7 K7 hf hct hcr hfo
  have F7 := (F6.call k7 K7).add hfo (Nat.le_trans F6.gsz hf) (F6.fresh hf).1 (F6.fresh hf).2
  refine rStS F7 ?_
  intro h8 S8 F8
  have hcr8 : h8.CodeRec (.ref cc) qLL := CodeRec.same hcr (by decide) S8 (ns_nc F7.ns)
  refine rAsA ?_
  refine nL F8 rfl ?_
  refine nL F8 rfl ?_
  refine rSAS (es := [aE w "lineno" t1 (.int 1 u1), aE w "instream" t2 .none, aE w "whitespace" t3 (.str "\n\t\r " u3), aE w "pushback" t4 (.ref pb), aE w "read" _ (.ref f)]) G F8 3 rfl (F8.at 2 rfl) (q_t5 w) (by rfl) (dict_nc rfl) rfl rfl (by simp) ?_
  intro h9 S9 F9
  have hcr9 : h9.CodeRec (.ref cc) qLL := CodeRec.same hcr8 (by decide) S9 (fun o e => by rw [F8.at 3 rfl] at e; cases e; exact dict_nc rfl)
  repeat (first | (first | ((with_reducible show wpAny _ _ (execs (Stmt.Assign [Expr.Name _ _] _ _ :: _) _) _ _ _); refine rAs ?_) | with_reducible refine rRet ?_ | with_reducible refine rIf ?_ | with_reducible refine wpAny_BinOp ?_ | with_reducible refine rI ?_ | with_reducible refine rS ?_ | ((with_reducible show wpAny _ _ (eval (Expr.Name _ _) _) _ _ _); refine nL (by assumption) rfl ?_) | ((with_reducible show wpAny _ _ (storeName _ _ _) _ _ _); refine rSt (by assumption) ?_; intro _ _) | ((with_reducible show wpAny _ _ (isTrue (Expr.Compare _ [_] [_] _) _ _) _ _ _); refine wpAny_isTrue_Compare1 ?_) | with_reducible refine wpAny_truthy_bool ?_ | with_reducible refine rEq ?_ | ((with_reducible show wpAny _ _ (eval (Expr.Call _ _ [] _) _) _ _ _); refine Call_ ?_) | ((with_reducible show wpAny _ _ (spliced (backTo _ (starEach (_ :: _) _))) _ _ _); refine spliced_more ?_) | ((with_reducible show wpAny _ _ (spliced (backTo _ (starEach [] _))) _ _ _); refine spliced_none ?_) | with_reducible refine wpAny_IfExp ?_) | (dsimp only; first | ((with_reducible show wpAny _ _ (execs (Stmt.Assign [Expr.Name _ _] _ _ :: _) _) _ _ _); refine rAs ?_) | with_reducible refine rRet ?_ | with_reducible refine rIf ?_ | with_reducible refine wpAny_BinOp ?_ | with_reducible refine rI ?_ | with_reducible refine rS ?_ | ((with_reducible show wpAny _ _ (eval (Expr.Name _ _) _) _ _ _); refine nL (by assumption) rfl ?_) | ((with_reducible show wpAny _ _ (storeName _ _ _) _ _ _); refine rSt (by assumption) ?_; intro _ _) | ((with_reducible show wpAny _ _ (isTrue (Expr.Compare _ [_] [_] _) _ _) _ _ _); refine wpAny_isTrue_Compare1 ?_) | with_reducible refine wpAny_truthy_bool ?_ | with_reducible refine rEq ?_ | ((with_reducible show wpAny _ _ (eval (Expr.Call _ _ [] _) _) _ _ _); refine Call_ ?_) | ((with_reducible show wpAny _ _ (spliced (backTo _ (starEach (_ :: _) _))) _ _ _); refine spliced_more ?_) | ((with_reducible show wpAny _ _ (spliced (backTo _ (starEach [] _))) _ _ _); refine spliced_none ?_) | with_reducible refine wpAny_IfExp ?_))
  refine nG G F9 rfl ?_
  refine rCC G F9.ok ?_
  refine spliced_more ?_
  refine nL F9 rfl ?_
  refine spliced_none ?_
  refine ⟨F9.ok, ?_⟩
  refine rNewI G F9.ok ?_
  have F10 := (F9.psh emptyDict).psh (instObj aLEX h9.objs.size)
  rw [Heap.size_push] at F10
  generalize hldx : h9.objs.size = ldx at *
  refine c_init G F10.ok (x := ldx + 1) (dx := ldx) (rm₁.le (by decide)).under (F10.at 0 rfl) (F10.at 1 rfl) (F10.lo0 (.head _)) (F10.lo0 (.tail _ (.head _))) (by (clear hsz hLL hl hsdx hpb hf hct hldx; omega)) ?_
  intro v1 v2 v3 v4 w1 w3 pb2 h11 tk11 k11 K11 e11 hpb2 epb2
  have F11 := F10.call1N 1 rfl k11 K11 e11 epb2 hpb2
  refine ⟨rfl, ?_⟩
  dsimp only
  have hcr10 : ((h9.push emptyDict).push (instObj aLEX ldx)).CodeRec (.ref cc) qLL := hcr9.keeps fun b o e => Heap.get?_push_of_some _ (Heap.get?_push_of_some _ e)
  have hcr11 : h11.CodeRec (.ref cc) qLL := K11.codeRec hcr10 hct (fun q => CodeRec.ne (by decide) hcr10 (F10.at 1 rfl) (dict_nc rfl) (List.mem_singleton.mp q))
  have lol : g0.objs.size ≤ l := F11.lo0 (p := (l, LO vs n)) (by simp)
  refine h ⟨ldx + 1, ldx, pb2, sdx + 1, sdx, f, l, L + 1, cc, _⟩ h11 tk11 k11 F11.kp ⟨F11.at 1 rfl, ⟨_, _, _, _, _, _, _, F11.at 2 rfl⟩, F11.at 0 rfl, F11.at 5 rfl, ⟨_, _, _, _, _, _, _, _, _, F11.at 6 rfl⟩, F11.at 3 rfl, ⟨⟨_, rfl⟩, ?_⟩, ⟨_, F11.at 8 rfl, d3⟩, ?_, hct, ⟨vs, n, F11.at 7 rfl, cav⟩, ?_, ?_⟩ ?_
  · intro A' R' hp' gn' dr' tk' os' vs' n' sz t' k' rm' ef ec ecd el hvs hR
    refine ent (T := [l]) (n := 1) (binds := [("size", .int sz t')]) G k' rm' ef rfl ecd rfl rfl rfl rfl rfl rfl rfl ?_
    intro i1 tki J rmi kki
    have J1 := J.addT (kki _ _ el) (List.mem_singleton.mpr rfl) lol (fun _ q => (nomatch q)) (Nat.ne_of_lt (Heap.lt_size el))
    have ci : i1.IsCell (L + 1) (some (.ref l)) := by
      obtain ⟨oc, eoc, doc⟩ := ec
      exact ⟨oc, kki _ _ eoc, doc⟩
    repeat (first | (first | ((with_reducible show wpAny _ _ (execs (Stmt.Assign [Expr.Name _ _] _ _ :: _) _) _ _ _); refine rAs ?_) | with_reducible refine rRet ?_ | with_reducible refine rIf ?_ | with_reducible refine wpAny_BinOp ?_ | with_reducible refine rI ?_ | with_reducible refine rS ?_ | ((with_reducible show wpAny _ _ (eval (Expr.Name _ _) _) _ _ _); refine nL (by assumption) rfl ?_) | ((with_reducible show wpAny _ _ (storeName _ _ _) _ _ _); refine rSt (by assumption) ?_; intro _ _) | ((with_reducible show wpAny _ _ (isTrue (Expr.Compare _ [_] [_] _) _ _) _ _ _); refine wpAny_isTrue_Compare1 ?_) | with_reducible refine wpAny_truthy_bool ?_ | with_reducible refine rEq ?_ | ((with_reducible show wpAny _ _ (eval (Expr.Call _ _ [] _) _) _ _ _); refine Call_ ?_) | ((with_reducible show wpAny _ _ (spliced (backTo _ (starEach (_ :: _) _))) _ _ _); refine spliced_more ?_) | ((with_reducible show wpAny _ _ (spliced (backTo _ (starEach [] _))) _ _ _); refine spliced_none ?_) | with_reducible refine wpAny_IfExp ?_) | (dsimp only; first | ((with_reducible show wpAny _ _ (execs (Stmt.Assign [Expr.Name _ _] _ _ :: _) _) _ _ _); refine rAs ?_) | with_reducible refine rRet ?_ | with_reducible refine rIf ?_ | with_reducible refine wpAny_BinOp ?_ | with_reducible refine rI ?_ | with_reducible refine rS ?_ | ((with_reducible show wpAny _ _ (eval (Expr.Name _ _) _) _ _ _); refine nL (by assumption) rfl ?_) | ((with_reducible show wpAny _ _ (storeName _ _ _) _ _ _); refine rSt (by assumption) ?_; intro _ _) | ((with_reducible show wpAny _ _ (isTrue (Expr.Compare _ [_] [_] _) _ _) _ _ _); refine wpAny_isTrue_Compare1 ?_) | with_reducible refine wpAny_truthy_bool ?_ | with_reducible refine rEq ?_ | ((with_reducible show wpAny _ _ (eval (Expr.Call _ _ [] _) _) _ _ _); refine Call_ ?_) | ((with_reducible show wpAny _ _ (spliced (backTo _ (starEach (_ :: _) _))) _ _ _); refine spliced_more ?_) | ((with_reducible show wpAny _ _ (spliced (backTo _ (starEach [] _))) _ _ _); refine spliced_none ?_) | with_reducible refine wpAny_IfExp ?_))
    refine isTrue_plain ?_
    refine nF rfl ci ?_
    refine wpAny_truthy_list (LO.is (J1.at 0 rfl)) (by simp; (clear hsz hLL hl hsdx hpb hf hct hldx hpb2 lol; omega)) ?_
    cases vs' with
    | nil =>
      refine iteF (by simp) ?_
      repeat (first | (first | ((with_reducible show wpAny _ _ (execs (Stmt.Assign [Expr.Name _ _] _ _ :: _) _) _ _ _); refine rAs ?_) | with_reducible refine rRet ?_ | with_reducible refine rIf ?_ | with_reducible refine wpAny_BinOp ?_ | with_reducible refine rI ?_ | with_reducible refine rS ?_ | ((with_reducible show wpAny _ _ (eval (Expr.Name _ _) _) _ _ _); refine nL (by assumption) rfl ?_) | ((with_reducible show wpAny _ _ (storeName _ _ _) _ _ _); refine rSt (by assumption) ?_; intro _ _) | ((with_reducible show wpAny _ _ (isTrue (Expr.Compare _ [_] [_] _) _ _) _ _ _); refine wpAny_isTrue_Compare1 ?_) | with_reducible refine wpAny_truthy_bool ?_ | with_reducible refine rEq ?_ | ((with_reducible show wpAny _ _ (eval (Expr.Call _ _ [] _) _) _ _ _); refine Call_ ?_) | ((with_reducible show wpAny _ _ (spliced (backTo _ (starEach (_ :: _) _))) _ _ _); refine spliced_more ?_) | ((with_reducible show wpAny _ _ (spliced (backTo _ (starEach [] _))) _ _ _); refine spliced_none ?_) | with_reducible refine wpAny_IfExp ?_) | (dsimp only; first | ((with_reducible show wpAny _ _ (execs (Stmt.Assign [Expr.Name _ _] _ _ :: _) _) _ _ _); refine rAs ?_) | with_reducible refine rRet ?_ | with_reducible refine rIf ?_ | with_reducible refine wpAny_BinOp ?_ | with_reducible refine rI ?_ | with_reducible refine rS ?_ | ((with_reducible show wpAny _ _ (eval (Expr.Name _ _) _) _ _ _); refine nL (by assumption) rfl ?_) | ((with_reducible show wpAny _ _ (storeName _ _ _) _ _ _); refine rSt (by assumption) ?_; intro _ _) | ((with_reducible show wpAny _ _ (isTrue (Expr.Compare _ [_] [_] _) _ _) _ _ _); refine wpAny_isTrue_Compare1 ?_) | with_reducible refine wpAny_truthy_bool ?_ | with_reducible refine rEq ?_ | ((with_reducible show wpAny _ _ (eval (Expr.Call _ _ [] _) _) _ _ _); refine Call_ ?_) | ((with_reducible show wpAny _ _ (spliced (backTo _ (starEach (_ :: _) _))) _ _ _); refine spliced_more ?_) | ((with_reducible show wpAny _ _ (spliced (backTo _ (starEach [] _))) _ _ _); refine spliced_none ?_) | with_reducible refine wpAny_IfExp ?_))
      have q := fun t tks => hR i1 tks (.str "" t) [] n' (.inl ⟨rfl, rfl, _, rfl⟩) J1.ok J1.kp (J1.at 0 rfl)
      exact q _ _
    | cons v r =>
      refine iteT (by simp) ?_
      refine rM ?_
      refine nF rfl ci ?_
      refine rPopM (J1.at 0 rfl) ?_
      refine rCM ?_
      repeat (first | (first | ((with_reducible show wpAny _ _ (execs (Stmt.Assign [Expr.Name _ _] _ _ :: _) _) _ _ _); refine rAs ?_) | with_reducible refine rRet ?_ | with_reducible refine rIf ?_ | with_reducible refine wpAny_BinOp ?_ | with_reducible refine rI ?_ | with_reducible refine rS ?_ | ((with_reducible show wpAny _ _ (eval (Expr.Name _ _) _) _ _ _); refine nL (by assumption) rfl ?_) | ((with_reducible show wpAny _ _ (storeName _ _ _) _ _ _); refine rSt (by assumption) ?_; intro _ _) | ((with_reducible show wpAny _ _ (isTrue (Expr.Compare _ [_] [_] _) _ _) _ _ _); refine wpAny_isTrue_Compare1 ?_) | with_reducible refine wpAny_truthy_bool ?_ | with_reducible refine rEq ?_ | ((with_reducible show wpAny _ _ (eval (Expr.Call _ _ [] _) _) _ _ _); refine Call_ ?_) | ((with_reducible show wpAny _ _ (spliced (backTo _ (starEach (_ :: _) _))) _ _ _); refine spliced_more ?_) | ((with_reducible show wpAny _ _ (spliced (backTo _ (starEach [] _))) _ _ _); refine spliced_none ?_) | with_reducible refine wpAny_IfExp ?_) | (dsimp only; first | ((with_reducible show wpAny _ _ (execs (Stmt.Assign [Expr.Name _ _] _ _ :: _) _) _ _ _); refine rAs ?_) | with_reducible refine rRet ?_ | with_reducible refine rIf ?_ | with_reducible refine wpAny_BinOp ?_ | with_reducible refine rI ?_ | with_reducible refine rS ?_ | ((with_reducible show wpAny _ _ (eval (Expr.Name _ _) _) _ _ _); refine nL (by assumption) rfl ?_) | ((with_reducible show wpAny _ _ (storeName _ _ _) _ _ _); refine rSt (by assumption) ?_; intro _ _) | ((with_reducible show wpAny _ _ (isTrue (Expr.Compare _ [_] [_] _) _ _) _ _ _); refine wpAny_isTrue_Compare1 ?_) | with_reducible refine wpAny_truthy_bool ?_ | with_reducible refine rEq ?_ | ((with_reducible show wpAny _ _ (eval (Expr.Call _ _ [] _) _) _ _ _); refine Call_ ?_) | ((with_reducible show wpAny _ _ (spliced (backTo _ (starEach (_ :: _) _))) _ _ _); refine spliced_more ?_) | ((with_reducible show wpAny _ _ (spliced (backTo _ (starEach [] _))) _ _ _); refine spliced_none ?_) | with_reducible refine wpAny_IfExp ?_))
      refine rPop0 J1 0 rfl (by simp at hvs; (clear hsz hLL hl hsdx hpb hf hct hldx hpb2 lol; omega)) ?_
      intro i2 n2 J2
      have q := fun tks => hR i2 tks v r n2 (.inr rfl) J2.ok J2.kp (J2.at 0 rfl)
      exact q _
  · exact hcr11
  · intro z
    have e1 : l < h9.objs.size := Heap.lt_size (F9.at 4 rfl)
    have e2 : h9.objs.size + 1 + 1 ≤ pb2 := by
      have := hpb2
      rw [Heap.size_push, Heap.size_push] at this
      exact this
    have z' : @Eq Nat l pb2 := z
    (clear hsz hLL hl hsdx hpb hf hct hpb2 lol z; omega)
  · intro b hb
    simp only [List.mem_cons, List.not_mem_nil, or_false] at hb
    rcases hb with rfl | rfl | rfl | rfl | rfl | rfl | rfl | rfl
    · exact F11.lo0 (List.mem_of_getElem? (i := 1) rfl)
    · exact F11.lo0 (List.mem_of_getElem? (i := 2) rfl)
    · exact F11.lo0 (List.mem_of_getElem? (i := 0) rfl)
    · exact F11.lo0 (List.mem_of_getElem? (i := 5) rfl)
    · exact F11.lo0 (List.mem_of_getElem? (i := 6) rfl)
    · exact F11.lo0 (List.mem_of_getElem? (i := 3) rfl)
    · exact F11.lo0 (List.mem_of_getElem? (i := 7) rfl)
    · exact F11.lo0 (List.mem_of_getElem? (i := 8) rfl)
  · intro b hb
    simp only [List.mem_cons, List.not_mem_nil, or_false] at hb
    rcases hb with rfl | rfl | rfl | rfl | rfl | rfl | rfl | rfl
    · exact hLL ▸ F11.lo' (List.mem_of_getElem? (i := 1) rfl)
    · exact hLL ▸ F11.lo' (List.mem_of_getElem? (i := 2) rfl)
    · exact hLL ▸ F11.lo' (List.mem_of_getElem? (i := 0) rfl)
    · exact hLL ▸ F11.lo' (List.mem_of_getElem? (i := 5) rfl)
    · exact hLL ▸ F11.lo' (List.mem_of_getElem? (i := 6) rfl)
    · exact hLL ▸ F11.lo' (List.mem_of_getElem? (i := 3) rfl)
    · exact hLL ▸ F11.lo' (List.mem_of_getElem? (i := 7) rfl)
    · exact hLL ▸ F11.lo' (List.mem_of_getElem? (i := 8) rfl)
end Mine

namespace Mine
theorem get_ne {h : Heap} {a b : Addr} {o o' : Obj} (e : h.get? a = some o) (e' : h.get? b = some o') (hd : o.data ≠ o'.data) : a ≠ b := fun q => by
  subst q
  rw [e] at e'
  cases e'
  exact hd rfl
theorem mem2 {a b c : Addr} (h1 : a ≠ b) (h2 : a ≠ c) : a ∉ [b, c] := fun q => by
  rcases List.mem_cons.mp q with q | q
  · exact h1 q
  · exact h2 (List.mem_singleton.mp q)
theorem LX.step {w : World} {g0 hp h' : Heap} {a : LA} {cs cs' : List Nat} (X : LX w g0 hp a cs) (k : OK g0 hp) (K : Kp [a.ldx, a.l] hp h')
    (e1 : ∃ t1 t2 t3 t4 ln u1 u3, h'.get? a.ldx = some (lexD w t1 t2 t3 t4 (.int ln u1) (.ref a.sx) (.str "\n\t\r " u3) a.pb)) (e2 : ∃ vs n, h'.get? a.l = some (LO vs n) ∧ CA vs cs') : LX w g0 h' a cs' := by
  obtain ⟨_, _, _, _, _, _, _, ed⟩ := X.ldx
  obtain ⟨vs0, n0, el, _⟩ := X.l
  obtain ⟨s1, s2, s3, s4, s5, sl, sf, sw, sp, es⟩ := X.sdx
  obtain ⟨oc, ec, dc⟩ := X.c
  obtain ⟨cc', occ, vcc, tcc, ecc, hcc, dcc, r⟩ := X.cc
  cases ecc
  have nt : ∀ x ∈ [a.lx, a.ldx, a.pb, a.sx, a.sdx, a.f, a.l, a.c], x ∉ tabs := fun x hx => k.nt (X.lo x hx)
  obtain ⟨fd, hfd⟩ := X.nx.fn
  refine ⟨K.kp _ _ X.lx (nt _ (by simp)) (mem2 (get_ne X.lx ed (by simp)) (get_ne X.lx el (by simp))), e1,
    K.kp _ _ X.pb (nt _ (by simp)) (mem2 (get_ne X.pb ed (by simp)) (Ne.symm X.lpb)),
    K.kp _ _ X.sx (nt _ (by simp)) (mem2 (get_ne X.sx ed (by simp)) (get_ne X.sx el (by simp))),
    ⟨s1, s2, s3, s4, s5, sl, sf, sw, sp, K.kp _ _ es (nt _ (by simp)) (mem2 (get_ne es ed (by intro z; cases z)) (get_ne es el (by simp)))⟩,
    K.kp _ _ X.f (nt _ (by simp)) (mem2 (get_ne X.f ed (by rw [hfd]; simp)) (get_ne X.f el (by rw [hfd]; simp))), X.nx,
    ⟨oc, K.kp _ _ ec (nt _ (by simp)) (mem2 (get_ne ec ed (by rw [dc]; simp)) (get_ne ec el (by rw [dc]; simp))), dc⟩,
    ⟨_, occ, vcc, tcc, rfl, K.kp _ _ hcc X.cct (mem2 (get_ne hcc ed (by rw [dcc]; simp)) (get_ne hcc el (by rw [dcc]; simp))), dcc, r⟩,
    X.cct, e2, X.lpb, X.lo⟩
theorem LX.keep {w : World} {g0 hp h' : Heap} {a : LA} {cs : List Nat} (X : LX w g0 hp a cs) (k : OK g0 hp) (K : Kp [] hp h') : LX w g0 h' a cs := by
  have nt : ∀ x ∈ [a.lx, a.ldx, a.pb, a.sx, a.sdx, a.f, a.l, a.c], x ∉ tabs := fun x hx => k.nt (X.lo x hx)
  refine X.step k (K.weak (fun _ q => (nomatch q))) ?_ ?_
  · obtain ⟨t1, t2, t3, t4, ln, u1, u3, e⟩ := X.ldx
    exact ⟨t1, t2, t3, t4, ln, u1, u3, K.kp _ _ e (nt _ (by simp)) List.not_mem_nil⟩
  · obtain ⟨vs, n, e, c⟩ := X.l
    exact ⟨vs, n, K.kp _ _ e (nt _ (by simp)) List.not_mem_nil, c⟩
end Mine

namespace Mine
theorem fo_ins (w : World) (t1 t2 t3 t4 : Tok) (ln ws fp : Value) (pb : Addr) : findObj (KQ w) aLEX (some (lexD w t1 t2 t3 t4 ln fp ws pb)) "instream" = some (.value fp) := by kernel_rfl
theorem fo_ln (w : World) (t1 t2 t3 t4 : Tok) (ln ws fp : Value) (pb : Addr) : findObj (KQ w) aLEX (some (lexD w t1 t2 t3 t4 ln fp ws pb)) "lineno" = some (.value ln) := by kernel_rfl
theorem fo_ws (w : World) (t1 t2 t3 t4 : Tok) (ln ws fp : Value) (pb : Addr) : findObj (KQ w) aLEX (some (lexD w t1 t2 t3 t4 ln fp ws pb)) "whitespace" = some (.value ws) := by kernel_rfl
theorem fo_pb (w : World) (t1 t2 t3 t4 : Tok) (ln ws fp : Value) (pb : Addr) : findObj (KQ w) aLEX (some (lexD w t1 t2 t3 t4 ln fp ws pb)) "pushback" = some (.value (.ref pb)) := by kernel_rfl
theorem fo_rd (w : World) (t1 t2 t3 t4 t5 : Tok) (ln ws fp rd : Value) (pb : Addr) : findObj (KQ w) aLEX (some (strD w t1 t2 t3 t4 t5 ln fp ws pb rd)) "read" = some (.value rd) := by kernel_rfl
theorem fo_rc (w : World) (t1 t2 t3 t4 : Tok) (ln ws fp : Value) (pb : Addr) : findObj (KQ w) aLEX (some (lexD w t1 t2 t3 t4 ln fp ws pb)) "_read_char" = some (.bind (.builtin "function.__get__") (.ref aRC)) := by kernel_rfl
theorem sh_gt (w : World) (t1 t2 t3 t4 : Tok) (ln ws fp : Value) (pb : Addr) : shadowIn (some (lexD w t1 t2 t3 t4 ln fp ws pb)) "get_token" = some false := by kernel_rfl
section
variable {w : World} {A : Around} {E : Value → Shared → Prop} {Q : Value → Shared → Prop} {t u : Tok} {hp : Heap} {gn : Array GenState} {dr : Drawn} {tk : Nat} {os : OsState} {pos : Pos} {k : Nat} {env : Env}
  {g0 g : Heap} {T : List Addr} {L : Addr} {m : Str → Option Value} {nw : List (Addr × Obj)} {mg mb : Str → Option Value}
theorem rAt {x attr : Str} {xp pos : Pos}
    (h : wpAny (model PP w) A (eval (.Name x xp) env) (fun o s₁ => wpAny (model PP w) A (getAttr o attr true) Q E s₁) E ⟨hp, gn, dr, tk, os⟩) : wpAny (model PP w) A (eval (.Attribute (.Name x xp) attr pos) env) Q E ⟨hp, gn, dr, tk, os⟩ := Attribute_name h
theorem rEqS {a b : Str} (h : Q (.bool (a == b)) ⟨hp, gn, dr, tk, os⟩) : wpAny (model PP w) A (compareOp .Eq (.str a t) (.str b u)) Q E ⟨hp, gn, dr, tk, os⟩ := PyProof.Rows.eq_str h
theorem rAuA {o value : Expr} {attr : Str} {tpos pos : Pos} {op : Operator} {rest : List Stmt} {Q : Flow → Shared → Prop}
    (h : wpAny (model PP w) A (eval o env) (fun ov s₁ => wpAny (model PP w) A (getAttr ov attr true) (fun old s₂ =>
          wpAny (model PP w) A (eval value env) (fun v s₃ => wpAny (model PP w) A (inplaceOp op old v) (fun new s₄ =>
            wpAny (model PP w) A (setAttr ov attr new) (fun _ s₅ => wpAny (model PP w) A (execs rest env) Q E s₅) E s₄) E s₃) E s₂) E s₁) E ⟨hp, gn, dr, tk, os⟩) :
    wpAny (model PP w) A (execs (.AugAssign (.Attribute o attr tpos) op value pos :: rest) env) Q E ⟨hp, gn, dr, tk, os⟩ := wpAny_execs_cons (wpAny_AugAssign_AttributeAny h)
theorem rIAdd {a b : Int} (h : Q (.int (a + b) tk) ⟨hp, gn, dr, tk + 1, os⟩) : wpAny (model PP w) A (inplaceOp .Add (.int a t) (.int b u)) Q E ⟨hp, gn, dr, tk, os⟩ := by
  first | exact iadd_int h | exact PyProof.Rows.iadd_int h
end
def Take (cs : List Nat) (v : Value) (cs' : List Nat) : Prop := (cs = [] ∧ cs' = [] ∧ ∃ t, v = .str "" t) ∨ (∃ c t, cs = c :: cs' ∧ v = .str (chr c) t)
theorem c_rc {w : World} {mg mb : Str → Option Value} {g0 : Heap} (G : Gd w mg mb g0) {A : Around} {R : Result → Shared → Prop} {hp : Heap} {gn : Array GenState} {dr : Drawn} {tk0 : Nat} {os : OsState} (k : OK g0 hp) {a : LA} {cs : List Nat}
  (rm : Rm A 5) (X : LX w g0 hp a cs) (hlen : cs.length ≤ 2 ^ 20)
 (h : ∀ v cs' h' tks, Take cs v cs' → OK g0 h' → Kp [a.ldx, a.l] hp h' → LX w g0 h' a cs' → R (.ok (.ret v)) ⟨h', gn, dr, tks, os⟩) :
  codeAny (model PP w) A (.call (.ref aRC) ⟨[.ref a.lx], []⟩) R ⟨hp, gn, dr, tk0, os⟩ := by
  refine ent (T := [a.ldx, a.l]) (n := 4) (binds := [("self", .ref a.lx)]) G k rm (k.at0 G rfl) rfl (k.code G rfl) rfl rfl rfl rfl rfl rfl rfl ?_
  intro h1 tk1 F rm1 kk
  have X1 : LX w g0 h1 a cs := X.keep k ⟨F.gsz, fun b o e _ _ => kk b o e⟩
  obtain ⟨t1, t2, t3, t4, ln, u1, u3, ed⟩ := X1.ldx
  obtain ⟨s1, s2, s3, s4, s5, sl, sf, sw, sp, es⟩ := X1.sdx
  obtain ⟨vs, n, el, ca⟩ := X1.l
  obtain ⟨fd, hfd⟩ := X1.nx.fn
  repeat (first | (first | ((with_reducible show wpAny _ _ (execs (Stmt.Assign [Expr.Name _ _] _ _ :: _) _) _ _ _); refine rAs ?_) | with_reducible refine rRet ?_ | with_reducible refine rIf ?_ | with_reducible refine wpAny_BinOp ?_ | with_reducible refine rI ?_ | with_reducible refine rS ?_ | ((with_reducible show wpAny _ _ (eval (Expr.Name _ _) _) _ _ _); refine nL (by assumption) rfl ?_) | ((with_reducible show wpAny _ _ (storeName _ _ _) _ _ _); refine rSt (by assumption) ?_; intro _ _) | ((with_reducible show wpAny _ _ (isTrue (Expr.Compare _ [_] [_] _) _ _) _ _ _); refine wpAny_isTrue_Compare1 ?_) | with_reducible refine wpAny_truthy_bool ?_ | with_reducible refine rEq ?_ | ((with_reducible show wpAny _ _ (eval (Expr.Call _ _ [] _) _) _ _ _); refine Call_ ?_) | ((with_reducible show wpAny _ _ (spliced (backTo _ (starEach (_ :: _) _))) _ _ _); refine spliced_more ?_) | ((with_reducible show wpAny _ _ (spliced (backTo _ (starEach [] _))) _ _ _); refine spliced_none ?_) | with_reducible refine wpAny_IfExp ?_) | (dsimp only; first | ((with_reducible show wpAny _ _ (execs (Stmt.Assign [Expr.Name _ _] _ _ :: _) _) _ _ _); refine rAs ?_) | with_reducible refine rRet ?_ | with_reducible refine rIf ?_ | with_reducible refine wpAny_BinOp ?_ | with_reducible refine rI ?_ | with_reducible refine rS ?_ | ((with_reducible show wpAny _ _ (eval (Expr.Name _ _) _) _ _ _); refine nL (by assumption) rfl ?_) | ((with_reducible show wpAny _ _ (storeName _ _ _) _ _ _); refine rSt (by assumption) ?_; intro _ _) | ((with_reducible show wpAny _ _ (isTrue (Expr.Compare _ [_] [_] _) _ _) _ _ _); refine wpAny_isTrue_Compare1 ?_) | with_reducible refine wpAny_truthy_bool ?_ | with_reducible refine rEq ?_ | ((with_reducible show wpAny _ _ (eval (Expr.Call _ _ [] _) _) _ _ _); refine Call_ ?_) | ((with_reducible show wpAny _ _ (spliced (backTo _ (starEach (_ :: _) _))) _ _ _); refine spliced_more ?_) | ((with_reducible show wpAny _ _ (spliced (backTo _ (starEach [] _))) _ _ _); refine spliced_none ?_) | with_reducible refine wpAny_IfExp ?_))
  refine rM ?_
  refine rAt ?_
  refine nL F rfl ?_
  refine rGA G F.ok X1.lx ed (fo_ins ..) rfl ?_
  refine rGMd G F.ok X1.sx es (q_rd w) (fo_rd ..) rfl ?_
  have ldL : @Ne Nat a.ldx hp.objs.size := by
    obtain ⟨_, _, _, _, _, _, _, e⟩ := X.ldx
    exact Nat.ne_of_lt (Heap.lt_size e)
  have lL : @Ne Nat a.l hp.objs.size := by
    obtain ⟨_, _, e, _⟩ := X.l
    exact Nat.ne_of_lt (Heap.lt_size e)
  have F2 := (F.addT ed (by simp) (X.lo _ (by simp)) (fun _ q => (nomatch q)) ldL).addT el (by simp) (X.lo _ (by simp)) (fun p hp' z => by
    cases List.mem_singleton.mp hp'
    exact get_ne ed el (by simp) z) lL
  dsimp only
  refine rCW X1.f hfd ?_
  repeat (first | (first | ((with_reducible show wpAny _ _ (execs (Stmt.Assign [Expr.Name _ _] _ _ :: _) _) _ _ _); refine rAs ?_) | with_reducible refine rRet ?_ | with_reducible refine rIf ?_ | with_reducible refine wpAny_BinOp ?_ | with_reducible refine rI ?_ | with_reducible refine rS ?_ | ((with_reducible show wpAny _ _ (eval (Expr.Name _ _) _) _ _ _); refine nL (by assumption) rfl ?_) | ((with_reducible show wpAny _ _ (storeName _ _ _) _ _ _); refine rSt (by assumption) ?_; intro _ _) | ((with_reducible show wpAny _ _ (isTrue (Expr.Compare _ [_] [_] _) _ _) _ _ _); refine wpAny_isTrue_Compare1 ?_) | with_reducible refine wpAny_truthy_bool ?_ | with_reducible refine rEq ?_ | ((with_reducible show wpAny _ _ (eval (Expr.Call _ _ [] _) _) _ _ _); refine Call_ ?_) | ((with_reducible show wpAny _ _ (spliced (backTo _ (starEach (_ :: _) _))) _ _ _); refine spliced_more ?_) | ((with_reducible show wpAny _ _ (spliced (backTo _ (starEach [] _))) _ _ _); refine spliced_none ?_) | with_reducible refine wpAny_IfExp ?_) | (dsimp only; first | ((with_reducible show wpAny _ _ (execs (Stmt.Assign [Expr.Name _ _] _ _ :: _) _) _ _ _); refine rAs ?_) | with_reducible refine rRet ?_ | with_reducible refine rIf ?_ | with_reducible refine wpAny_BinOp ?_ | with_reducible refine rI ?_ | with_reducible refine rS ?_ | ((with_reducible show wpAny _ _ (eval (Expr.Name _ _) _) _ _ _); refine nL (by assumption) rfl ?_) | ((with_reducible show wpAny _ _ (storeName _ _ _) _ _ _); refine rSt (by assumption) ?_; intro _ _) | ((with_reducible show wpAny _ _ (isTrue (Expr.Compare _ [_] [_] _) _ _) _ _ _); refine wpAny_isTrue_Compare1 ?_) | with_reducible refine wpAny_truthy_bool ?_ | with_reducible refine rEq ?_ | ((with_reducible show wpAny _ _ (eval (Expr.Call _ _ [] _) _) _ _ _); refine Call_ ?_) | ((with_reducible show wpAny _ _ (spliced (backTo _ (starEach (_ :: _) _))) _ _ _); refine spliced_more ?_) | ((with_reducible show wpAny _ _ (spliced (backTo _ (starEach [] _))) _ _ _); refine spliced_none ?_) | with_reducible refine wpAny_IfExp ?_))
  refine ⟨X1.f, ?_⟩
  refine X1.nx.call F2.ok (rm1.le (by decide)) X1.f X1.c X1.cc el (by rw [ca.1]; exact hlen) ?_
  intro h3 tk3 v r n' hv k3 K3 e3
  have F3 := F2.call1 0 rfl k3 K3 e3
  obtain ⟨cs', sv, tv, hT, rfl, ca'⟩ : ∃ cs' sv tv, Take cs v cs' ∧ v = .str sv tv ∧ CA r cs' := by
    rcases hv with ⟨rfl, rfl, t, rfl⟩ | rfl
    · have : cs = [] := List.eq_nil_of_length_eq_zero ca.1.symm
      subst this
      exact ⟨[], _, _, .inl ⟨rfl, rfl, _, rfl⟩, rfl, ca⟩
    · cases cs with
      | nil => exact absurd ca.1 (by simp)
      | cons c cs' =>
        obtain ⟨t, r', e, ca'⟩ := ca.cons
        cases e
        exact ⟨cs', _, _, .inr ⟨c, t, rfl, rfl⟩, rfl, ca'⟩
  refine rSt F3 ?_
  intro h4 F4
  repeat (first | (first | ((with_reducible show wpAny _ _ (execs (Stmt.Assign [Expr.Name _ _] _ _ :: _) _) _ _ _); refine rAs ?_) | with_reducible refine rRet ?_ | with_reducible refine rIf ?_ | with_reducible refine wpAny_BinOp ?_ | with_reducible refine rI ?_ | with_reducible refine rS ?_ | ((with_reducible show wpAny _ _ (eval (Expr.Name _ _) _) _ _ _); refine nL (by assumption) rfl ?_) | ((with_reducible show wpAny _ _ (storeName _ _ _) _ _ _); refine rSt (by assumption) ?_; intro _ _) | ((with_reducible show wpAny _ _ (isTrue (Expr.Compare _ [_] [_] _) _ _) _ _ _); refine wpAny_isTrue_Compare1 ?_) | with_reducible refine wpAny_truthy_bool ?_ | with_reducible refine rEq ?_ | ((with_reducible show wpAny _ _ (eval (Expr.Call _ _ [] _) _) _ _ _); refine Call_ ?_) | ((with_reducible show wpAny _ _ (spliced (backTo _ (starEach (_ :: _) _))) _ _ _); refine spliced_more ?_) | ((with_reducible show wpAny _ _ (spliced (backTo _ (starEach [] _))) _ _ _); refine spliced_none ?_) | with_reducible refine wpAny_IfExp ?_) | (dsimp only; first | ((with_reducible show wpAny _ _ (execs (Stmt.Assign [Expr.Name _ _] _ _ :: _) _) _ _ _); refine rAs ?_) | with_reducible refine rRet ?_ | with_reducible refine rIf ?_ | with_reducible refine wpAny_BinOp ?_ | with_reducible refine rI ?_ | with_reducible refine rS ?_ | ((with_reducible show wpAny _ _ (eval (Expr.Name _ _) _) _ _ _); refine nL (by assumption) rfl ?_) | ((with_reducible show wpAny _ _ (storeName _ _ _) _ _ _); refine rSt (by assumption) ?_; intro _ _) | ((with_reducible show wpAny _ _ (isTrue (Expr.Compare _ [_] [_] _) _ _) _ _ _); refine wpAny_isTrue_Compare1 ?_) | with_reducible refine wpAny_truthy_bool ?_ | with_reducible refine rEq ?_ | ((with_reducible show wpAny _ _ (eval (Expr.Call _ _ [] _) _) _ _ _); refine Call_ ?_) | ((with_reducible show wpAny _ _ (spliced (backTo _ (starEach (_ :: _) _))) _ _ _); refine spliced_more ?_) | ((with_reducible show wpAny _ _ (spliced (backTo _ (starEach [] _))) _ _ _); refine spliced_none ?_) | with_reducible refine wpAny_IfExp ?_))
  refine rEqS ?_
  repeat (first | (first | ((with_reducible show wpAny _ _ (execs (Stmt.Assign [Expr.Name _ _] _ _ :: _) _) _ _ _); refine rAs ?_) | with_reducible refine rRet ?_ | with_reducible refine rIf ?_ | with_reducible refine wpAny_BinOp ?_ | with_reducible refine rI ?_ | with_reducible refine rS ?_ | ((with_reducible show wpAny _ _ (eval (Expr.Name _ _) _) _ _ _); refine nL (by assumption) rfl ?_) | ((with_reducible show wpAny _ _ (storeName _ _ _) _ _ _); refine rSt (by assumption) ?_; intro _ _) | ((with_reducible show wpAny _ _ (isTrue (Expr.Compare _ [_] [_] _) _ _) _ _ _); refine wpAny_isTrue_Compare1 ?_) | with_reducible refine wpAny_truthy_bool ?_ | with_reducible refine rEq ?_ | ((with_reducible show wpAny _ _ (eval (Expr.Call _ _ [] _) _) _ _ _); refine Call_ ?_) | ((with_reducible show wpAny _ _ (spliced (backTo _ (starEach (_ :: _) _))) _ _ _); refine spliced_more ?_) | ((with_reducible show wpAny _ _ (spliced (backTo _ (starEach [] _))) _ _ _); refine spliced_none ?_) | with_reducible refine wpAny_IfExp ?_) | (dsimp only; first | ((with_reducible show wpAny _ _ (execs (Stmt.Assign [Expr.Name _ _] _ _ :: _) _) _ _ _); refine rAs ?_) | with_reducible refine rRet ?_ | with_reducible refine rIf ?_ | with_reducible refine wpAny_BinOp ?_ | with_reducible refine rI ?_ | with_reducible refine rS ?_ | ((with_reducible show wpAny _ _ (eval (Expr.Name _ _) _) _ _ _); refine nL (by assumption) rfl ?_) | ((with_reducible show wpAny _ _ (storeName _ _ _) _ _ _); refine rSt (by assumption) ?_; intro _ _) | ((with_reducible show wpAny _ _ (isTrue (Expr.Compare _ [_] [_] _) _ _) _ _ _); refine wpAny_isTrue_Compare1 ?_) | with_reducible refine wpAny_truthy_bool ?_ | with_reducible refine rEq ?_ | ((with_reducible show wpAny _ _ (eval (Expr.Call _ _ [] _) _) _ _ _); refine Call_ ?_) | ((with_reducible show wpAny _ _ (spliced (backTo _ (starEach (_ :: _) _))) _ _ _); refine spliced_more ?_) | ((with_reducible show wpAny _ _ (spliced (backTo _ (starEach [] _))) _ _ _); refine spliced_none ?_) | with_reducible refine wpAny_IfExp ?_))
  have fin : ∀ h' tks, (∃ mm t1 t2 t3 t4 ln u1 u3, FS g0 hp [a.ldx, a.l] hp.objs.size h' mm [(a.l, LO r n'), (a.ldx, lexD w t1 t2 t3 t4 (.int ln u1) (.ref a.sx) (.str "\n\t\r " u3) a.pb)]) → R (.ok (.ret (.str sv tv))) ⟨h', gn, dr, tks, os⟩ := by
    rintro h' tks ⟨mm, t1, t2, t3, t4, ln, u1, u3, F'⟩
    exact h _ cs' h' tks hT F'.ok F'.kp (X.step k F'.kp ⟨_, _, _, _, _, _, _, F'.at 1 rfl⟩ ⟨_, _, F'.at 0 rfl, ca'⟩)
  by_cases hnl : (sv == "\n") = true
  · refine iteT hnl ?_
    have X4 : LX w g0 h4 a cs' := X.step k F4.kp ⟨_, _, _, _, _, _, _, F4.at 1 rfl⟩ ⟨_, _, F4.at 0 rfl, ca'⟩
    refine rAuA ?_
    refine nL F4 rfl ?_
    refine rGA G F4.ok X4.lx (F4.at 1 rfl) (fo_ln ..) rfl ?_
    repeat (first | (first | ((with_reducible show wpAny _ _ (execs (Stmt.Assign [Expr.Name _ _] _ _ :: _) _) _ _ _); refine rAs ?_) | with_reducible refine rRet ?_ | with_reducible refine rIf ?_ | with_reducible refine wpAny_BinOp ?_ | with_reducible refine rI ?_ | with_reducible refine rS ?_ | ((with_reducible show wpAny _ _ (eval (Expr.Name _ _) _) _ _ _); refine nL (by assumption) rfl ?_) | ((with_reducible show wpAny _ _ (storeName _ _ _) _ _ _); refine rSt (by assumption) ?_; intro _ _) | ((with_reducible show wpAny _ _ (isTrue (Expr.Compare _ [_] [_] _) _ _) _ _ _); refine wpAny_isTrue_Compare1 ?_) | with_reducible refine wpAny_truthy_bool ?_ | with_reducible refine rEq ?_ | ((with_reducible show wpAny _ _ (eval (Expr.Call _ _ [] _) _) _ _ _); refine Call_ ?_) | ((with_reducible show wpAny _ _ (spliced (backTo _ (starEach (_ :: _) _))) _ _ _); refine spliced_more ?_) | ((with_reducible show wpAny _ _ (spliced (backTo _ (starEach [] _))) _ _ _); refine spliced_none ?_) | with_reducible refine wpAny_IfExp ?_) | (dsimp only; first | ((with_reducible show wpAny _ _ (execs (Stmt.Assign [Expr.Name _ _] _ _ :: _) _) _ _ _); refine rAs ?_) | with_reducible refine rRet ?_ | with_reducible refine rIf ?_ | with_reducible refine wpAny_BinOp ?_ | with_reducible refine rI ?_ | with_reducible refine rS ?_ | ((with_reducible show wpAny _ _ (eval (Expr.Name _ _) _) _ _ _); refine nL (by assumption) rfl ?_) | ((with_reducible show wpAny _ _ (storeName _ _ _) _ _ _); refine rSt (by assumption) ?_; intro _ _) | ((with_reducible show wpAny _ _ (isTrue (Expr.Compare _ [_] [_] _) _ _) _ _ _); refine wpAny_isTrue_Compare1 ?_) | with_reducible refine wpAny_truthy_bool ?_ | with_reducible refine rEq ?_ | ((with_reducible show wpAny _ _ (eval (Expr.Call _ _ [] _) _) _ _ _); refine Call_ ?_) | ((with_reducible show wpAny _ _ (spliced (backTo _ (starEach (_ :: _) _))) _ _ _); refine spliced_more ?_) | ((with_reducible show wpAny _ _ (spliced (backTo _ (starEach [] _))) _ _ _); refine spliced_none ?_) | with_reducible refine wpAny_IfExp ?_))
    refine rIAdd ?_
    refine rSA (es := [aE w "lineno" t1 (.int (ln + 1) _), aE w "instream" t2 (.ref a.sx), aE w "whitespace" t3 (.str "\n\t\r " u3), aE w "pushback" t4 (.ref a.pb)]) G F4 1 rfl X4.lx (q_t1 w) (by rfl) (dict_nc rfl) rfl rfl (by simp) ?_
    intro h5 F5
    refine rNil ?_
    repeat (first | (first | ((with_reducible show wpAny _ _ (execs (Stmt.Assign [Expr.Name _ _] _ _ :: _) _) _ _ _); refine rAs ?_) | with_reducible refine rRet ?_ | with_reducible refine rIf ?_ | with_reducible refine wpAny_BinOp ?_ | with_reducible refine rI ?_ | with_reducible refine rS ?_ | ((with_reducible show wpAny _ _ (eval (Expr.Name _ _) _) _ _ _); refine nL (by assumption) rfl ?_) | ((with_reducible show wpAny _ _ (storeName _ _ _) _ _ _); refine rSt (by assumption) ?_; intro _ _) | ((with_reducible show wpAny _ _ (isTrue (Expr.Compare _ [_] [_] _) _ _) _ _ _); refine wpAny_isTrue_Compare1 ?_) | with_reducible refine wpAny_truthy_bool ?_ | with_reducible refine rEq ?_ | ((with_reducible show wpAny _ _ (eval (Expr.Call _ _ [] _) _) _ _ _); refine Call_ ?_) | ((with_reducible show wpAny _ _ (spliced (backTo _ (starEach (_ :: _) _))) _ _ _); refine spliced_more ?_) | ((with_reducible show wpAny _ _ (spliced (backTo _ (starEach [] _))) _ _ _); refine spliced_none ?_) | with_reducible refine wpAny_IfExp ?_) | (dsimp only; first | ((with_reducible show wpAny _ _ (execs (Stmt.Assign [Expr.Name _ _] _ _ :: _) _) _ _ _); refine rAs ?_) | with_reducible refine rRet ?_ | with_reducible refine rIf ?_ | with_reducible refine wpAny_BinOp ?_ | with_reducible refine rI ?_ | with_reducible refine rS ?_ | ((with_reducible show wpAny _ _ (eval (Expr.Name _ _) _) _ _ _); refine nL (by assumption) rfl ?_) | ((with_reducible show wpAny _ _ (storeName _ _ _) _ _ _); refine rSt (by assumption) ?_; intro _ _) | ((with_reducible show wpAny _ _ (isTrue (Expr.Compare _ [_] [_] _) _ _) _ _ _); refine wpAny_isTrue_Compare1 ?_) | with_reducible refine wpAny_truthy_bool ?_ | with_reducible refine rEq ?_ | ((with_reducible show wpAny _ _ (eval (Expr.Call _ _ [] _) _) _ _ _); refine Call_ ?_) | ((with_reducible show wpAny _ _ (spliced (backTo _ (starEach (_ :: _) _))) _ _ _); refine spliced_more ?_) | ((with_reducible show wpAny _ _ (spliced (backTo _ (starEach [] _))) _ _ _); refine spliced_none ?_) | with_reducible refine wpAny_IfExp ?_))
    exact fin _ _ ⟨_, _, _, _, _, _, _, _, F5⟩
  · refine iteF hnl ?_
    refine rNil ?_
    repeat (first | (first | ((with_reducible show wpAny _ _ (execs (Stmt.Assign [Expr.Name _ _] _ _ :: _) _) _ _ _); refine rAs ?_) | with_reducible refine rRet ?_ | with_reducible refine rIf ?_ | with_reducible refine wpAny_BinOp ?_ | with_reducible refine rI ?_ | with_reducible refine rS ?_ | ((with_reducible show wpAny _ _ (eval (Expr.Name _ _) _) _ _ _); refine nL (by assumption) rfl ?_) | ((with_reducible show wpAny _ _ (storeName _ _ _) _ _ _); refine rSt (by assumption) ?_; intro _ _) | ((with_reducible show wpAny _ _ (isTrue (Expr.Compare _ [_] [_] _) _ _) _ _ _); refine wpAny_isTrue_Compare1 ?_) | with_reducible refine wpAny_truthy_bool ?_ | with_reducible refine rEq ?_ | ((with_reducible show wpAny _ _ (eval (Expr.Call _ _ [] _) _) _ _ _); refine Call_ ?_) | ((with_reducible show wpAny _ _ (spliced (backTo _ (starEach (_ :: _) _))) _ _ _); refine spliced_more ?_) | ((with_reducible show wpAny _ _ (spliced (backTo _ (starEach [] _))) _ _ _); refine spliced_none ?_) | with_reducible refine wpAny_IfExp ?_) | (dsimp only; first | ((with_reducible show wpAny _ _ (execs (Stmt.Assign [Expr.Name _ _] _ _ :: _) _) _ _ _); refine rAs ?_) | with_reducible refine rRet ?_ | with_reducible refine rIf ?_ | with_reducible refine wpAny_BinOp ?_ | with_reducible refine rI ?_ | with_reducible refine rS ?_ | ((with_reducible show wpAny _ _ (eval (Expr.Name _ _) _) _ _ _); refine nL (by assumption) rfl ?_) | ((with_reducible show wpAny _ _ (storeName _ _ _) _ _ _); refine rSt (by assumption) ?_; intro _ _) | ((with_reducible show wpAny _ _ (isTrue (Expr.Compare _ [_] [_] _) _ _) _ _ _); refine wpAny_isTrue_Compare1 ?_) | with_reducible refine wpAny_truthy_bool ?_ | with_reducible refine rEq ?_ | ((with_reducible show wpAny _ _ (eval (Expr.Call _ _ [] _) _) _ _ _); refine Call_ ?_) | ((with_reducible show wpAny _ _ (spliced (backTo _ (starEach (_ :: _) _))) _ _ _); refine spliced_more ?_) | ((with_reducible show wpAny _ _ (spliced (backTo _ (starEach [] _))) _ _ _); refine spliced_none ?_) | with_reducible refine wpAny_IfExp ?_))
    exact fin _ _ ⟨_, _, _, _, _, _, _, _, F4⟩
end Mine

namespace Mine
abbrev tx (cs : List Nat) : Str := ⟨cs.toArray⟩
theorem tx_app (a : List Nat) (c : Nat) : tx a ++ chr c = tx (a ++ [c]) := by
  show Str.mk _ = _
  first | simp | rfl
def Ltr (c : Nat) : Prop := 65 ≤ c ∧ c ≤ 80
def Spc (c : Nat) : Prop := c = 10 ∨ c = 32
theorem ltr_ex {p : Nat → Bool} (h : ∀ d : Fin 16, p (65 + d.val) = true) {c : Nat} (hc : Ltr c) : p c = true := by
  have := h ⟨c - 65, by have := hc.1; have := hc.2; omega⟩
  have e : 65 + (c - 65) = c := by have := hc.1; omega
  simpa [e] using this
theorem l_ws {c : Nat} (hc : Ltr c) : (!(Builtin.Str.occurrences "\n\t\r " (chr c) 0 (Str.length "\n\t\r ") 1).isEmpty) = false := by
  have := ltr_ex (p := fun c => !(!(Builtin.Str.occurrences "\n\t\r " (chr c) 0 (Str.length "\n\t\r ") 1).isEmpty)) (by decide +kernel) hc
  simpa using this
theorem s_ws {c : Nat} (hc : Spc c) : (!(Builtin.Str.occurrences "\n\t\r " (chr c) 0 (Str.length "\n\t\r ") 1).isEmpty) = true := by
  rcases hc with rfl | rfl <;> decide +kernel
theorem l_dq {c : Nat} (hc : Ltr c) : (chr c == ("\"" : Str)) = false := by
  have := ltr_ex (p := fun c => !(chr c == ("\"" : Str))) (by decide +kernel) hc
  simpa using this
theorem l_bs {c : Nat} (hc : Ltr c) : (chr c == ("\\" : Str)) = false := by
  have := ltr_ex (p := fun c => !(chr c == ("\\" : Str))) (by decide +kernel) hc
  simpa using this
theorem chr_ne (c : Nat) : chr c ≠ "" := by
  intro h
  have := congrArg (fun s : Str => s.cps.size) h
  revert this
  simp
  first | decide | exact fun q => absurd q (by decide)
section
variable {w : World} {A : Around} {E : Value → Shared → Prop} {Q : Value → Shared → Prop} {t u : Tok} {hp h' : Heap} {gn : Array GenState} {dr : Drawn} {tk : Nat} {os : OsState} {pos : Pos} {k : Nat} {env : Env}
  {g0 g : Heap} {T : List Addr} {L : Addr} {m : Str → Option Value} {nw : List (Addr × Obj)} {mg mb : Str → Option Value}
theorem FS.callT (F : FS g0 g T L hp m nw) (k : OK g0 h') (K : Kp T hp h') (hT : ∀ t ∈ T, t < g.objs.size) (hn : ∀ p ∈ nw, p.1 ∉ T) : FS g0 g T L h' m nw := by
  have nt : ∀ a, g0.objs.size ≤ a → a ∉ tabs := fun a ha q => absurd (F.ok.lt a q) (Nat.not_lt.mpr ha)
  refine ⟨k, F.kp.trans K, F.g0g, ?_, F.le, fun p hp => K.kp _ _ (F.nws p hp) (nt _ (F.lo0 hp)) (hn p hp), F.lo, F.nd, F.nL⟩
  obtain ⟨oL, es, ep, eL, r⟩ := F.ns
  exact ⟨oL, es, ep, K.kp _ _ eL (nt _ (Nat.le_trans F.g0g F.le)) (fun q => absurd F.le (Nat.not_le.mpr (hT _ q))), r⟩
theorem rAuN {x : Str} {value : Expr} {pos' : Pos} {op : Operator} {rest : List Stmt} {Q : Flow → Shared → Prop}
    (h : wpAny (model PP w) A (loadName env x) (fun old s₁ => wpAny (model PP w) A (eval value env) (fun v s₂ => wpAny (model PP w) A (inplaceOp op old v)
      (fun r s₃ => wpAny (model PP w) A (storeName env x r) (fun _ s₄ => wpAny (model PP w) A (execs rest env) Q E s₄) E s₃) E s₂) E s₁) E ⟨hp, gn, dr, tk, os⟩) :
    wpAny (model PP w) A (execs (.AugAssign (.Name x pos') op value pos :: rest) env) Q E ⟨hp, gn, dr, tk, os⟩ := wpAny_execs_cons (wpAny_AugAssign_Name h)
theorem rIn {x y : Str} (h : Q (.bool !(Builtin.Str.occurrences x y 0 x.length 1).isEmpty) ⟨hp, gn, dr, tk, os⟩) : wpAny (model PP w) A (compareOp .In (.str y u) (.str x t)) Q E ⟨hp, gn, dr, tk, os⟩ := PyProof.Rows.in_str h
theorem rISt {x y : Str} (hsz : x.length + y.length ≤ 2 ^ 21) (h : ∀ t' tk', Q (.str (x ++ y) t') ⟨hp, gn, dr, tk', os⟩) : wpAny (model PP w) A (inplaceOp .Add (.str x t) (.str y u)) Q E ⟨hp, gn, dr, tk, os⟩ := PyProof.Rows.iadd_str h (by simp [sizeLine]; omega)
end
end Mine

namespace Mine
theorem FS.weakT {g0 g h : Heap} {L : Addr} {m : Str → Option Value} {nw : List (Addr × Obj)} (F : FS g0 g [] L h m nw) (T : List Addr) : FS g0 g T L h m nw :=
  ⟨F.ok, F.kp.weak (fun _ q => (nomatch q)), F.g0g, F.ns, F.le, F.nws, fun p hp => (F.lo p hp).imp id (fun q => (nomatch q.1)), F.nd, F.nL⟩
theorem c_gt {w : World} {mg mb : Str → Option Value} {g0 : Heap} (G : Gd w mg mb g0) {A : Around} {R : Result → Shared → Prop} {hp : Heap} {gn : Array GenState} {dr : Drawn} {tk0 : Nat} {os : OsState} (k : OK g0 hp) {a : LA} {wd rest : List Nat}
  (rm : Rm A 9) (X : LX w g0 hp a (wd ++ rest)) (hlen : (wd ++ rest).length ≤ 2 ^ 20) (hwd : ∀ c ∈ wd, Ltr c) (hrest : rest = [] ∨ (wd ≠ [] ∧ ∃ s r, rest = s :: r ∧ Spc s))
 (h : ∀ t h' tks, OK g0 h' → Kp [a.ldx, a.l] hp h' → LX w g0 h' a rest.tail → R (.ok (.ret (.str (tx wd) t))) ⟨h', gn, dr, tks, os⟩) :
  codeAny (model PP w) A (.call (.ref aGT) ⟨[.ref a.lx], []⟩) R ⟨hp, gn, dr, tk0, os⟩ := by
  refine ent (T := []) (n := 8) (binds := [("self", .ref a.lx)]) G k rm (k.at0 G rfl) rfl (k.code G rfl) rfl rfl rfl rfl rfl rfl rfl ?_
  intro h1 tk1 F rm1 kk
  have X1 : LX w g0 h1 a (wd ++ rest) := X.keep k ⟨F.gsz, fun b o e _ _ => kk b o e⟩
  have hT : ∀ t ∈ [a.ldx, a.l], t < hp.objs.size := by
    intro t ht
    obtain ⟨_, _, _, _, _, _, _, e⟩ := X.ldx
    obtain ⟨_, _, e2, _⟩ := X.l
    rcases List.mem_cons.mp ht with rfl | ht
    · exact Heap.lt_size e
    · cases List.mem_singleton.mp ht
      exact Heap.lt_size e2
  obtain ⟨t1, t2, t3, t4, ln, u1, u3, ed⟩ := X1.ldx
  refine rIf ?_
  refine isTrue_plain ?_
  refine rAt ?_
  refine nL F rfl ?_
  refine rGA G F.ok X1.lx ed (fo_pb ..) rfl ?_
  refine wpAny_truthy_list (LO.is X1.pb) (by simp) ?_
  refine iteF (by simp) ?_
  refine rNil ?_
  repeat (first | (first | ((with_reducible show wpAny _ _ (execs (Stmt.Assign [Expr.Name _ _] _ _ :: _) _) _ _ _); refine rAs ?_) | with_reducible refine rRet ?_ | with_reducible refine rIf ?_ | with_reducible refine wpAny_BinOp ?_ | with_reducible refine rI ?_ | with_reducible refine rS ?_ | ((with_reducible show wpAny _ _ (eval (Expr.Name _ _) _) _ _ _); refine nL (by assumption) rfl ?_) | ((with_reducible show wpAny _ _ (storeName _ _ _) _ _ _); refine rSt (by assumption) ?_; intro _ _) | ((with_reducible show wpAny _ _ (isTrue (Expr.Compare _ [_] [_] _) _ _) _ _ _); refine wpAny_isTrue_Compare1 ?_) | with_reducible refine wpAny_truthy_bool ?_ | with_reducible refine rEq ?_ | ((with_reducible show wpAny _ _ (eval (Expr.Call _ _ [] _) _) _ _ _); refine Call_ ?_) | ((with_reducible show wpAny _ _ (spliced (backTo _ (starEach (_ :: _) _))) _ _ _); refine spliced_more ?_) | ((with_reducible show wpAny _ _ (spliced (backTo _ (starEach [] _))) _ _ _); refine spliced_none ?_) | with_reducible refine wpAny_IfExp ?_) | (dsimp only; first | ((with_reducible show wpAny _ _ (execs (Stmt.Assign [Expr.Name _ _] _ _ :: _) _) _ _ _); refine rAs ?_) | with_reducible refine rRet ?_ | with_reducible refine rIf ?_ | with_reducible refine wpAny_BinOp ?_ | with_reducible refine rI ?_ | with_reducible refine rS ?_ | ((with_reducible show wpAny _ _ (eval (Expr.Name _ _) _) _ _ _); refine nL (by assumption) rfl ?_) | ((with_reducible show wpAny _ _ (storeName _ _ _) _ _ _); refine rSt (by assumption) ?_; intro _ _) | ((with_reducible show wpAny _ _ (isTrue (Expr.Compare _ [_] [_] _) _ _) _ _ _); refine wpAny_isTrue_Compare1 ?_) | with_reducible refine wpAny_truthy_bool ?_ | with_reducible refine rEq ?_ | ((with_reducible show wpAny _ _ (eval (Expr.Call _ _ [] _) _) _ _ _); refine Call_ ?_) | ((with_reducible show wpAny _ _ (spliced (backTo _ (starEach (_ :: _) _))) _ _ _); refine spliced_more ?_) | ((with_reducible show wpAny _ _ (spliced (backTo _ (starEach [] _))) _ _ _); refine spliced_none ?_) | with_reducible refine wpAny_IfExp ?_))
  rename_i h2 F2
  have X2 : LX w g0 h2 a (wd ++ rest) := X.keep k F2.kp
  obtain ⟨t1, t2, t3, t4, ln, u1, u3, ed⟩ := X2.ldx
  refine nB G F2 rfl rfl ?_
  refine rCB ?_
  refine spliced_more ?_
  refine rAt ?_
  refine nL F2 rfl ?_
  refine rGB G F2.ok X2.lx ed (fo_rc ..) (q_rcf w) ?_
  intro tk3
  have F3 := F2.psh (methodObj (.ref aRC) (.ref a.lx))
  generalize hb : h2.objs.size = b at *
  repeat (first | (first | ((with_reducible show wpAny _ _ (execs (Stmt.Assign [Expr.Name _ _] _ _ :: _) _) _ _ _); refine rAs ?_) | with_reducible refine rRet ?_ | with_reducible refine rIf ?_ | with_reducible refine wpAny_BinOp ?_ | with_reducible refine rI ?_ | with_reducible refine rS ?_ | ((with_reducible show wpAny _ _ (eval (Expr.Name _ _) _) _ _ _); refine nL (by assumption) rfl ?_) | ((with_reducible show wpAny _ _ (storeName _ _ _) _ _ _); refine rSt (by assumption) ?_; intro _ _) | ((with_reducible show wpAny _ _ (isTrue (Expr.Compare _ [_] [_] _) _ _) _ _ _); refine wpAny_isTrue_Compare1 ?_) | with_reducible refine wpAny_truthy_bool ?_ | with_reducible refine rEq ?_ | ((with_reducible show wpAny _ _ (eval (Expr.Call _ _ [] _) _) _ _ _); refine Call_ ?_) | ((with_reducible show wpAny _ _ (spliced (backTo _ (starEach (_ :: _) _))) _ _ _); refine spliced_more ?_) | ((with_reducible show wpAny _ _ (spliced (backTo _ (starEach [] _))) _ _ _); refine spliced_none ?_) | with_reducible refine wpAny_IfExp ?_) | (dsimp only; first | ((with_reducible show wpAny _ _ (execs (Stmt.Assign [Expr.Name _ _] _ _ :: _) _) _ _ _); refine rAs ?_) | with_reducible refine rRet ?_ | with_reducible refine rIf ?_ | with_reducible refine wpAny_BinOp ?_ | with_reducible refine rI ?_ | with_reducible refine rS ?_ | ((with_reducible show wpAny _ _ (eval (Expr.Name _ _) _) _ _ _); refine nL (by assumption) rfl ?_) | ((with_reducible show wpAny _ _ (storeName _ _ _) _ _ _); refine rSt (by assumption) ?_; intro _ _) | ((with_reducible show wpAny _ _ (isTrue (Expr.Compare _ [_] [_] _) _ _) _ _ _); refine wpAny_isTrue_Compare1 ?_) | with_reducible refine wpAny_truthy_bool ?_ | with_reducible refine rEq ?_ | ((with_reducible show wpAny _ _ (eval (Expr.Call _ _ [] _) _) _ _ _); refine Call_ ?_) | ((with_reducible show wpAny _ _ (spliced (backTo _ (starEach (_ :: _) _))) _ _ _); refine spliced_more ?_) | ((with_reducible show wpAny _ _ (spliced (backTo _ (starEach [] _))) _ _ _); refine spliced_none ?_) | with_reducible refine wpAny_IfExp ?_))
  refine rIter2 (F3.at 0 rfl) ?_
  have F4 := F3.psh (CIt b tk3)
  generalize hit : (h2.push (methodObj (.ref aRC) (.ref a.lx))).objs.size = it at *
  repeat (first | (first | ((with_reducible show wpAny _ _ (execs (Stmt.Assign [Expr.Name _ _] _ _ :: _) _) _ _ _); refine rAs ?_) | with_reducible refine rRet ?_ | with_reducible refine rIf ?_ | with_reducible refine wpAny_BinOp ?_ | with_reducible refine rI ?_ | with_reducible refine rS ?_ | ((with_reducible show wpAny _ _ (eval (Expr.Name _ _) _) _ _ _); refine nL (by assumption) rfl ?_) | ((with_reducible show wpAny _ _ (storeName _ _ _) _ _ _); refine rSt (by assumption) ?_; intro _ _) | ((with_reducible show wpAny _ _ (isTrue (Expr.Compare _ [_] [_] _) _ _) _ _ _); refine wpAny_isTrue_Compare1 ?_) | with_reducible refine wpAny_truthy_bool ?_ | with_reducible refine rEq ?_ | ((with_reducible show wpAny _ _ (eval (Expr.Call _ _ [] _) _) _ _ _); refine Call_ ?_) | ((with_reducible show wpAny _ _ (spliced (backTo _ (starEach (_ :: _) _))) _ _ _); refine spliced_more ?_) | ((with_reducible show wpAny _ _ (spliced (backTo _ (starEach [] _))) _ _ _); refine spliced_none ?_) | with_reducible refine wpAny_IfExp ?_) | (dsimp only; first | ((with_reducible show wpAny _ _ (execs (Stmt.Assign [Expr.Name _ _] _ _ :: _) _) _ _ _); refine rAs ?_) | with_reducible refine rRet ?_ | with_reducible refine rIf ?_ | with_reducible refine wpAny_BinOp ?_ | with_reducible refine rI ?_ | with_reducible refine rS ?_ | ((with_reducible show wpAny _ _ (eval (Expr.Name _ _) _) _ _ _); refine nL (by assumption) rfl ?_) | ((with_reducible show wpAny _ _ (storeName _ _ _) _ _ _); refine rSt (by assumption) ?_; intro _ _) | ((with_reducible show wpAny _ _ (isTrue (Expr.Compare _ [_] [_] _) _ _) _ _ _); refine wpAny_isTrue_Compare1 ?_) | with_reducible refine wpAny_truthy_bool ?_ | with_reducible refine rEq ?_ | ((with_reducible show wpAny _ _ (eval (Expr.Call _ _ [] _) _) _ _ _); refine Call_ ?_) | ((with_reducible show wpAny _ _ (spliced (backTo _ (starEach (_ :: _) _))) _ _ _); refine spliced_more ?_) | ((with_reducible show wpAny _ _ (spliced (backTo _ (starEach [] _))) _ _ _); refine spliced_none ?_) | with_reducible refine wpAny_IfExp ?_))
  rename_i h5 F5
  refine rForL ?_
  refine nL F5 rfl ?_
  refine rIterCI (F5.at 0 rfl) ?_
  have X5 : LX w g0 h5 a (wd ++ rest) := X.keep k F5.kp
  have F5' := F5.weakT [a.ldx, a.l]
  have hnT : ∀ p ∈ [(it, CIt b tk3), (b, methodObj (.ref aRC) (.ref a.lx))], p.1 ∉ [a.ldx, a.l] := by
    intro p hp' q
    have h1 := hT _ q
    have h2 : hp.objs.size ≤ p.1 := by
      rcases List.mem_cons.mp hp' with rfl | hp'
      · have : h2.objs.size ≤ it := by rw [← hit, Heap.size_push]; (clear hlen hrest hb hit h1; omega)
        exact Nat.le_trans F2.gsz this
      · cases List.mem_singleton.mp hp'
        exact hb ▸ F2.gsz
    exact absurd h1 (Nat.not_lt.mpr h2)
  have hitlo : hp.objs.size ≤ it := by
    have : h2.objs.size ≤ it := by rw [← hit, Heap.size_push]; (clear hlen hrest hb hit; omega)
    exact Nat.le_trans F2.gsz this
  have hbit : @Ne Nat b it := by
    have : it = h2.objs.size + 1 := by rw [← hit, Heap.size_push]
    have e2 : b = h2.objs.size := hb.symm
    (clear hlen hrest hit hitlo e2; omega)
  -- one turn of the iterator
  have turn : ∀ {A' : Around} {E' : Value → Shared → Prop} {Q' : Option Value → Shared → Prop} {h' : Heap} {mm : Str → Option Value} {tk' : Nat} {cs : List Nat}, Rm A' 7 → FS g0 hp [a.ldx, a.l] hp.objs.size h' mm [(it, CIt b tk3), (b, methodObj (.ref aRC) (.ref a.lx))] →
      LX w g0 h' a cs → cs.length ≤ 2 ^ 20 →
      (∀ h2 tk2, cs = [] → FS g0 hp [a.ldx, a.l] hp.objs.size h2 mm [(it, CEnd), (b, methodObj (.ref aRC) (.ref a.lx))] → LX w g0 h2 a [] → Q' none ⟨h2, gn, dr, tk2, os⟩) →
      (∀ h2 tk2 c r t, cs = c :: r → FS g0 hp [a.ldx, a.l] hp.objs.size h2 mm [(it, CIt b tk3), (b, methodObj (.ref aRC) (.ref a.lx))] → LX w g0 h2 a r → Q' (some (.str (chr c) t)) ⟨h2, gn, dr, tk2, os⟩) →
      wpAny (model PP w) A' (pyNext (.ref it)) Q' E' ⟨h', gn, dr, tk', os⟩ := by
    intro A' E' Q' h' mm tk' cs rm' F' X' hl' q1 q2
    refine rNextCI rm'.hd (F'.at 0 rfl) (F'.at 1 rfl) (F'.ok.at0 G rfl) rfl ?_
    refine c_rc G F'.ok (rm'.in1.le (by decide)) X' hl' ?_
    intro v cs' h2 tks hTk k2 K2 X2
    have F2 := F'.callT k2 K2 hT hnT
    rcases hTk with ⟨rfl, rfl, t, rfl⟩ | ⟨c, t, rfl, rfl⟩
    · refine ⟨_, _, rfl, F2.at 0 rfl, F2.at 1 rfl, F2.ok.at0 G rfl, ?_⟩
      rw [if_pos rfl]
      intro h3 E3 e3
      have F3 := (F2.dropX (fun vs q t z e => by cases z; cases e; rfl) E3).add e3 (by have := F2.lo _ (.head _); exact hitlo) (fun p hp' => by cases List.mem_singleton.mp hp'; exact hbit) (F2.nL _ (.head _))
      have nit : ∀ t ∈ [a.ldx, a.l], @Ne Nat t it := fun t q => Nat.ne_of_lt (Nat.lt_of_lt_of_le (hT t q) hitlo)
      refine q1 _ _ rfl F3 (X.step k F3.kp ?_ ?_)
      · obtain ⟨t1, t2, t3, t4, ln, u1, u3, e⟩ := X2.ldx
        exact ⟨t1, t2, t3, t4, ln, u1, u3, E3 _ _ (nit _ (by simp)) e⟩
      · obtain ⟨vs, n, e, c⟩ := X2.l
        exact ⟨vs, n, E3 _ _ (nit _ (by simp)) e, c⟩
    · refine ⟨_, _, rfl, F2.at 0 rfl, F2.at 1 rfl, F2.ok.at0 G rfl, ?_⟩
      rw [if_neg (chr_ne c)]
      exact q2 _ _ _ _ _ rfl F2 X2
  have xs : ∀ {h2 h3 : Heap} {cs : List Nat}, LX w g0 h2 a cs → Heap.SameBut hp.objs.size h2 h3 → Kp [a.ldx, a.l] hp h3 → LX w g0 h3 a cs := by
    intro h2 h3 cs Y S K
    have nit : ∀ t ∈ [a.ldx, a.l], @Ne Nat t hp.objs.size := fun t q => Nat.ne_of_lt (hT t q)
    refine X.step k K ?_ ?_
    · obtain ⟨t1, t2, t3, t4, ln, u1, u3, e⟩ := Y.ldx
      exact ⟨t1, t2, t3, t4, ln, u1, u3, (S.2 _ (nit _ (by simp))).trans e⟩
    · obtain ⟨vs, n, e, c⟩ := Y.l
      exact ⟨vs, n, (S.2 _ (nit _ (by simp))).trans e, c⟩
  refine rLoop (fun i s => ∃ h' tk' mm tt, FS g0 hp [a.ldx, a.l] hp.objs.size h' mm [(it, if i = 2 then CIt b tk3 else CEnd), (b, methodObj (.ref aRC) (.ref a.lx))] ∧ s = ⟨h', gn, dr, tk', os⟩ ∧ mm "self" = some (.ref a.lx) ∧ mm "fiter" = some (.ref it) ∧
    ((i = 2 ∧ mm "token" = some (.str "" tt) ∧ LX w g0 h' a (wd ++ rest)) ∨ (i = 1 ∧ rest = [] ∧ mm "token" = some (.str (tx wd) tt) ∧ LX w g0 h' a []))) ?_ 2 ?_
  · rintro J hJ i s ⟨h', tk', mm, tt, F', rfl, ms, mf, hc⟩
    rcases hc with ⟨rfl, mt, X'⟩ | ⟨rfl, hr, mt, X'⟩
    · refine turn (rm1.le (by decide)) F' X' hlen ?_ ?_
      · intro h2 tk2 hcs F2 Y2
        dsimp only
        obtain ⟨rfl, rfl⟩ := List.append_eq_nil_iff.mp hcs
        refine rRet ?_
        refine nL F2 mt ?_
        have q := fun tks => h tt h2 tks F2.ok F2.kp Y2
        exact q _
      · intro h2 tk2 c r t hcs F2 Y2
        dsimp only
        refine rStS F2 ?_
        intro h3 S3 F3
        have X3 : LX w g0 h3 a r := xs Y2 S3 F3.kp
        cases wd with
        | nil =>
          rcases hrest with rfl | ⟨q, _⟩
          · cases hcs
          · exact absurd rfl q
        | cons c' wd' =>
          cases hcs
          have hc := hwd c (.head _)
          refine rIf ?_
          refine wpAny_isTrue_Compare1 ?_
          refine nL F3 rfl ?_
          refine rAt ?_
          refine nL F3 ms ?_
          obtain ⟨t1, t2, t3, t4, ln, u1, u3, ed⟩ := X3.ldx
          refine rGA G F3.ok X3.lx ed (fo_ws ..) rfl ?_
          refine rIn ?_
          rw [l_ws hc]
          repeat (first | (first | ((with_reducible show wpAny _ _ (execs (Stmt.Assign [Expr.Name _ _] _ _ :: _) _) _ _ _); refine rAs ?_) | with_reducible refine rRet ?_ | with_reducible refine rIf ?_ | with_reducible refine wpAny_BinOp ?_ | with_reducible refine rI ?_ | with_reducible refine rS ?_ | ((with_reducible show wpAny _ _ (eval (Expr.Name _ _) _) _ _ _); refine nL (by assumption) rfl ?_) | ((with_reducible show wpAny _ _ (storeName _ _ _) _ _ _); refine rSt (by assumption) ?_; intro _ _) | ((with_reducible show wpAny _ _ (isTrue (Expr.Compare _ [_] [_] _) _ _) _ _ _); refine wpAny_isTrue_Compare1 ?_) | with_reducible refine wpAny_truthy_bool ?_ | with_reducible refine rEq ?_ | ((with_reducible show wpAny _ _ (eval (Expr.Call _ _ [] _) _) _ _ _); refine Call_ ?_) | ((with_reducible show wpAny _ _ (spliced (backTo _ (starEach (_ :: _) _))) _ _ _); refine spliced_more ?_) | ((with_reducible show wpAny _ _ (spliced (backTo _ (starEach [] _))) _ _ _); refine spliced_none ?_) | with_reducible refine wpAny_IfExp ?_) | (dsimp only; first | ((with_reducible show wpAny _ _ (execs (Stmt.Assign [Expr.Name _ _] _ _ :: _) _) _ _ _); refine rAs ?_) | with_reducible refine rRet ?_ | with_reducible refine rIf ?_ | with_reducible refine wpAny_BinOp ?_ | with_reducible refine rI ?_ | with_reducible refine rS ?_ | ((with_reducible show wpAny _ _ (eval (Expr.Name _ _) _) _ _ _); refine nL (by assumption) rfl ?_) | ((with_reducible show wpAny _ _ (storeName _ _ _) _ _ _); refine rSt (by assumption) ?_; intro _ _) | ((with_reducible show wpAny _ _ (isTrue (Expr.Compare _ [_] [_] _) _ _) _ _ _); refine wpAny_isTrue_Compare1 ?_) | with_reducible refine wpAny_truthy_bool ?_ | with_reducible refine rEq ?_ | ((with_reducible show wpAny _ _ (eval (Expr.Call _ _ [] _) _) _ _ _); refine Call_ ?_) | ((with_reducible show wpAny _ _ (spliced (backTo _ (starEach (_ :: _) _))) _ _ _); refine spliced_more ?_) | ((with_reducible show wpAny _ _ (spliced (backTo _ (starEach [] _))) _ _ _); refine spliced_none ?_) | with_reducible refine wpAny_IfExp ?_))
          refine iteF (by decide) ?_
          refine rNil ?_
          repeat (first | (first | ((with_reducible show wpAny _ _ (execs (Stmt.Assign [Expr.Name _ _] _ _ :: _) _) _ _ _); refine rAs ?_) | with_reducible refine rRet ?_ | with_reducible refine rIf ?_ | with_reducible refine wpAny_BinOp ?_ | with_reducible refine rI ?_ | with_reducible refine rS ?_ | ((with_reducible show wpAny _ _ (eval (Expr.Name _ _) _) _ _ _); refine nL (by assumption) rfl ?_) | ((with_reducible show wpAny _ _ (storeName _ _ _) _ _ _); refine rSt (by assumption) ?_; intro _ _) | ((with_reducible show wpAny _ _ (isTrue (Expr.Compare _ [_] [_] _) _ _) _ _ _); refine wpAny_isTrue_Compare1 ?_) | with_reducible refine wpAny_truthy_bool ?_ | with_reducible refine rEq ?_ | ((with_reducible show wpAny _ _ (eval (Expr.Call _ _ [] _) _) _ _ _); refine Call_ ?_) | ((with_reducible show wpAny _ _ (spliced (backTo _ (starEach (_ :: _) _))) _ _ _); refine spliced_more ?_) | ((with_reducible show wpAny _ _ (spliced (backTo _ (starEach [] _))) _ _ _); refine spliced_none ?_) | with_reducible refine wpAny_IfExp ?_) | (dsimp only; first | ((with_reducible show wpAny _ _ (execs (Stmt.Assign [Expr.Name _ _] _ _ :: _) _) _ _ _); refine rAs ?_) | with_reducible refine rRet ?_ | with_reducible refine rIf ?_ | with_reducible refine wpAny_BinOp ?_ | with_reducible refine rI ?_ | with_reducible refine rS ?_ | ((with_reducible show wpAny _ _ (eval (Expr.Name _ _) _) _ _ _); refine nL (by assumption) rfl ?_) | ((with_reducible show wpAny _ _ (storeName _ _ _) _ _ _); refine rSt (by assumption) ?_; intro _ _) | ((with_reducible show wpAny _ _ (isTrue (Expr.Compare _ [_] [_] _) _ _) _ _ _); refine wpAny_isTrue_Compare1 ?_) | with_reducible refine wpAny_truthy_bool ?_ | with_reducible refine rEq ?_ | ((with_reducible show wpAny _ _ (eval (Expr.Call _ _ [] _) _) _ _ _); refine Call_ ?_) | ((with_reducible show wpAny _ _ (spliced (backTo _ (starEach (_ :: _) _))) _ _ _); refine spliced_more ?_) | ((with_reducible show wpAny _ _ (spliced (backTo _ (starEach [] _))) _ _ _); refine spliced_none ?_) | with_reducible refine wpAny_IfExp ?_))
          refine rEqS ?_
          rw [l_dq hc]
          repeat (first | (first | ((with_reducible show wpAny _ _ (execs (Stmt.Assign [Expr.Name _ _] _ _ :: _) _) _ _ _); refine rAs ?_) | with_reducible refine rRet ?_ | with_reducible refine rIf ?_ | with_reducible refine wpAny_BinOp ?_ | with_reducible refine rI ?_ | with_reducible refine rS ?_ | ((with_reducible show wpAny _ _ (eval (Expr.Name _ _) _) _ _ _); refine nL (by assumption) rfl ?_) | ((with_reducible show wpAny _ _ (storeName _ _ _) _ _ _); refine rSt (by assumption) ?_; intro _ _) | ((with_reducible show wpAny _ _ (isTrue (Expr.Compare _ [_] [_] _) _ _) _ _ _); refine wpAny_isTrue_Compare1 ?_) | with_reducible refine wpAny_truthy_bool ?_ | with_reducible refine rEq ?_ | ((with_reducible show wpAny _ _ (eval (Expr.Call _ _ [] _) _) _ _ _); refine Call_ ?_) | ((with_reducible show wpAny _ _ (spliced (backTo _ (starEach (_ :: _) _))) _ _ _); refine spliced_more ?_) | ((with_reducible show wpAny _ _ (spliced (backTo _ (starEach [] _))) _ _ _); refine spliced_none ?_) | with_reducible refine wpAny_IfExp ?_) | (dsimp only; first | ((with_reducible show wpAny _ _ (execs (Stmt.Assign [Expr.Name _ _] _ _ :: _) _) _ _ _); refine rAs ?_) | with_reducible refine rRet ?_ | with_reducible refine rIf ?_ | with_reducible refine wpAny_BinOp ?_ | with_reducible refine rI ?_ | with_reducible refine rS ?_ | ((with_reducible show wpAny _ _ (eval (Expr.Name _ _) _) _ _ _); refine nL (by assumption) rfl ?_) | ((with_reducible show wpAny _ _ (storeName _ _ _) _ _ _); refine rSt (by assumption) ?_; intro _ _) | ((with_reducible show wpAny _ _ (isTrue (Expr.Compare _ [_] [_] _) _ _) _ _ _); refine wpAny_isTrue_Compare1 ?_) | with_reducible refine wpAny_truthy_bool ?_ | with_reducible refine rEq ?_ | ((with_reducible show wpAny _ _ (eval (Expr.Call _ _ [] _) _) _ _ _); refine Call_ ?_) | ((with_reducible show wpAny _ _ (spliced (backTo _ (starEach (_ :: _) _))) _ _ _); refine spliced_more ?_) | ((with_reducible show wpAny _ _ (spliced (backTo _ (starEach [] _))) _ _ _); refine spliced_none ?_) | with_reducible refine wpAny_IfExp ?_))
          refine iteF (by decide) ?_
          repeat (first | (first | ((with_reducible show wpAny _ _ (execs (Stmt.Assign [Expr.Name _ _] _ _ :: _) _) _ _ _); refine rAs ?_) | with_reducible refine rRet ?_ | with_reducible refine rIf ?_ | with_reducible refine wpAny_BinOp ?_ | with_reducible refine rI ?_ | with_reducible refine rS ?_ | ((with_reducible show wpAny _ _ (eval (Expr.Name _ _) _) _ _ _); refine nL (by assumption) rfl ?_) | ((with_reducible show wpAny _ _ (storeName _ _ _) _ _ _); refine rSt (by assumption) ?_; intro _ _) | ((with_reducible show wpAny _ _ (isTrue (Expr.Compare _ [_] [_] _) _ _) _ _ _); refine wpAny_isTrue_Compare1 ?_) | with_reducible refine wpAny_truthy_bool ?_ | with_reducible refine rEq ?_ | ((with_reducible show wpAny _ _ (eval (Expr.Call _ _ [] _) _) _ _ _); refine Call_ ?_) | ((with_reducible show wpAny _ _ (spliced (backTo _ (starEach (_ :: _) _))) _ _ _); refine spliced_more ?_) | ((with_reducible show wpAny _ _ (spliced (backTo _ (starEach [] _))) _ _ _); refine spliced_none ?_) | with_reducible refine wpAny_IfExp ?_) | (dsimp only; first | ((with_reducible show wpAny _ _ (execs (Stmt.Assign [Expr.Name _ _] _ _ :: _) _) _ _ _); refine rAs ?_) | with_reducible refine rRet ?_ | with_reducible refine rIf ?_ | with_reducible refine wpAny_BinOp ?_ | with_reducible refine rI ?_ | with_reducible refine rS ?_ | ((with_reducible show wpAny _ _ (eval (Expr.Name _ _) _) _ _ _); refine nL (by assumption) rfl ?_) | ((with_reducible show wpAny _ _ (storeName _ _ _) _ _ _); refine rSt (by assumption) ?_; intro _ _) | ((with_reducible show wpAny _ _ (isTrue (Expr.Compare _ [_] [_] _) _ _) _ _ _); refine wpAny_isTrue_Compare1 ?_) | with_reducible refine wpAny_truthy_bool ?_ | with_reducible refine rEq ?_ | ((with_reducible show wpAny _ _ (eval (Expr.Call _ _ [] _) _) _ _ _); refine Call_ ?_) | ((with_reducible show wpAny _ _ (spliced (backTo _ (starEach (_ :: _) _))) _ _ _); refine spliced_more ?_) | ((with_reducible show wpAny _ _ (spliced (backTo _ (starEach [] _))) _ _ _); refine spliced_none ?_) | with_reducible refine wpAny_IfExp ?_))
          refine rEqS ?_
          rw [l_bs hc]
          repeat (first | (first | ((with_reducible show wpAny _ _ (execs (Stmt.Assign [Expr.Name _ _] _ _ :: _) _) _ _ _); refine rAs ?_) | with_reducible refine rRet ?_ | with_reducible refine rIf ?_ | with_reducible refine wpAny_BinOp ?_ | with_reducible refine rI ?_ | with_reducible refine rS ?_ | ((with_reducible show wpAny _ _ (eval (Expr.Name _ _) _) _ _ _); refine nL (by assumption) rfl ?_) | ((with_reducible show wpAny _ _ (storeName _ _ _) _ _ _); refine rSt (by assumption) ?_; intro _ _) | ((with_reducible show wpAny _ _ (isTrue (Expr.Compare _ [_] [_] _) _ _) _ _ _); refine wpAny_isTrue_Compare1 ?_) | with_reducible refine wpAny_truthy_bool ?_ | with_reducible refine rEq ?_ | ((with_reducible show wpAny _ _ (eval (Expr.Call _ _ [] _) _) _ _ _); refine Call_ ?_) | ((with_reducible show wpAny _ _ (spliced (backTo _ (starEach (_ :: _) _))) _ _ _); refine spliced_more ?_) | ((with_reducible show wpAny _ _ (spliced (backTo _ (starEach [] _))) _ _ _); refine spliced_none ?_) | with_reducible refine wpAny_IfExp ?_) | (dsimp only; first | ((with_reducible show wpAny _ _ (execs (Stmt.Assign [Expr.Name _ _] _ _ :: _) _) _ _ _); refine rAs ?_) | with_reducible refine rRet ?_ | with_reducible refine rIf ?_ | with_reducible refine wpAny_BinOp ?_ | with_reducible refine rI ?_ | with_reducible refine rS ?_ | ((with_reducible show wpAny _ _ (eval (Expr.Name _ _) _) _ _ _); refine nL (by assumption) rfl ?_) | ((with_reducible show wpAny _ _ (storeName _ _ _) _ _ _); refine rSt (by assumption) ?_; intro _ _) | ((with_reducible show wpAny _ _ (isTrue (Expr.Compare _ [_] [_] _) _ _) _ _ _); refine wpAny_isTrue_Compare1 ?_) | with_reducible refine wpAny_truthy_bool ?_ | with_reducible refine rEq ?_ | ((with_reducible show wpAny _ _ (eval (Expr.Call _ _ [] _) _) _ _ _); refine Call_ ?_) | ((with_reducible show wpAny _ _ (spliced (backTo _ (starEach (_ :: _) _))) _ _ _); refine spliced_more ?_) | ((with_reducible show wpAny _ _ (spliced (backTo _ (starEach [] _))) _ _ _); refine spliced_none ?_) | with_reducible refine wpAny_IfExp ?_))
          refine iteF (by decide) ?_
          refine rNil ?_
          refine rAuN ?_
          refine nl F3 mt ?_
          refine nL F3 rfl ?_
          refine rISt (by show Str.length "" + 1 ≤ _; decide) ?_
          intro t4 tk4
          refine rStS F3 ?_
          intro h5 S5 F5
          have X5 : LX w g0 h5 a (wd' ++ rest) := xs X3 S5 F5.kp
          refine rForL ?_
          refine nL F5 mf ?_
          refine rIterCI (F5.at 0 rfl) ?_
          refine rLoop (fun i s => ∃ w1 w2 h' tk' mm tt, FS g0 hp [a.ldx, a.l] hp.objs.size h' mm [(it, CIt b tk3), (b, methodObj (.ref aRC) (.ref a.lx))] ∧ s = ⟨h', gn, dr, tk', os⟩ ∧ mm "self" = some (.ref a.lx) ∧ mm "fiter" = some (.ref it) ∧
            i = w2.length ∧ c :: wd' = w1 ++ w2 ∧ mm "token" = some (.str (tx w1) tt) ∧ LX w g0 h' a (w2 ++ rest)) ?_ wd'.length ?_
          · rintro J2 hJ2 i s ⟨w1, w2, h', tk', mm, tt, F', rfl, ms, mf, rfl, hw, mt, X'⟩
            have hl2 : (w2 ++ rest).length ≤ 2 ^ 20 := by
              have e1 : (w1 ++ w2).length = (c :: wd').length := by rw [hw]
              have e2 := hlen
              rw [List.length_append] at e1 e2 ⊢
              (clear hb hit hitlo hbit hlen hrest; omega)
            have hl1 : w1.length ≤ 2 ^ 20 := by
              have e1 : (w1 ++ w2).length = (c :: wd').length := by rw [hw]
              have e2 := hlen
              rw [List.length_append] at e1 e2
              (clear hb hit hitlo hbit hlen hrest hl2; omega)
            refine turn (rm1.le (by decide)) F' X' hl2 ?_ ?_
            · intro j2 tk2 hcs V2 Z2
              dsimp only
              obtain ⟨rfl, rfl⟩ := List.append_eq_nil_iff.mp hcs
              refine rNil ?_
              refine rNil ?_
              refine ⟨1, by decide, hJ _ _ ⟨j2, tk2, mm, tt, V2, rfl, ms, mf, .inr ⟨rfl, rfl, ?_, Z2⟩⟩⟩
              rw [hw, List.append_nil]
              exact mt
            · intro j2 tk2 c2 r t2 hcs V2 Z2
              dsimp only
              refine rStS V2 ?_
              intro j3 U3 V3
              have Z3 : LX w g0 j3 a r := xs Z2 U3 V3.kp
              obtain ⟨t1, t2, t3, t4, ln, u1, u3, ed⟩ := Z3.ldx
              refine rIf ?_
              refine wpAny_isTrue_Compare1 ?_
              refine nL V3 rfl ?_
              refine rAt ?_
              refine nL V3 ms ?_
              refine rGA G V3.ok Z3.lx ed (fo_ws ..) rfl ?_
              refine rIn ?_
              cases w2 with
              | nil =>
                rcases hrest with rfl | ⟨_, s, r', rfl, hs⟩
                · cases hcs
                cases hcs
                rw [s_ws hs]
                repeat (first | (first | ((with_reducible show wpAny _ _ (execs (Stmt.Assign [Expr.Name _ _] _ _ :: _) _) _ _ _); refine rAs ?_) | with_reducible refine rRet ?_ | with_reducible refine rIf ?_ | with_reducible refine wpAny_BinOp ?_ | with_reducible refine rI ?_ | with_reducible refine rS ?_ | ((with_reducible show wpAny _ _ (eval (Expr.Name _ _) _) _ _ _); refine nL (by assumption) rfl ?_) | ((with_reducible show wpAny _ _ (storeName _ _ _) _ _ _); refine rSt (by assumption) ?_; intro _ _) | ((with_reducible show wpAny _ _ (isTrue (Expr.Compare _ [_] [_] _) _ _) _ _ _); refine wpAny_isTrue_Compare1 ?_) | with_reducible refine wpAny_truthy_bool ?_ | with_reducible refine rEq ?_ | ((with_reducible show wpAny _ _ (eval (Expr.Call _ _ [] _) _) _ _ _); refine Call_ ?_) | ((with_reducible show wpAny _ _ (spliced (backTo _ (starEach (_ :: _) _))) _ _ _); refine spliced_more ?_) | ((with_reducible show wpAny _ _ (spliced (backTo _ (starEach [] _))) _ _ _); refine spliced_none ?_) | with_reducible refine wpAny_IfExp ?_) | (dsimp only; first | ((with_reducible show wpAny _ _ (execs (Stmt.Assign [Expr.Name _ _] _ _ :: _) _) _ _ _); refine rAs ?_) | with_reducible refine rRet ?_ | with_reducible refine rIf ?_ | with_reducible refine wpAny_BinOp ?_ | with_reducible refine rI ?_ | with_reducible refine rS ?_ | ((with_reducible show wpAny _ _ (eval (Expr.Name _ _) _) _ _ _); refine nL (by assumption) rfl ?_) | ((with_reducible show wpAny _ _ (storeName _ _ _) _ _ _); refine rSt (by assumption) ?_; intro _ _) | ((with_reducible show wpAny _ _ (isTrue (Expr.Compare _ [_] [_] _) _ _) _ _ _); refine wpAny_isTrue_Compare1 ?_) | with_reducible refine wpAny_truthy_bool ?_ | with_reducible refine rEq ?_ | ((with_reducible show wpAny _ _ (eval (Expr.Call _ _ [] _) _) _ _ _); refine Call_ ?_) | ((with_reducible show wpAny _ _ (spliced (backTo _ (starEach (_ :: _) _))) _ _ _); refine spliced_more ?_) | ((with_reducible show wpAny _ _ (spliced (backTo _ (starEach [] _))) _ _ _); refine spliced_none ?_) | with_reducible refine wpAny_IfExp ?_))
                refine iteT rfl ?_
                refine rRet ?_
                refine nL V3 mt ?_
                rw [List.append_nil] at hw
                rw [hw] at h
                have q := fun tks => h tt j3 tks V3.ok V3.kp Z3
                exact q _
              | cons c2' w2' =>
                cases hcs
                have hc2 := hwd c2 (by rw [hw]; simp)
                rw [l_ws hc2]
                repeat (first | (first | ((with_reducible show wpAny _ _ (execs (Stmt.Assign [Expr.Name _ _] _ _ :: _) _) _ _ _); refine rAs ?_) | with_reducible refine rRet ?_ | with_reducible refine rIf ?_ | with_reducible refine wpAny_BinOp ?_ | with_reducible refine rI ?_ | with_reducible refine rS ?_ | ((with_reducible show wpAny _ _ (eval (Expr.Name _ _) _) _ _ _); refine nL (by assumption) rfl ?_) | ((with_reducible show wpAny _ _ (storeName _ _ _) _ _ _); refine rSt (by assumption) ?_; intro _ _) | ((with_reducible show wpAny _ _ (isTrue (Expr.Compare _ [_] [_] _) _ _) _ _ _); refine wpAny_isTrue_Compare1 ?_) | with_reducible refine wpAny_truthy_bool ?_ | with_reducible refine rEq ?_ | ((with_reducible show wpAny _ _ (eval (Expr.Call _ _ [] _) _) _ _ _); refine Call_ ?_) | ((with_reducible show wpAny _ _ (spliced (backTo _ (starEach (_ :: _) _))) _ _ _); refine spliced_more ?_) | ((with_reducible show wpAny _ _ (spliced (backTo _ (starEach [] _))) _ _ _); refine spliced_none ?_) | with_reducible refine wpAny_IfExp ?_) | (dsimp only; first | ((with_reducible show wpAny _ _ (execs (Stmt.Assign [Expr.Name _ _] _ _ :: _) _) _ _ _); refine rAs ?_) | with_reducible refine rRet ?_ | with_reducible refine rIf ?_ | with_reducible refine wpAny_BinOp ?_ | with_reducible refine rI ?_ | with_reducible refine rS ?_ | ((with_reducible show wpAny _ _ (eval (Expr.Name _ _) _) _ _ _); refine nL (by assumption) rfl ?_) | ((with_reducible show wpAny _ _ (storeName _ _ _) _ _ _); refine rSt (by assumption) ?_; intro _ _) | ((with_reducible show wpAny _ _ (isTrue (Expr.Compare _ [_] [_] _) _ _) _ _ _); refine wpAny_isTrue_Compare1 ?_) | with_reducible refine wpAny_truthy_bool ?_ | with_reducible refine rEq ?_ | ((with_reducible show wpAny _ _ (eval (Expr.Call _ _ [] _) _) _ _ _); refine Call_ ?_) | ((with_reducible show wpAny _ _ (spliced (backTo _ (starEach (_ :: _) _))) _ _ _); refine spliced_more ?_) | ((with_reducible show wpAny _ _ (spliced (backTo _ (starEach [] _))) _ _ _); refine spliced_none ?_) | with_reducible refine wpAny_IfExp ?_))
                refine iteF (by decide) ?_
                repeat (first | (first | ((with_reducible show wpAny _ _ (execs (Stmt.Assign [Expr.Name _ _] _ _ :: _) _) _ _ _); refine rAs ?_) | with_reducible refine rRet ?_ | with_reducible refine rIf ?_ | with_reducible refine wpAny_BinOp ?_ | with_reducible refine rI ?_ | with_reducible refine rS ?_ | ((with_reducible show wpAny _ _ (eval (Expr.Name _ _) _) _ _ _); refine nL (by assumption) rfl ?_) | ((with_reducible show wpAny _ _ (storeName _ _ _) _ _ _); refine rSt (by assumption) ?_; intro _ _) | ((with_reducible show wpAny _ _ (isTrue (Expr.Compare _ [_] [_] _) _ _) _ _ _); refine wpAny_isTrue_Compare1 ?_) | with_reducible refine wpAny_truthy_bool ?_ | with_reducible refine rEq ?_ | ((with_reducible show wpAny _ _ (eval (Expr.Call _ _ [] _) _) _ _ _); refine Call_ ?_) | ((with_reducible show wpAny _ _ (spliced (backTo _ (starEach (_ :: _) _))) _ _ _); refine spliced_more ?_) | ((with_reducible show wpAny _ _ (spliced (backTo _ (starEach [] _))) _ _ _); refine spliced_none ?_) | with_reducible refine wpAny_IfExp ?_) | (dsimp only; first | ((with_reducible show wpAny _ _ (execs (Stmt.Assign [Expr.Name _ _] _ _ :: _) _) _ _ _); refine rAs ?_) | with_reducible refine rRet ?_ | with_reducible refine rIf ?_ | with_reducible refine wpAny_BinOp ?_ | with_reducible refine rI ?_ | with_reducible refine rS ?_ | ((with_reducible show wpAny _ _ (eval (Expr.Name _ _) _) _ _ _); refine nL (by assumption) rfl ?_) | ((with_reducible show wpAny _ _ (storeName _ _ _) _ _ _); refine rSt (by assumption) ?_; intro _ _) | ((with_reducible show wpAny _ _ (isTrue (Expr.Compare _ [_] [_] _) _ _) _ _ _); refine wpAny_isTrue_Compare1 ?_) | with_reducible refine wpAny_truthy_bool ?_ | with_reducible refine rEq ?_ | ((with_reducible show wpAny _ _ (eval (Expr.Call _ _ [] _) _) _ _ _); refine Call_ ?_) | ((with_reducible show wpAny _ _ (spliced (backTo _ (starEach (_ :: _) _))) _ _ _); refine spliced_more ?_) | ((with_reducible show wpAny _ _ (spliced (backTo _ (starEach [] _))) _ _ _); refine spliced_none ?_) | with_reducible refine wpAny_IfExp ?_))
                refine rEqS ?_
                rw [l_bs hc2]
                repeat (first | (first | ((with_reducible show wpAny _ _ (execs (Stmt.Assign [Expr.Name _ _] _ _ :: _) _) _ _ _); refine rAs ?_) | with_reducible refine rRet ?_ | with_reducible refine rIf ?_ | with_reducible refine wpAny_BinOp ?_ | with_reducible refine rI ?_ | with_reducible refine rS ?_ | ((with_reducible show wpAny _ _ (eval (Expr.Name _ _) _) _ _ _); refine nL (by assumption) rfl ?_) | ((with_reducible show wpAny _ _ (storeName _ _ _) _ _ _); refine rSt (by assumption) ?_; intro _ _) | ((with_reducible show wpAny _ _ (isTrue (Expr.Compare _ [_] [_] _) _ _) _ _ _); refine wpAny_isTrue_Compare1 ?_) | with_reducible refine wpAny_truthy_bool ?_ | with_reducible refine rEq ?_ | ((with_reducible show wpAny _ _ (eval (Expr.Call _ _ [] _) _) _ _ _); refine Call_ ?_) | ((with_reducible show wpAny _ _ (spliced (backTo _ (starEach (_ :: _) _))) _ _ _); refine spliced_more ?_) | ((with_reducible show wpAny _ _ (spliced (backTo _ (starEach [] _))) _ _ _); refine spliced_none ?_) | with_reducible refine wpAny_IfExp ?_) | (dsimp only; first | ((with_reducible show wpAny _ _ (execs (Stmt.Assign [Expr.Name _ _] _ _ :: _) _) _ _ _); refine rAs ?_) | with_reducible refine rRet ?_ | with_reducible refine rIf ?_ | with_reducible refine wpAny_BinOp ?_ | with_reducible refine rI ?_ | with_reducible refine rS ?_ | ((with_reducible show wpAny _ _ (eval (Expr.Name _ _) _) _ _ _); refine nL (by assumption) rfl ?_) | ((with_reducible show wpAny _ _ (storeName _ _ _) _ _ _); refine rSt (by assumption) ?_; intro _ _) | ((with_reducible show wpAny _ _ (isTrue (Expr.Compare _ [_] [_] _) _ _) _ _ _); refine wpAny_isTrue_Compare1 ?_) | with_reducible refine wpAny_truthy_bool ?_ | with_reducible refine rEq ?_ | ((with_reducible show wpAny _ _ (eval (Expr.Call _ _ [] _) _) _ _ _); refine Call_ ?_) | ((with_reducible show wpAny _ _ (spliced (backTo _ (starEach (_ :: _) _))) _ _ _); refine spliced_more ?_) | ((with_reducible show wpAny _ _ (spliced (backTo _ (starEach [] _))) _ _ _); refine spliced_none ?_) | with_reducible refine wpAny_IfExp ?_))
                refine iteF (by decide) ?_
                refine rNil ?_
                refine rNil ?_
                refine rAuN ?_
                refine nl V3 mt ?_
                refine nL V3 rfl ?_
                refine rISt (by show w1.toArray.size + 1 ≤ _; simp; (clear hb hit hitlo hbit hlen hrest hl2; omega)) ?_
                intro t6 tk6
                rw [tx_app]
                refine rStS V3 ?_
                intro h7 S7 F7
                have X7 := xs Z3 S7 F7.kp
                refine rNil ?_
                exact ⟨w2'.length, by simp, hJ2 _ _ ⟨w1 ++ [c2], w2', _, _, _, _, F7, rfl, ms, mf, rfl, by rw [hw, List.append_assoc]; rfl, rfl, X7⟩⟩
          · exact ⟨[c], wd', _, _, _, _, F5, rfl, ms, mf, rfl, rfl, rfl, X5⟩
    · refine rNextCE rm1.hd (F'.at 0 rfl) ?_
      intro h2 E2
      have k2 : ∀ b o, h'.get? b = some o → h2.get? b = some o := fun b o e => E2 b o (Nat.ne_of_lt (Heap.lt_size e)) e
      have F2 := F'.extX k2
      subst hr
      refine rRet ?_
      refine nL F2 mt ?_
      have Y2 : LX w g0 h2 a [] := by
        refine X.step k F2.kp ?_ ?_
        · obtain ⟨t1, t2, t3, t4, ln, u1, u3, e⟩ := X'.ldx
          exact ⟨t1, t2, t3, t4, ln, u1, u3, k2 _ _ e⟩
        · obtain ⟨vs, n, e, c⟩ := X'.l
          exact ⟨vs, n, k2 _ _ e, c⟩
      have q := fun tks => h tt h2 tks F2.ok F2.kp Y2
      exact q _
  · exact ⟨_, _, _, _, F5', rfl, rfl, rfl, .inl ⟨rfl, rfl, X5⟩⟩
end Mine

namespace Mine
theorem FS.out {g0 g h h' : Heap} {T : List Addr} {L : Addr} {m : Str → Option Value} {nw : List (Addr × Obj)} (F : FS g0 g T L h m nw) (S : Heap.SameBut L h h') : OK g0 h' ∧ Kp T g h' ∧ ∀ p ∈ nw, h'.get? p.1 = some p.2 :=
  ⟨F.ok.step (Nat.le_trans F.g0g F.le) (ns_nc F.ns) (same_sz S) (fun b o hb e => (S.2 b hb).trans e), F.kpT (.inl F.le) (same_sz S) (fun b o hb e => (S.2 b hb).trans e), fun p hp => (S.2 _ (F.nL p hp)).trans (F.nws p hp)⟩
section
variable {w : World} {A : Around} {E : Value → Shared → Prop} {Q : Value → Shared → Prop} {t u : Tok} {hp h' : Heap} {gn : Array GenState} {dr : Drawn} {tk : Nat} {os : OsState} {pos : Pos} {k : Nat} {env : Env}
  {g0 g : Heap} {T : List Addr} {L : Addr} {m : Str → Option Value} {nw : List (Addr × Obj)} {mg mb : Str → Option Value}
theorem rLC {elt iter : Expr} {x : Str} {px : Pos} {scope : Scope} {cl : List (Str × Addr)}
    (h : wpAny (model PP w) A (eval iter env) (fun xv s₁ => wpAny (model PP w) A (pyIter xv) (fun it s₂ =>
      wpAny (model PP w) A (newList []) (fun acc s₃ => wpAny (model PP w) A (newFunctionEnv scope env.globals cl [] env.qual none .none (some env)) (fun cenv s₄ =>
        codeAny (model PP w) A (.compStart (.ListComp elt [⟨.Name x px, iter, [], 0⟩] scope pos) 0 it acc { cenv with scope := relabel scope env }) (compPost (model PP w) A E none Q acc cenv.locals) s₄) E s₃) E s₂) E s₁) E ⟨hp, gn, dr, tk, os⟩)
    (hclos : closureFor scope env = pure cl := by rfl) (hkind : scope.kind = .function := by rfl)
    (hnames : (scope.names.all fun y => !(y.2 == .local) || scope.names.lookup y.1 == some .local) = true := by rfl)
    (hs : ∀ x, foldedSetIterable iter env x = pure x := by intro _; rfl) : wpAny (model PP w) A (eval (.ListComp elt [⟨.Name x px, iter, [], 0⟩] scope pos) env) Q E ⟨hp, gn, dr, tk, os⟩ := by
  rw [eval_ListComp]
  refine wpAny_comprehension_free (use := none) rfl hs hclos hkind (fun y hy hl => ?_) h
  have := List.all_eq_true.mp hnames y hy
  rw [hl] at this
  simpa using this
theorem rLCb {elt iter : Expr} {x : Str} {px : Pos} {scope : Scope} {cl : List (Str × Addr)} {it : Addr} (k2 : OK g0 hp) (I : Nat → Shared → Prop) (n : Nat)
    (self : ∀ {Q : Value → Shared → Prop} {E : Value → Shared → Prop} {s : Shared}, I n s → Q (.ref it) s → wpAny (model PP w) A (pyIter (.ref it)) Q E s)
    (init : ∀ h3 tk3, FS g0 hp T (hp.objs.size + 1) h3 (fun _ => none) [(hp.objs.size, LO [] 0)] → (∀ b o, hp.get? b = some o → h3.get? b = some o) → I n ⟨h3, gn, dr, tk3, os⟩)
    (turn : ∀ n s, I n s → wpAny (model PP w) A (pyNext (.ref it)) (fun r s₁ => match r with
      | none => ∃ m, s₁.heap.Ns (hp.objs.size + 1) m ∧ ∀ h', Heap.SameBut (hp.objs.size + 1) s₁.heap h' → Q (.ref hp.objs.size) { s₁ with heap := h' }
      | some v => wpAny (model PP w) A (storeName (compEnvC scope cl (hp.objs.size + 1) env) x v) (fun _ s₂ => wpAny (model PP w) A (eval elt (compEnvC scope cl (hp.objs.size + 1) env)) (fun y s₃ =>
          wpAny (model PP w) A (call (.builtin "list.append") [.ref hp.objs.size, y]) (fun _ s₄ => ∃ m, m < n ∧ I m s₄) (fun _ _ => False) s₃) (fun _ _ => False) s₂) (fun _ _ => False) s₁) (fun _ _ => False) s)
    (hcell : (scope.names.all fun y => !(y.2 == .cell)) = true := by rfl) (hkind : scope.kind = .function := by rfl) :
    wpAny (model PP w) A (newList []) (fun acc s₃ => wpAny (model PP w) A (newFunctionEnv scope env.globals cl [] env.qual none .none (some env)) (fun cenv s₄ =>
        codeAny (model PP w) A (.compStart (.ListComp elt [⟨.Name x px, iter, [], 0⟩] scope pos) 0 (.ref it) acc { cenv with scope := relabel scope env }) (compPost (model PP w) A E none Q acc cenv.locals) s₄) E s₃) E ⟨hp, gn, dr, tk, os⟩ := by
  have hcell' : ∀ y ∈ scope.names, y.2 ≠ .cell := fun y hy => by have q := List.all_eq_true.mp hcell y hy; simpa using q
  refine wpAny_newObj_type (wpAny_newFunctionEnv hcell' (by intro y hy; simp at hy) (fun h₁ hns₁ hsb₁ => ?_) hkind)
  dsimp only at hns₁ hsb₁ ⊢
  have hC : (hp.push { cls := .type "list", dict := none, data := .seq ([] : List Value).toArray }).objs.size = hp.objs.size + 1 := Heap.size_push ..
  rw [hC] at hns₁ hsb₁ ⊢
  have hs1 : hp.objs.size + 1 < h₁.objs.size := ns_lt hns₁
  have kk : ∀ b o, hp.get? b = some o → h₁.get? b = some o := fun b o e => (hsb₁.2 b (Nat.ne_of_lt (Nat.lt_succ_of_lt (Heap.lt_size e)))).trans (Heap.get?_push_of_some _ (Heap.get?_push_of_some _ e))
  have eD : h₁.get? hp.objs.size = some (LO [] 0) := (hsb₁.2 _ (Nat.ne_of_lt (Nat.lt_succ_self _))).trans (Heap.get?_push_of_some _ (Heap.get?_push_size _ rfl))
  have F : FS g0 hp T (hp.objs.size + 1) h₁ (fun _ => none) [] := ⟨k2.ext (by (clear hC; omega)) kk, ⟨by (clear hC; omega), fun b o e _ _ => kk b o e⟩, k2.sz, hns₁, by (clear hC hs1; omega), fun _ q => (nomatch q), fun _ q => (nomatch q), List.nodup_nil, fun _ q => (nomatch q)⟩
  have I0 := init h₁ tk (F.add eD (Nat.le_refl _) (fun _ q => (nomatch q)) (Nat.ne_of_lt (Nat.lt_succ_self _))) kk
  have loop : codeAny (model PP w) A (.compLoop (.ListComp elt [⟨.Name x px, iter, [], 0⟩] scope pos) 0 (.ref it) (.ref hp.objs.size) (compEnvC scope cl (hp.objs.size + 1) env)) (compPost (model PP w) A E none Q (.ref hp.objs.size) (hp.objs.size + 1)) ⟨h₁, gn, dr, tk, os⟩ := by
    refine codeAny_compLoop_list I (fun n s hI => ?_) n I0
    refine wpAny_mono (turn n s hI) (fun r s₁ hr => ?_) (fun _ _ z => z.elim)
    cases r with
    | none => exact hr
    | some v => exact wpAny_assign_Name (wpAny_mono hr (fun _ s₂ h₂ => wpAny_mono h₂ (fun y s₃ h₃ => wpAny_mono h₃ (fun _ _ z => z) fun _ _ z => z.elim) fun _ _ z => z.elim) fun _ _ z => z.elim)
  exact codeAny_compStart_list loop (self I0 loop)
end
end Mine

namespace Mine
theorem look_rev_init : typeLookup (.type "reversed") "__init__" = pure (some (.builtin "object.__init__")) := by rw [typeLookup_type, builtinLookup_eq_fast]; kernel_rfl
theorem slot_rev_init : Slot "reversed" "__init__" "object.__init__" :=
  .of (owner := "object") (n := "__init__") look_rev_init (by decide +kernel) (by decide +kernel) (by decide +kernel)
    (by first | exact .inl (by decide +kernel) | exact .inr (by decide +kernel)) (by rw [isSubtype_type]; kernel_rfl)
theorem called_reversed : TypeCalled "reversed" "reversed.__new__" "object.__init__" := ⟨by decide +kernel, PySem.F.create_reversed, ⟨_, _, PySem.F.mro_reversed⟩, PySem.F.made_reversed, PySem.F.plain_reversed_new, PySem.F.sub_reversed_self, slot_rev_init⟩
theorem str_no_rev : typeLookup (.type "str") "__reversed__" = pure none := by rw [typeLookup_type, builtinLookup_eq_fast]; kernel_rfl
theorem owner_rev : Manifest.owners.lookup (String.ofList ['d', 'e', 's', 'r', 'e', 'v', 'e', 'r'].reverse) = some Manifest.sig_reversed := by kernel_rfl
theorem slot_rev_next : Slot "reversed" "__next__" "reversed.__next__" :=
  .of (owner := "reversed") (n := "__next__") (by rw [typeLookup_type, builtinLookup_eq_fast]; kernel_rfl) (by decide +kernel) (by decide +kernel) (by decide +kernel)
    (by first | exact .inl (by decide +kernel) | exact .inr (by decide +kernel)) (by rw [isSubtype_type]; kernel_rfl)
theorem entry_rev_next : entryFor table "reversed.__next__" = some Builtin.«reversed.__next__» := entryFor_of_tree (by kernel_rfl)
theorem args_rev_next (a : Value) : argsOk "reversed.__next__" ⟨[a], []⟩ := by
  unfold argsOk; rw [signature?_of (id := "reversed.__next__") (n := ['_', '_', 't', 'x', 'e', 'n', '_', '_']) (o := ['d', 'e', 's', 'r', 'e', 'v', 'e', 'r']) (by kernel_rfl) owner_rev]; kernel_rfl
theorem slot_rev_iter : Slot "reversed" "__iter__" "reversed.__iter__" :=
  .of (owner := "reversed") (n := "__iter__") (by rw [typeLookup_type, builtinLookup_eq_fast]; kernel_rfl) (by decide +kernel) (by decide +kernel) (by decide +kernel)
    (by first | exact .inl (by decide +kernel) | exact .inr (by decide +kernel)) (by rw [isSubtype_type]; kernel_rfl)
theorem args_rev_iter (a : Value) : argsOk "reversed.__iter__" ⟨[a], []⟩ := by
  unfold argsOk; rw [signature?_of (id := "reversed.__iter__") (n := ['_', '_', 'r', 'e', 't', 'i', '_', '_']) (o := ['d', 'e', 's', 'r', 'e', 'v', 'e', 'r']) (by kernel_rfl) owner_rev]; kernel_rfl
theorem entry_rev_iter : entryFor table "reversed.__iter__" = some Builtin.«dict_keyiterator.__iter__» :=
  entryFor_alias (id' := "dict_keyiterator.__iter__") (by kernel_rfl) (by first | rfl | decide +kernel | (unfold String.splitOn; simp +decide [String.splitOnAux])) (by decide +kernel) (by kernel_rfl)
abbrev revS (x : Str) (t : Tok) (i : Int) : Obj := { cls := .type "reversed", data := .fields #[.str x t, rawInt i] }
end Mine

namespace Mine
theorem str_item : typeLookup (.type "str") "__getitem__" = pure (some (.builtin "str.__getitem__")) := by rw [typeLookup_type, builtinLookup_eq_fast]; kernel_rfl
theorem sub_str_dict : isSubtype (.type "str") (.type "dict") = pure false := by rw [isSubtype_type]; kernel_rfl
theorem meets_rev_str (x : Str) (t : Tok) (hx : x.length ≤ 2 ^ 20) :
    Meets (Builtin.«reversed.__new__» ⟨[.type "reversed", .str x t], []⟩) (fun _ R s => ∀ tk', R (.ok (.ret (.ref s.heap.objs.size))) { s with heap := s.heap.push (revS x t ((x.length : Int) - 1)), toks := tk' }) := by
  refine .of_wp fun prog w A R s h => ?_
  unfold Builtin.«reversed.__new__»
  refine wpAny_bind (wpAny_of_eq (newClass_reversed _) ?_)
  try dsimp only
  refine wpAny_bind (wpAny_of_eq (a := ()) (by first | rfl | kernel_rfl) ?_)
  refine wpAny_bind (wpAny_of_eq (a := ()) (by first | rfl | kernel_rfl) ?_)
  try dsimp only
  refine wpAny_bind (wpAny_specialOf (typeIs_str s x t) str_no_rev ?_)
  try dsimp only
  show wpAny _ _ ((isInstance (.str x t) (.type "dict") >>= _) >>= _) _ _ _
  refine wpAny_bind (wpAny_bind (wpAny_isInstance (T := "str") (b := false) (typeIs_str s x t) sub_str_dict ?_))
  rw [if_neg (by decide)]
  refine wpAny_bind (wpAny_specialOf (typeIs_str s x t) str_item ?_)
  dsimp only
  rw [if_pos (by decide)]
  refine wpAny_pure ?_
  rw [if_neg (by decide)]
  refine wpAny_bind ?_
  refine PyProof.Rows.len_str (by omega) ?_
  refine wpAny_bind (wpAny_of_eq (a := some (x.length : Int)) (by rfl) ?_)
  show wpAny _ _ (newObj (.type "reversed") (.fields #[.str x t, rawInt ((x.length : Int) - 1)]) >>= _) _ _ _
  refine wpAny_bind ?_
  refine wpAny_newObj_type ?_
  exact wpAny_pure ⟨_, rfl, h _⟩
section
variable {w : World} {A : Around} {E : Value → Shared → Prop} {Q : Value → Shared → Prop} {t u : Tok} {hp h' : Heap} {gn : Array GenState} {dr : Drawn} {tk : Nat} {os : OsState} {pos : Pos} {k : Nat} {env : Env}
theorem rRevSt {x : Str} (hx : x.length ≤ 2 ^ 20) (h : ∀ tk', Q (.ref hp.objs.size) ⟨hp.push (revS x t ((x.length : Int) - 1)), gn, dr, tk', os⟩) : wpAny (model PP w) A (call (.type "reversed") [.str x t]) Q E ⟨hp, gn, dr, tk, os⟩ :=
  callType_new called_reversed (by decide) (PySem.F.typeCall_reversed_1 _) (PySem.F.newCall_reversed_1 _) (fun obj => PySem.F.args_object_init_2 obj _) PySem.F.entry_reversed_new (meets_rev_str x t hx) fun tk' => ⟨⟨_, Heap.get?_push_size _ rfl, rfl⟩, h tk'⟩
theorem rIterRS {it : Addr} {x : Str} {i : Int} {o : Obj} (hi : hp.get? it = some o) (hc : o.cls = .type "reversed") (h : Q (.ref it) ⟨hp, gn, dr, tk, os⟩) : wpAny (model PP w) A (pyIter (.ref it)) Q E ⟨hp, gn, dr, tk, os⟩ := by
  have ty : Shared.TypeIs ⟨hp, gn, dr, tk, os⟩ (.ref it) "reversed" := ⟨_, hi, hc⟩
  refine wpAny_pyIter_slot ty slot_rev_iter (wpAny_call_entry slot_rev_iter ty entry_rev_iter ?_ (args_rev_iter _))
  show wpAny _ _ (ret (.ref it)) _ _ _
  exact wpAny_pure ⟨_, rfl, "reversed", _, ty, slot_rev_next.lookup, h⟩
theorem rNextRS {it : Addr} {x : Str} {i : Nat} {c : Nat} {Q : Option Value → Shared → Prop} (hi : hp.get? it = some (revS x t i)) (hc : x.cps[i]? = some c) (hx : x.length ≤ 2 ^ 20)
    (h : ∀ h' u tk', Heap.SameBut it hp h' → h'.get? it = some (revS x t ((i : Int) - 1)) → Q (some (.str (chr c) u)) ⟨h', gn, dr, tk', os⟩) : wpAny (model PP w) A (pyNext (.ref it)) Q E ⟨hp, gn, dr, tk, os⟩ := by
  have ty : Shared.TypeIs ⟨hp, gn, dr, tk, os⟩ (.ref it) "reversed" := ⟨_, hi, rfl⟩
  have hlt : i < x.cps.size := (Array.getElem?_eq_some_iff.mp hc).1
  have hlen : x.length = x.cps.size := rfl
  unfold pyNext
  refine wpAny_bind (wpAny_attempt (wpAny_callSpecial?_slot (name := Str.ofString "__next__") ty slot_rev_next
    (wpAny_call_entry slot_rev_next ty entry_rev_next ?_ (args_rev_next _))))
  unfold Builtin.«reversed.__next__»
  refine wpAny_bind (wpAny_of_eq (a := (Value.ref it, [])) rfl ?_)
  try dsimp only
  refine wpAny_bind (wpAny_field hi rfl (x := .str x t) rfl ?_)
  refine wpAny_bind (wpAny_field hi rfl (x := rawInt i) rfl ?_)
  show wpAny _ _ (if (i : Int) < 0 then _ else _) _ _ _
  rw [if_neg (by (clear hx hlt hlen; omega))]
  refine wpAny_bind (wpAny_specialOf (typeIs_str _ x t) str_item ?_)
  rw [if_neg (by decide)]
  refine wpAny_bind ?_
  refine wpAny_mkInt ?_
  refine wpAny_bind (wpAny_attempt ?_)
  refine PyProof.Rows.getItem_str (c := c) ?_ ?_ ?_
  · have : ¬ ((i : Int) < -(2 ^ 63 : Int)) := by (clear hx hlt hlen; omega)
    have h2 : ¬ ((i : Int) ≥ 2 ^ 63) := by (clear this; omega)
    simp only [this, h2, decide_false, Bool.or_false]
  · have e : seqIndex? (i : Int) x.length = some i := by
      have h2 : (i : Int) < x.length := by (clear hx; omega)
      have h1 : ¬ (i : Int) < 0 := by (clear hx hlt hlen h2; omega)
      unfold seqIndex?
      simp [h1, h2]
    rw [e]
    exact hc
  · dsimp only
    refine wpAny_bind (wpAny_field hi rfl (x := rawInt i) rfl ?_)
    show wpAny _ _ (setField (.ref it) 1 (rawInt ((i : Int) - 1)) >>= _) _ _ _
    refine wpAny_bind (wpAny_setField_rec hi (by simp) fun h1 e1 S1 => ?_)
    exact wpAny_pure ⟨_, rfl, wpAny_pure (h _ _ _ S1 e1)⟩
theorem rNextRE {it : Addr} {x : Str} {Q : Option Value → Shared → Prop} (hA : A.handled = none) (hi : hp.get? it = some (revS x t (-1))) (h : ∀ h', Heap.ExtBut it hp h' → Q none ⟨h', gn, dr, tk, os⟩) :
    wpAny (model PP w) A (pyNext (.ref it)) Q E ⟨hp, gn, dr, tk, os⟩ := by
  have ty : Shared.TypeIs ⟨hp, gn, dr, tk, os⟩ (.ref it) "reversed" := ⟨_, hi, rfl⟩
  unfold pyNext
  refine wpAny_bind (wpAny_attempt (wpAny_callSpecial?_slot (name := Str.ofString "__next__") ty slot_rev_next
    (wpAny_call_entry slot_rev_next ty entry_rev_next ?_ (args_rev_next _))))
  unfold Builtin.«reversed.__next__»
  refine wpAny_bind (wpAny_of_eq (a := (Value.ref it, [])) rfl ?_)
  try dsimp only
  refine wpAny_bind (wpAny_field hi rfl (x := .str x t) rfl ?_)
  refine wpAny_bind (wpAny_field hi rfl (x := rawInt (-1)) rfl ?_)
  show wpAny _ _ (if (-1 : Int) < 0 then _ else _) _ _ _
  rw [if_pos (by decide)]
  refine wpAny_bind (wpAny_rule ?_)
  refine wpAny_bind ?_
  refine wpAny_bind (wpAny_setField_rec hi (by simp) fun h1 e1 S1 => ?_)
  refine wpAny_setField_rec e1 (by simp) fun h2 e2 S2 => ?_
  refine wpAny_bind ?_
  show wpAny _ _ (newExc (.type "StopIteration") [] >>= _) _ _ _
  refine wpAny_bind ?_
  simp only [newExc, newTuple]
  refine wpAny_bind (wpAny_newObj_type ?_ (by size_fits))
  refine wpAny_bind (m := firstArgMember _ _) (wpAny_of_eq (a := Value.none) (by first | rfl | (simp only [firstArgMember]; rfl)) ?_)
  refine wpAny_newObj_type ?_ (by size_fits)
  simp only [raiseNew]
  refine wpAny_bind (wpAny_handled ?_)
  first | rw [show A.in1.handled = none from hA] | rw [hA]
  refine wpAny_bind (wpAny_pure (wpAny_throw ?_))
  refine wpAny_bind (wpAny_isInstance (T := "StopIteration") (b := true) ⟨_, Heap.get?_push_size _ rfl, rfl⟩ isSubtype_stop ?_)
  refine wpAny_pure (h _ (((?_ : Heap.ExtBut it hp h2).push _).push _))
  intro y o hy e
  exact (S2.2 y hy).trans ((S1.2 y hy).trans e)
end
end Mine

namespace Mine
def tj (s : Nat) : List (List Nat) → List Nat
  | [] => []
  | [w] => w
  | w :: v :: r => w ++ s :: tj s (v :: r)
theorem tj_cons (s : Nat) (w : List Nat) (ws : List (List Nat)) : ∃ rest, tj s (w :: ws) = w ++ rest ∧ rest.tail = tj s ws ∧ (rest = [] ∨ ∃ r, rest = s :: r) := by
  cases ws with
  | nil => exact ⟨[], by simp [tj], rfl, .inl rfl⟩
  | cons v r => exact ⟨s :: tj s (v :: r), rfl, rfl, .inr ⟨_, rfl⟩⟩
def wval (w : List Nat) : Int := dsum 4 (w.reverse.map fun (c : Nat) => (c : Int) - 65)
theorem l_find {c : Nat} (hc : Ltr c) : Txt.find "ABCDEFGHIJKLMNOP" (chr c) = (c : Int) - 65 := by
  have := ltr_ex (p := fun c => Txt.find "ABCDEFGHIJKLMNOP" (chr c) == (c : Int) - 65) (by decide +kernel) hc
  simpa using this
section
variable {w : World} {A : Around} {E : Value → Shared → Prop} {Q : Value → Shared → Prop} {t u : Tok} {hp h' : Heap} {gn : Array GenState} {dr : Drawn} {tk : Nat} {os : OsState} {pos : Pos} {k : Nat} {env : Env}
  {g0 g : Heap} {T : List Addr} {L : Addr} {m : Str → Option Value} {nw : List (Addr × Obj)} {mg mb : Str → Option Value}
theorem FS.callD {a : Addr} {o : Obj} (F : FS g0 g T L hp m ((a, o) :: nw)) (k : OK g0 h') (K : Kp [a] hp h') : FS g0 g T L h' m nw := by
  have nt : ∀ a, g0.objs.size ≤ a → a ∉ tabs := fun a ha q => absurd (F.ok.lt a q) (Nat.not_lt.mpr ha)
  have n1 : ∀ b, b ≠ a → b ∉ [a] := fun b hb q => hb (List.mem_singleton.mp q)
  have hm : (a, o) ∈ (a, o) :: nw := .head _
  refine ⟨k, ⟨Nat.le_trans F.kp.sz K.sz, fun b ob eb h1 h2 => K.kp _ _ (F.kp.kp b ob eb h1 h2) h1 (n1 b fun z => ?_)⟩, F.g0g, ?_, F.le, fun p hp => K.kp _ _ (F.nws p (.tail _ hp)) (nt _ (F.lo0 (.tail _ hp))) (n1 _ fun z => ?_), fun p hp => F.lo p (.tail _ hp), (List.nodup_cons.mp F.nd).2, fun p hp => F.nL p (.tail _ hp)⟩
  · subst z
    rcases F.lo _ hm with q | q
    · exact absurd (Heap.lt_size eb) (Nat.not_lt.mpr q)
    · exact h2 q.1
  · obtain ⟨oL, es, ep, eL, r⟩ := F.ns
    exact ⟨oL, es, ep, K.kp _ _ eL (nt _ (Nat.le_trans F.g0g F.le)) (n1 _ (Ne.symm (F.nL _ hm))), r⟩
  · exact (List.nodup_cons.mp F.nd).1 (List.mem_map.mpr ⟨p, hp, z⟩)
theorem rFindM {x : Str} {pl : Sem Bool} {QM : Value × List Value → Shared → Prop} (h : QM (.builtin "str.find", [.str x t]) ⟨hp, gn, dr, tk, os⟩) : wpAny (model PP w) A (getMethod (.str x t) "find" pl) QM E ⟨hp, gn, dr, tk, os⟩ := GM.find h
theorem rFind {x y : Str} (h : Q (.int (Txt.find x y) tk) ⟨hp, gn, dr, tk + 1, os⟩) : wpAny (model PP w) A (call (.builtin "str.find") [.str x t, .str y u]) Q E ⟨hp, gn, dr, tk, os⟩ :=
  call_gives PySem.F.slot_str_find (typeIs_str _ _ _) PySem.F.entry_str_find (PySem.F.args_str_find_2 _ _) (gives_str_find x y t u) h
theorem rTrS {x : Str} {Q : Bool → Shared → Prop} (hx : x.length ≤ 2 ^ 20) (h : ∀ tk', Q ((x.length : Int) != 0) ⟨hp, gn, dr, tk', os⟩) : wpAny (model PP w) A (truthy (.str x t)) Q E ⟨hp, gn, dr, tk, os⟩ := by
  exact PySem.P.truthy_str (by omega) (h _)
theorem rCWf {a : Addr} {o : Obj} {fd : FuncData} {first : List Value} (h : (hp.get? a = some o ∧ o.data = .func fd) ∧
      codeAny (model PP w) A (.call (.ref a) ⟨first, []⟩) (fun r s' => match r with | .ok (.ret v) => Q v s' | .ok _ => False | .error e => E e s') ⟨hp, gn, dr, tk, os⟩) :
    wpAny (model PP w) A (callWith pos (.ref a) first (backTo pos (starEach [] env)) []) Q E ⟨hp, gn, dr, tk, os⟩ := callWith_meth0 h.1.2 h.1.1 (wpAny_call h.2)
end
end Mine

namespace Mine
theorem rAppendS {w : World} {A : Around} {E : Value → Shared → Prop} {Q : Value → Shared → Prop} {hp : Heap} {gn : Array GenState} {dr : Drawn} {tk : Nat} {os : OsState} {g0 g : Heap} {T : List Addr} {L : Addr} {m : Str → Option Value} {nw : List (Addr × Obj)}
    (F : FS g0 g T L hp m nw) (i : Nat) {l : Addr} {vs : List Value} {n : Nat} {x : Value} (hi : nw[i]? = some (l, LO vs n)) (hs : vs.length ≤ 2 ^ 20)
    (h : ∀ h', Heap.SameBut l hp h' → FS g0 g T L h' m (nw.set i (l, LO (vs ++ [x]) (n + 1))) → Q .none ⟨h', gn, dr, tk, os⟩) : wpAny (model PP w) A (call (.builtin "list.append") [.ref l, x]) Q E ⟨hp, gn, dr, tk, os⟩ := by
  refine call_meets PySem.slot_list_append ⟨_, F.at i hi, rfl⟩ PySem.entry_list_append (PySem.args_list_append _ _) (AutoListH.list_append_list_val_0 l vs.toArray n x (by simp [sizeLine]; omega)) ⟨F.at i hi, h _ (Heap.SameBut.update ..) (F.set' i hi (list_nc rfl) ?_ rfl)⟩
  simp [Obj.mapSeq]
theorem LX.ltAll {w : World} {g0 hp : Heap} {a : LA} {cs : List Nat} (X : LX w g0 hp a cs) : ∀ b ∈ [a.lx, a.ldx, a.pb, a.sx, a.sdx, a.f, a.l, a.c], b < hp.objs.size := by
  obtain ⟨t1, t2, t3, t4, ln, u1, u3, ed⟩ := X.ldx
  obtain ⟨vs0, n0, el, ca⟩ := X.l
  obtain ⟨s1, s2, s3, s4, s5, sl, sf, sw, sp, es⟩ := X.sdx
  obtain ⟨oc, ec, dc⟩ := X.c
  intro b hb
  simp only [List.mem_cons, List.not_mem_nil, or_false] at hb
  rcases hb with rfl | rfl | rfl | rfl | rfl | rfl | rfl | rfl
  · exact Heap.lt_size X.lx
  · exact Heap.lt_size ed
  · exact Heap.lt_size X.pb
  · exact Heap.lt_size X.sx
  · exact Heap.lt_size es
  · exact Heap.lt_size X.f
  · exact Heap.lt_size el
  · exact Heap.lt_size ec
theorem LX.sto {w : World} {g0 hp h' : Heap} {a : LA} {cs : List Nat} {L : Addr} (X : LX w g0 hp a cs) (S : Heap.SameBut L hp h') (hL : ∀ b ∈ [a.lx, a.ldx, a.pb, a.sx, a.sdx, a.f, a.l, a.c], @Ne Nat b L) (hn : ∀ o, hp.get? L = some o → NC o) : LX w g0 h' a cs := by
  have up : ∀ b o, b ∈ [a.lx, a.ldx, a.pb, a.sx, a.sdx, a.f, a.l, a.c] → hp.get? b = some o → h'.get? b = some o := fun b o hb e => (S.2 b (hL b hb)).trans e
  obtain ⟨t1, t2, t3, t4, ln, u1, u3, ed⟩ := X.ldx
  obtain ⟨vs0, n0, el, ca⟩ := X.l
  obtain ⟨s1, s2, s3, s4, s5, sl, sf, sw, sp, es⟩ := X.sdx
  obtain ⟨oc, ec, dc⟩ := X.c
  exact ⟨up _ _ (by simp) X.lx, ⟨t1, t2, t3, t4, ln, u1, u3, up _ _ (by simp) ed⟩, up _ _ (by simp) X.pb, up _ _ (by simp) X.sx, ⟨s1, s2, s3, s4, s5, sl, sf, sw, sp, up _ _ (by simp) es⟩, up _ _ (by simp) X.f, X.nx,
    ⟨oc, up _ _ (by simp) ec, dc⟩, CodeRec.same X.cc (by decide) S hn, X.cct, ⟨vs0, n0, up _ _ (by simp) el, ca⟩, X.lpb, X.lo⟩
theorem FS.callF {g0 g h h' : Heap} {T S : List Addr} {L : Addr} {m : Str → Option Value} {nw : List (Addr × Obj)} (F : FS g0 g T L h m nw) (k : OK g0 h') (K : Kp S h h') (hS : ∀ t ∈ S, g.objs.size ≤ t ∧ @Ne Nat t L) (hn : ∀ p ∈ nw, p.1 ∉ S) : FS g0 g T L h' m nw := by
  have nt : ∀ a, g0.objs.size ≤ a → a ∉ tabs := fun a ha q => absurd (F.ok.lt a q) (Nat.not_lt.mpr ha)
  refine ⟨k, ⟨Nat.le_trans F.kp.sz K.sz, fun b o e h1 h2 => K.kp _ _ (F.kp.kp b o e h1 h2) h1 (fun q => absurd (Heap.lt_size e) (Nat.not_lt.mpr (hS b q).1))⟩, F.g0g, ?_, F.le, fun p hp => K.kp _ _ (F.nws p hp) (nt _ (F.lo0 hp)) (hn p hp), F.lo, F.nd, F.nL⟩
  obtain ⟨oL, es, ep, eL, r⟩ := F.ns
  exact ⟨oL, es, ep, K.kp _ _ eL (nt _ (Nat.le_trans F.g0g F.le)) (fun q => (hS _ q).2 rfl), r⟩
theorem c_lr {w : World} {mg mb : Str → Option Value} {g0 : Heap} (G : Gd w mg mb g0) {A : Around} {R : Result → Shared → Prop} {hp : Heap} {gn : Array GenState} {dr : Drawn} {tk0 : Nat} {os : OsState} (k : OK g0 hp) {x : Str} {t0 : Tok} {s : Nat} {ws : List (List Nat)}
  (rm : Rm A 100) (hx : x.cps.toList = tj s ws) (hs : Spc s) (hsz : x.cps.size ≤ 2 ^ 20) (hws : ∀ v ∈ ws, v ≠ [] ∧ v.length ≤ 64 ∧ ∀ c ∈ v, Ltr c) (hn : ws.length ≤ 1000)
 (h : ∀ l vs n h' tks, OK g0 h' → Kp [] hp h' → hp.objs.size ≤ l → h'.get? l = some (LO vs n) → IntsAre vs (ws.map wval) → R (.ok (.ret (.ref l))) ⟨h', gn, dr, tks, os⟩) :
  codeAny (model PP w) A (.call (.ref aLR) ⟨[.str x t0], []⟩) R ⟨hp, gn, dr, tk0, os⟩ := by
  refine ent (T := []) (n := 99) (binds := [("text", .str x t0)]) G k rm (k.at0 G rfl) rfl (k.code G rfl) rfl rfl rfl rfl rfl rfl rfl ?_
  intro h1 tk1 F rm1 kk
  repeat (first | (first | ((with_reducible show wpAny _ _ (execs (Stmt.Assign [Expr.Name _ _] _ _ :: _) _) _ _ _); refine rAs ?_) | with_reducible refine rRet ?_ | with_reducible refine rIf ?_ | with_reducible refine wpAny_BinOp ?_ | with_reducible refine rI ?_ | with_reducible refine rS ?_ | ((with_reducible show wpAny _ _ (eval (Expr.Name _ _) _) _ _ _); refine nL (by assumption) rfl ?_) | ((with_reducible show wpAny _ _ (storeName _ _ _) _ _ _); refine rSt (by assumption) ?_; intro _ _) | ((with_reducible show wpAny _ _ (isTrue (Expr.Compare _ [_] [_] _) _ _) _ _ _); refine wpAny_isTrue_Compare1 ?_) | with_reducible refine wpAny_truthy_bool ?_ | with_reducible refine rEq ?_ | ((with_reducible show wpAny _ _ (eval (Expr.Call _ _ [] _) _) _ _ _); refine Call_ ?_) | ((with_reducible show wpAny _ _ (spliced (backTo _ (starEach (_ :: _) _))) _ _ _); refine spliced_more ?_) | ((with_reducible show wpAny _ _ (spliced (backTo _ (starEach [] _))) _ _ _); refine spliced_none ?_) | with_reducible refine wpAny_IfExp ?_) | (dsimp only; first | ((with_reducible show wpAny _ _ (execs (Stmt.Assign [Expr.Name _ _] _ _ :: _) _) _ _ _); refine rAs ?_) | with_reducible refine rRet ?_ | with_reducible refine rIf ?_ | with_reducible refine wpAny_BinOp ?_ | with_reducible refine rI ?_ | with_reducible refine rS ?_ | ((with_reducible show wpAny _ _ (eval (Expr.Name _ _) _) _ _ _); refine nL (by assumption) rfl ?_) | ((with_reducible show wpAny _ _ (storeName _ _ _) _ _ _); refine rSt (by assumption) ?_; intro _ _) | ((with_reducible show wpAny _ _ (isTrue (Expr.Compare _ [_] [_] _) _ _) _ _ _); refine wpAny_isTrue_Compare1 ?_) | with_reducible refine wpAny_truthy_bool ?_ | with_reducible refine rEq ?_ | ((with_reducible show wpAny _ _ (eval (Expr.Call _ _ [] _) _) _ _ _); refine Call_ ?_) | ((with_reducible show wpAny _ _ (spliced (backTo _ (starEach (_ :: _) _))) _ _ _); refine spliced_more ?_) | ((with_reducible show wpAny _ _ (spliced (backTo _ (starEach [] _))) _ _ _); refine spliced_none ?_) | with_reducible refine wpAny_IfExp ?_))
  refine nG G F rfl ?_
  refine rCW (F.ok.at0 G rfl) rfl ?_
  repeat (first | (first | ((with_reducible show wpAny _ _ (execs (Stmt.Assign [Expr.Name _ _] _ _ :: _) _) _ _ _); refine rAs ?_) | with_reducible refine rRet ?_ | with_reducible refine rIf ?_ | with_reducible refine wpAny_BinOp ?_ | with_reducible refine rI ?_ | with_reducible refine rS ?_ | ((with_reducible show wpAny _ _ (eval (Expr.Name _ _) _) _ _ _); refine nL (by assumption) rfl ?_) | ((with_reducible show wpAny _ _ (storeName _ _ _) _ _ _); refine rSt (by assumption) ?_; intro _ _) | ((with_reducible show wpAny _ _ (isTrue (Expr.Compare _ [_] [_] _) _ _) _ _ _); refine wpAny_isTrue_Compare1 ?_) | with_reducible refine wpAny_truthy_bool ?_ | with_reducible refine rEq ?_ | ((with_reducible show wpAny _ _ (eval (Expr.Call _ _ [] _) _) _ _ _); refine Call_ ?_) | ((with_reducible show wpAny _ _ (spliced (backTo _ (starEach (_ :: _) _))) _ _ _); refine spliced_more ?_) | ((with_reducible show wpAny _ _ (spliced (backTo _ (starEach [] _))) _ _ _); refine spliced_none ?_) | with_reducible refine wpAny_IfExp ?_) | (dsimp only; first | ((with_reducible show wpAny _ _ (execs (Stmt.Assign [Expr.Name _ _] _ _ :: _) _) _ _ _); refine rAs ?_) | with_reducible refine rRet ?_ | with_reducible refine rIf ?_ | with_reducible refine wpAny_BinOp ?_ | with_reducible refine rI ?_ | with_reducible refine rS ?_ | ((with_reducible show wpAny _ _ (eval (Expr.Name _ _) _) _ _ _); refine nL (by assumption) rfl ?_) | ((with_reducible show wpAny _ _ (storeName _ _ _) _ _ _); refine rSt (by assumption) ?_; intro _ _) | ((with_reducible show wpAny _ _ (isTrue (Expr.Compare _ [_] [_] _) _ _) _ _ _); refine wpAny_isTrue_Compare1 ?_) | with_reducible refine wpAny_truthy_bool ?_ | with_reducible refine rEq ?_ | ((with_reducible show wpAny _ _ (eval (Expr.Call _ _ [] _) _) _ _ _); refine Call_ ?_) | ((with_reducible show wpAny _ _ (spliced (backTo _ (starEach (_ :: _) _))) _ _ _); refine spliced_more ?_) | ((with_reducible show wpAny _ _ (spliced (backTo _ (starEach [] _))) _ _ _); refine spliced_none ?_) | with_reducible refine wpAny_IfExp ?_))
  refine ⟨F.ok.at0 G rfl, ?_⟩
  refine c_lx G F.ok (rm1.le (by decide)) hsz ?_
  intro a h2 tk2 k2 K2 X2 hlo2
  rw [hx] at X2
  have F2 := F.call k2 K2
  have hL : ∀ b ∈ [a.lx, a.ldx, a.pb, a.sx, a.sdx, a.f, a.l, a.c], hp.objs.size ≤ b ∧ @Ne Nat b hp.objs.size := fun b hb => by
    have z2 : hp.objs.size < h1.objs.size := ns_lt F.ns
    have z3 : h1.objs.size ≤ b := hlo2 b hb
    exact ⟨Nat.le_of_lt (Nat.lt_of_lt_of_le z2 z3), Nat.ne_of_gt (Nat.lt_of_lt_of_le z2 z3)⟩
  have hLn : ∀ b ∈ [a.lx, a.ldx, a.pb, a.sx, a.sdx, a.f, a.l, a.c], @Ne Nat b hp.objs.size := fun b hb => (hL b hb).2
  have hS : ∀ t ∈ [a.ldx, a.l], hp.objs.size ≤ t ∧ @Ne Nat t hp.objs.size := fun b hb => hL b (by
    rcases List.mem_cons.mp hb with rfl | hb
    · simp
    · cases List.mem_singleton.mp hb; simp)
  refine rStS F2 ?_
  intro h3 S3 F3
  have X3 := X2.sto S3 hLn (ns_nc F2.ns)
  repeat (first | (first | ((with_reducible show wpAny _ _ (execs (Stmt.Assign [Expr.Name _ _] _ _ :: _) _) _ _ _); refine rAs ?_) | with_reducible refine rRet ?_ | with_reducible refine rIf ?_ | with_reducible refine wpAny_BinOp ?_ | with_reducible refine rI ?_ | with_reducible refine rS ?_ | ((with_reducible show wpAny _ _ (eval (Expr.Name _ _) _) _ _ _); refine nL (by assumption) rfl ?_) | ((with_reducible show wpAny _ _ (storeName _ _ _) _ _ _); refine rSt (by assumption) ?_; intro _ _) | ((with_reducible show wpAny _ _ (isTrue (Expr.Compare _ [_] [_] _) _ _) _ _ _); refine wpAny_isTrue_Compare1 ?_) | with_reducible refine wpAny_truthy_bool ?_ | with_reducible refine rEq ?_ | ((with_reducible show wpAny _ _ (eval (Expr.Call _ _ [] _) _) _ _ _); refine Call_ ?_) | ((with_reducible show wpAny _ _ (spliced (backTo _ (starEach (_ :: _) _))) _ _ _); refine spliced_more ?_) | ((with_reducible show wpAny _ _ (spliced (backTo _ (starEach [] _))) _ _ _); refine spliced_none ?_) | with_reducible refine wpAny_IfExp ?_) | (dsimp only; first | ((with_reducible show wpAny _ _ (execs (Stmt.Assign [Expr.Name _ _] _ _ :: _) _) _ _ _); refine rAs ?_) | with_reducible refine rRet ?_ | with_reducible refine rIf ?_ | with_reducible refine wpAny_BinOp ?_ | with_reducible refine rI ?_ | with_reducible refine rS ?_ | ((with_reducible show wpAny _ _ (eval (Expr.Name _ _) _) _ _ _); refine nL (by assumption) rfl ?_) | ((with_reducible show wpAny _ _ (storeName _ _ _) _ _ _); refine rSt (by assumption) ?_; intro _ _) | ((with_reducible show wpAny _ _ (isTrue (Expr.Compare _ [_] [_] _) _ _) _ _ _); refine wpAny_isTrue_Compare1 ?_) | with_reducible refine wpAny_truthy_bool ?_ | with_reducible refine rEq ?_ | ((with_reducible show wpAny _ _ (eval (Expr.Call _ _ [] _) _) _ _ _); refine Call_ ?_) | ((with_reducible show wpAny _ _ (spliced (backTo _ (starEach (_ :: _) _))) _ _ _); refine spliced_more ?_) | ((with_reducible show wpAny _ _ (spliced (backTo _ (starEach [] _))) _ _ _); refine spliced_none ?_) | with_reducible refine wpAny_IfExp ?_))
  refine rList ?_
  repeat (first | (first | ((with_reducible show wpAny _ _ (execs (Stmt.Assign [Expr.Name _ _] _ _ :: _) _) _ _ _); refine rAs ?_) | with_reducible refine rRet ?_ | with_reducible refine rIf ?_ | with_reducible refine wpAny_BinOp ?_ | with_reducible refine rI ?_ | with_reducible refine rS ?_ | ((with_reducible show wpAny _ _ (eval (Expr.Name _ _) _) _ _ _); refine nL (by assumption) rfl ?_) | ((with_reducible show wpAny _ _ (storeName _ _ _) _ _ _); refine rSt (by assumption) ?_; intro _ _) | ((with_reducible show wpAny _ _ (isTrue (Expr.Compare _ [_] [_] _) _ _) _ _ _); refine wpAny_isTrue_Compare1 ?_) | with_reducible refine wpAny_truthy_bool ?_ | with_reducible refine rEq ?_ | ((with_reducible show wpAny _ _ (eval (Expr.Call _ _ [] _) _) _ _ _); refine Call_ ?_) | ((with_reducible show wpAny _ _ (spliced (backTo _ (starEach (_ :: _) _))) _ _ _); refine spliced_more ?_) | ((with_reducible show wpAny _ _ (spliced (backTo _ (starEach [] _))) _ _ _); refine spliced_none ?_) | with_reducible refine wpAny_IfExp ?_) | (dsimp only; first | ((with_reducible show wpAny _ _ (execs (Stmt.Assign [Expr.Name _ _] _ _ :: _) _) _ _ _); refine rAs ?_) | with_reducible refine rRet ?_ | with_reducible refine rIf ?_ | with_reducible refine wpAny_BinOp ?_ | with_reducible refine rI ?_ | with_reducible refine rS ?_ | ((with_reducible show wpAny _ _ (eval (Expr.Name _ _) _) _ _ _); refine nL (by assumption) rfl ?_) | ((with_reducible show wpAny _ _ (storeName _ _ _) _ _ _); refine rSt (by assumption) ?_; intro _ _) | ((with_reducible show wpAny _ _ (isTrue (Expr.Compare _ [_] [_] _) _ _) _ _ _); refine wpAny_isTrue_Compare1 ?_) | with_reducible refine wpAny_truthy_bool ?_ | with_reducible refine rEq ?_ | ((with_reducible show wpAny _ _ (eval (Expr.Call _ _ [] _) _) _ _ _); refine Call_ ?_) | ((with_reducible show wpAny _ _ (spliced (backTo _ (starEach (_ :: _) _))) _ _ _); refine spliced_more ?_) | ((with_reducible show wpAny _ _ (spliced (backTo _ (starEach [] _))) _ _ _); refine spliced_none ?_) | with_reducible refine wpAny_IfExp ?_))
  refine rNewL ?_ (by simp [sizeLine])
  have F4 := F3.psh (LO [] 0)
  have X4 := X3.keep F3.ok (h' := h3.push (LO [] 0)) ⟨by rw [Heap.size_push]; (clear hsz hn; omega), fun b o e _ _ => Heap.get?_push_of_some _ e⟩
  generalize hlq : h3.objs.size = lq at *
  refine rStS F4 ?_
  intro h5 S5 F5
  have X5 := X4.sto S5 hLn (ns_nc F4.ns)
  have hlqn : ∀ b ∈ [a.lx, a.ldx, a.pb, a.sx, a.sdx, a.f, a.l, a.c], @Ne Nat b lq := fun b hb => Nat.ne_of_lt (hlq ▸ X3.ltAll b hb)
  have hlqS : lq ∉ [a.ldx, a.l] := by
    obtain ⟨_, _, _, _, _, _, _, ed⟩ := X3.ldx
    obtain ⟨_, _, el, _⟩ := X3.l
    exact mem2 (Nat.ne_of_gt (hlq ▸ Heap.lt_size ed)) (Nat.ne_of_gt (hlq ▸ Heap.lt_size el))
  have tlen : ∀ (vs : List (List Nat)), (∀ v ∈ vs, v.length ≤ 64) → (tj s vs).length ≤ 65 * vs.length := by
    intro vs
    induction vs with
    | nil => intro _; simp [tj]
    | cons v vs ih =>
      intro hv
      have h1 := hv v (.head _)
      have h2 := ih fun y hy => hv y (.tail _ hy)
      cases vs with
      | nil => simp [tj] at *; (clear hsz hn hlq hlo2 hL hLn hS hlqn hlqS hv; omega)
      | cons v2 r => simp [tj] at *; (clear hsz hn hlq hlo2 hL hLn hS hlqn hlqS hv; omega)
  -- a token read
  have tok : ∀ {A' : Around} {R' : Result → Shared → Prop} {h' : Heap} {mm : Str → Option Value} {nw : List (Addr × Obj)} {tk' : Nat} {vs : List (List Nat)}, Rm A' 9 → FS g0 hp [] hp.objs.size h' mm nw → (∀ p ∈ nw, p.1 ∉ [a.ldx, a.l]) →
      LX w g0 h' a (tj s vs) → (∀ v ∈ vs, v ≠ [] ∧ v.length ≤ 64 ∧ ∀ c ∈ v, Ltr c) → vs.length ≤ 1000 →
      (∀ t h2 tks, FS g0 hp [] hp.objs.size h2 mm nw → LX w g0 h2 a (tj s vs.tail) → R' (.ok (.ret (.str (tx (vs.headD [])) t))) ⟨h2, gn, dr, tks, os⟩) →
      codeAny (model PP w) A' (.call (.ref aGT) ⟨[.ref a.lx], []⟩) R' ⟨h', gn, dr, tk', os⟩ := by
    intro A' R' h' mm nw tk' vs rm' F' hnw X' hv hvl q
    have tl := tlen vs fun v hv' => (hv v hv').2.1
    cases vs with
    | nil =>
      refine c_gt G F'.ok (wd := []) (rest := []) rm' X' (by simp) (by simp) (.inl rfl) ?_
      intro t h2 tks k2 K2 X2
      exact q t h2 tks (F'.callF k2 K2 hS hnw) X2
    | cons v vs =>
      obtain ⟨rest, e1, e2, e3⟩ := tj_cons s v vs
      rw [e1] at X' tl
      refine c_gt G F'.ok (wd := v) (rest := rest) rm' X' (by simp at tl hvl ⊢; (clear hsz hn hlq hlqS e3; omega)) (hv v (.head _)).2.2 (e3.imp id fun ⟨r, e⟩ => ⟨(hv v (.head _)).1, s, r, e, hs⟩) ?_
      intro t h2 tks k2 K2 X2
      rw [e2] at X2
      exact q t h2 tks (F'.callF k2 K2 hS hnw) X2
  have gtc : ∀ {A' : Around} {E' : Value → Shared → Prop} {Q' : Value → Shared → Prop} {h' : Heap} {mm : Str → Option Value} {nw : List (Addr × Obj)} {tk' : Nat} {vs : List (List Nat)} {pl : Sem Bool} {pos : Pos} {env : Env}, Rm A' 9 → FS g0 hp [] hp.objs.size h' mm nw → (∀ p ∈ nw, p.1 ∉ [a.ldx, a.l]) →
      LX w g0 h' a (tj s vs) → (∀ v ∈ vs, v ≠ [] ∧ v.length ≤ 64 ∧ ∀ c ∈ v, Ltr c) → vs.length ≤ 1000 →
      (∀ t h2 tks, FS g0 hp [] hp.objs.size h2 mm nw → LX w g0 h2 a (tj s vs.tail) → Q' (.str (tx (vs.headD [])) t) ⟨h2, gn, dr, tks, os⟩) →
      wpAny (model PP w) A' (getMethod (.ref a.lx) "get_token" pl) (fun fx s₂ => wpAny (model PP w) A' (callWith pos fx.1 fx.2 (backTo pos (starEach [] env)) []) Q' E' s₂) E' ⟨h', gn, dr, tk', os⟩ := by
    intro A' E' Q' h' mm nw tk' vs pl pos env rm' F' hnw X' hv hvl q
    obtain ⟨t1, t2, t3, t4, ln, u1, u3, ed⟩ := X'.ldx
    refine rGMf G F'.ok X'.lx ed (q_gt w) (q_gtf w) (sh_gt ..) ?_
    refine rCWf ⟨⟨F'.ok.at0 G rfl, rfl⟩, ?_⟩
    exact tok rm' F' hnw X' hv hvl q
  repeat (first | (first | ((with_reducible show wpAny _ _ (execs (Stmt.Assign [Expr.Name _ _] _ _ :: _) _) _ _ _); refine rAs ?_) | with_reducible refine rRet ?_ | with_reducible refine rIf ?_ | with_reducible refine wpAny_BinOp ?_ | with_reducible refine rI ?_ | with_reducible refine rS ?_ | ((with_reducible show wpAny _ _ (eval (Expr.Name _ _) _) _ _ _); refine nL (by assumption) rfl ?_) | ((with_reducible show wpAny _ _ (storeName _ _ _) _ _ _); refine rSt (by assumption) ?_; intro _ _) | ((with_reducible show wpAny _ _ (isTrue (Expr.Compare _ [_] [_] _) _ _) _ _ _); refine wpAny_isTrue_Compare1 ?_) | with_reducible refine wpAny_truthy_bool ?_ | with_reducible refine rEq ?_ | ((with_reducible show wpAny _ _ (eval (Expr.Call _ _ [] _) _) _ _ _); refine Call_ ?_) | ((with_reducible show wpAny _ _ (spliced (backTo _ (starEach (_ :: _) _))) _ _ _); refine spliced_more ?_) | ((with_reducible show wpAny _ _ (spliced (backTo _ (starEach [] _))) _ _ _); refine spliced_none ?_) | with_reducible refine wpAny_IfExp ?_) | (dsimp only; first | ((with_reducible show wpAny _ _ (execs (Stmt.Assign [Expr.Name _ _] _ _ :: _) _) _ _ _); refine rAs ?_) | with_reducible refine rRet ?_ | with_reducible refine rIf ?_ | with_reducible refine wpAny_BinOp ?_ | with_reducible refine rI ?_ | with_reducible refine rS ?_ | ((with_reducible show wpAny _ _ (eval (Expr.Name _ _) _) _ _ _); refine nL (by assumption) rfl ?_) | ((with_reducible show wpAny _ _ (storeName _ _ _) _ _ _); refine rSt (by assumption) ?_; intro _ _) | ((with_reducible show wpAny _ _ (isTrue (Expr.Compare _ [_] [_] _) _ _) _ _ _); refine wpAny_isTrue_Compare1 ?_) | with_reducible refine wpAny_truthy_bool ?_ | with_reducible refine rEq ?_ | ((with_reducible show wpAny _ _ (eval (Expr.Call _ _ [] _) _) _ _ _); refine Call_ ?_) | ((with_reducible show wpAny _ _ (spliced (backTo _ (starEach (_ :: _) _))) _ _ _); refine spliced_more ?_) | ((with_reducible show wpAny _ _ (spliced (backTo _ (starEach [] _))) _ _ _); refine spliced_none ?_) | with_reducible refine wpAny_IfExp ?_))
  refine rM ?_
  refine nL F5 rfl ?_
  refine gtc (rm1.le (by decide)) F5 (fun p hp' => by cases List.mem_singleton.mp hp'; exact hlqS) X5 hws hn ?_
  intro t6 h6 tk6 F6 X6
  refine rStS F6 ?_
  intro h7 S7 F7
  have X7 := X6.sto S7 hLn (ns_nc F6.ns)
  refine rWhile (fun i sh => ∃ done todo h' tk' mm vs n tt, sh = ⟨h', gn, dr, tk', os⟩ ∧ FS g0 hp [] hp.objs.size h' mm [(lq, LO vs n)] ∧ ws = done ++ todo ∧ i = todo.length ∧ IntsAre vs (done.map wval) ∧ LX w g0 h' a (tj s todo.tail) ∧
    mm "lexer" = some (.ref a.lx) ∧ mm "found" = some (.ref lq) ∧ mm "word" = some (.str (tx (todo.headD [])) tt)) ?_ ws.length ?_
  · rintro J hJ i sh ⟨done, todo, h', tk', mm, vs, n, tt, rfl, F', hdt, rfl, hin, X', ml, mf, mw⟩
    refine isTrue_plain ?_
    refine nL F' mw ?_
    have hnv := hin.length
    cases todo with
    | nil =>
      refine rTrS (by simp [tx, Str.length]) ?_
      intro tk8
      refine iteF (by simp [tx, Str.length]) ?_
      refine rRet ?_
      refine nL F' mf ?_
      rw [List.append_nil] at hdt
      subst hdt
      have q := fun tks => h lq vs n h' tks F'.ok F'.kp (F'.lo' (.head _)) (F'.at 0 rfl) hin
      exact q _
    | cons v todo =>
      have hv := hws v (by rw [hdt]; simp)
      have mw' : mm "word" = some (.str (tx v) tt) := mw
      refine rTrS (by show v.toArray.size ≤ _; simp; (clear hsz hn hlq hlqS hnv; omega)) ?_
      intro tk8
      refine iteT (by have : v.length ≠ 0 := fun q => hv.1 (List.eq_nil_of_length_eq_zero q)
                      show (((v.toArray.size : Nat) : Int) != 0) = true
                      simp; exact hv.1) ?_
      refine rEx ?_
      refine rM ?_
      refine nL F' mf ?_
      refine rAppM (F'.at 0 rfl) ?_
      refine rCM ?_
      refine spliced_more ?_
      refine Call_ ?_
      refine nG G F' rfl ?_
      refine rCW (F'.ok.at0 G rfl) rfl ?_
      refine spliced_more ?_
      refine rLC ?_
      refine Call_ ?_
      refine nB G F' rfl rfl ?_
      refine rCT ?_
      refine spliced_more ?_
      refine nL F' mw' ?_
      refine spliced_none ?_
      refine rRevSt (by show v.toArray.size ≤ _; simp; (clear hsz hn hlq hlqS hnv; omega)) ?_
      intro tk9
      have F9 := F'.psh (revS (tx v) tt (((tx v).length : Int) - 1))
      have X9 := X'.keep F'.ok (h' := h'.push (revS (tx v) tt (((tx v).length : Int) - 1))) ⟨by rw [Heap.size_push]; (clear hsz hn hlq hlqS hnv hv; omega), fun b o e _ _ => Heap.get?_push_of_some _ e⟩
      have hit0 : g0.objs.size ≤ h'.objs.size := F'.ok.sz
      generalize hit : h'.objs.size = it at *
      generalize hh9 : h'.push (revS (tx v) tt (((tx v).length : Int) - 1)) = h9 at *
      have hvlen : (tx v).length = v.length := by show v.toArray.size = _; simp
      refine rIterRS (x := tx v) (i := 0) (F9.at 0 rfl) rfl ?_
      refine rLCb (T := [it]) F9.ok (fun i sh => ∃ h' tk' mm vs2 n2, sh = ⟨h', gn, dr, tk', os⟩ ∧ FS g0 h9 [it] (h9.objs.size + 1) h' mm [(it, revS (tx v) tt ((i : Int) - 1)), (h9.objs.size, LO vs2 n2)] ∧
        IntsAre vs2 ((v.drop i).reverse.map fun (c : Nat) => (c : Int) - 65) ∧ i ≤ v.length) v.length ?_ ?_ ?_
      · rintro Q E sh ⟨j1, j2, j3, j4, j5, rfl, J, _⟩ q
        exact rIterRS (x := tx v) (i := 0) (J.at 0 rfl) rfl q
      · intro j1 j2 J kk
        have J2 := J.addT (kk _ _ (F9.at 0 rfl)) (by simp) hit0 (fun p hp' => by
          cases List.mem_singleton.mp hp'
          have : it < h9.objs.size := Heap.lt_size (F9.at 0 rfl)
          exact Nat.ne_of_gt this) (Nat.ne_of_lt (Nat.lt_succ_of_lt (Heap.lt_size (F9.at 0 rfl))))
        rw [hvlen] at J2
        exact ⟨j1, j2, _, [], 0, rfl, J2, by rw [List.drop_length]; exact .nil, Nat.le_refl _⟩
      · rintro i sh ⟨j1, j2, j3, vs2, n2, rfl, J, hi2, hile⟩
        cases i with
        | zero =>
          refine rNextRE (x := tx v) rm1.hd (J.at 0 rfl) ?_
          intro j4 E4
          have J4 := J.dropX (fun vs q t z e => by cases z; cases e) E4
          refine ⟨_, J4.ns, ?_⟩
          intro j5 S5
          obtain ⟨k5, K5, e5⟩ := J4.out S5
          have eD := e5 _ (.head _)
          have F10 := (F9.callD k5 K5).add eD (F9.gsz) (fun p hp' => by
            cases List.mem_singleton.mp hp'
            exact Nat.ne_of_lt (Heap.lt_size (F9.at 1 rfl))) (Nat.ne_of_gt (ns_lt F9.ns))
          have nit : ∀ b, b < it → b ∉ [it] := fun b hb q => Nat.ne_of_lt hb (List.mem_singleton.mp q)
          have X10 := X'.keep F'.ok (h' := j5) ⟨Nat.le_trans (by rw [← hh9, Heap.size_push]; (clear hsz hn hlq hlqS hnv hv hit hit0 hvlen hile; omega)) K5.sz, fun b o e q _ => K5.kp b o (by rw [← hh9]; exact Heap.get?_push_of_some _ e) q (nit b (hit ▸ Heap.lt_size e))⟩
          refine spliced_more ?_
          refine rI ?_
          refine spliced_none ?_
          refine ⟨F10.ok.at0 G rfl, ?_⟩
          rw [List.drop_zero] at hi2
          refine c_d2i G F10.ok (n := 4) (ds := v.reverse.map fun (c : Nat) => (c : Int) - 65) (rm1.le (by simp; (clear hsz hn hlq hlqS hnv hit hit0 hile; omega))) (LO.is eD) hi2 ?_ (by simp; (clear hsz hn hlq hlqS hnv hit hit0 hile; omega)) (by (clear hsz hn hlq hlqS hnv hv hit hit0 hvlen hile; omega)) (F10.ok.nt (F10.lo0 (.head _))) ?_
          · intro d hd
            obtain ⟨c, hc, rfl⟩ := List.mem_map.mp hd
            have := hv.2.2 c (List.mem_reverse.mp hc)
            have h1 := this.1
            have h2 := this.2
            refine ⟨by (clear hsz hn hlq hlqS hnv hv hit hit0 hvlen hile; omega), ?_⟩
            show (c : Int) - 65 < 16
            (clear hsz hn hlq hlqS hnv hv hit hit0 hvlen hile; omega)
          intro tk11 h11 tks11 k11 K11
          have F11 := F10.call k11 K11
          have X11 := X10.keep F10.ok K11
          dsimp only
          refine spliced_none ?_
          refine rAppendS F11 1 rfl (by rw [hnv, List.length_map]; have e := congrArg List.length hdt; rw [List.length_append] at e; (clear hsz hlq hlqS hnv hv hit hit0 hvlen hile; omega)) ?_
          intro h12 S12 F12
          have X12 := X11.sto S12 hlqn (fun o e => by rw [F11.at 1 rfl] at e; cases e; exact list_nc rfl)
          repeat (first | (first | ((with_reducible show wpAny _ _ (execs (Stmt.Assign [Expr.Name _ _] _ _ :: _) _) _ _ _); refine rAs ?_) | with_reducible refine rRet ?_ | with_reducible refine rIf ?_ | with_reducible refine wpAny_BinOp ?_ | with_reducible refine rI ?_ | with_reducible refine rS ?_ | ((with_reducible show wpAny _ _ (eval (Expr.Name _ _) _) _ _ _); refine nL (by assumption) rfl ?_) | ((with_reducible show wpAny _ _ (storeName _ _ _) _ _ _); refine rSt (by assumption) ?_; intro _ _) | ((with_reducible show wpAny _ _ (isTrue (Expr.Compare _ [_] [_] _) _ _) _ _ _); refine wpAny_isTrue_Compare1 ?_) | with_reducible refine wpAny_truthy_bool ?_ | with_reducible refine rEq ?_ | ((with_reducible show wpAny _ _ (eval (Expr.Call _ _ [] _) _) _ _ _); refine Call_ ?_) | ((with_reducible show wpAny _ _ (spliced (backTo _ (starEach (_ :: _) _))) _ _ _); refine spliced_more ?_) | ((with_reducible show wpAny _ _ (spliced (backTo _ (starEach [] _))) _ _ _); refine spliced_none ?_) | with_reducible refine wpAny_IfExp ?_) | (dsimp only; first | ((with_reducible show wpAny _ _ (execs (Stmt.Assign [Expr.Name _ _] _ _ :: _) _) _ _ _); refine rAs ?_) | with_reducible refine rRet ?_ | with_reducible refine rIf ?_ | with_reducible refine wpAny_BinOp ?_ | with_reducible refine rI ?_ | with_reducible refine rS ?_ | ((with_reducible show wpAny _ _ (eval (Expr.Name _ _) _) _ _ _); refine nL (by assumption) rfl ?_) | ((with_reducible show wpAny _ _ (storeName _ _ _) _ _ _); refine rSt (by assumption) ?_; intro _ _) | ((with_reducible show wpAny _ _ (isTrue (Expr.Compare _ [_] [_] _) _ _) _ _ _); refine wpAny_isTrue_Compare1 ?_) | with_reducible refine wpAny_truthy_bool ?_ | with_reducible refine rEq ?_ | ((with_reducible show wpAny _ _ (eval (Expr.Call _ _ [] _) _) _ _ _); refine Call_ ?_) | ((with_reducible show wpAny _ _ (spliced (backTo _ (starEach (_ :: _) _))) _ _ _); refine spliced_more ?_) | ((with_reducible show wpAny _ _ (spliced (backTo _ (starEach [] _))) _ _ _); refine spliced_none ?_) | with_reducible refine wpAny_IfExp ?_))
          refine rM ?_
          refine nL F12 ml ?_
          refine gtc (vs := todo) (rm1.le (by decide)) F12 (fun p hp' => ?_) X12 (fun y hy => hws y (by rw [hdt]; simp [hy])) (by have e := congrArg List.length hdt; rw [List.length_append, List.length_cons] at e; (clear hsz hlq hlqS hnv hv hit hit0 hvlen hile; omega)) ?_
          · rcases List.mem_cons.mp hp' with rfl | hp'
            · intro q
              have := X9.ltAll h9.objs.size (by
                have q' : h9.objs.size ∈ [a.ldx, a.l] := q
                rcases List.mem_cons.mp q' with q | q
                · rw [q]; simp
                · rw [List.mem_singleton.mp q]; simp)
              exact Nat.lt_irrefl _ this
            · cases List.mem_singleton.mp hp'
              exact hlqS
          intro t13 h13 tk13 F13 X13
          refine rStS F13 ?_
          intro h14 S14 F14
          have X14 := X13.sto S14 hLn (ns_nc F13.ns)
          refine rNil ?_
          refine ⟨todo.length, by simp, hJ _ _ ⟨done ++ [v], todo, h14, _, _, vs ++ [.int (wval v) tk11], n + 1, t13, rfl, F14.drop (List.sublist_cons_self _ _), by rw [hdt, List.append_assoc]; rfl, rfl, ?_, X14, ?_, ?_, ?_⟩⟩
          · rw [List.map_append]
            exact IntsAre.append hin (.cons _ _ .nil)
          · exact ml
          · exact mf
          · rfl
        | succ i =>
          have hil : i < v.length := hile
          refine rNextRS (x := tx v) (i := i) (c := v[i]) (by have := J.at 0 rfl; rw [this]; congr 3; simp) (by show v.toArray[i]? = _; simp [hil]) (by show v.toArray.size ≤ _; simp; (clear hsz hn hlq hlqS hnv hit hit0 hile hil; omega)) ?_
          intro j4 u4 tk4 S4 e4
          have J4 := J.updS 0 rfl (fun vs q t z e => by cases z; cases e) S4 e4
          refine rSt J4 ?_
          intro j5 J5
          refine rM ?_
          refine rS ?_
          refine rFindM ?_
          refine rCM ?_
          refine spliced_more ?_
          refine nL J5 rfl ?_
          refine spliced_none ?_
          refine rFind ?_
          rw [l_find (hv.2.2 _ (List.getElem_mem hil))]
          refine rAppend J5 1 rfl (by have := hi2.length; simp at this; (clear hsz hn hlq hlqS hnv hit hit0; omega)) ?_
          intro j6 J6
          refine ⟨i, Nat.lt_succ_self i, j6, _, _, _, _, rfl, J6, ?_, by (clear hsz hn hlq hlqS hnv hv hit hit0; omega)⟩
          rw [List.drop_eq_getElem_cons hil, List.reverse_cons, List.map_append]
          exact IntsAre.append hi2 (.cons _ _ .nil)
  · exact ⟨[], ws, _, _, _, [], 0, _, rfl, F7, rfl, rfl, .nil, X7, rfl, rfl, rfl⟩
end Mine

section
open PySem.Builtin
namespace Mine
theorem args_dec2 (a b : Value) : argsOk "bytes.decode" ⟨[a, b], []⟩ := by
  first | (unfold argsOk; kernel_rfl) | exact FB.args_bytes_decode_2 _ _
theorem dec_eq (c : UInt8) (cs : List UInt8) (t u : Tok) : «bytes.decode» ⟨[.bytes (c :: cs).toArray t, .str (PySem.Str.ofString "ascii") u], []⟩ =
    (mkStr (PySem.Str.ofString "utf-8") >>= fun _ => mkStr (PySem.Str.ofString "ascii") >>= fun e => mkStr (PySem.Str.ofString "bytes.decode") >>= fun d =>
    call (.builtin "_codecs.decode.text") [.bytes (c :: cs).toArray t, e, .none, d] >>= fun v => ret v) := by kernel_rfl
theorem road_a {b : Array UInt8} {id : String} : _codecs.decodeRoad id b (PySem.Str.ofString "ascii") none [] = (_codecs.runDecoder id _codecs.asciiDecoder none true b 0 [] >>= fun r => mkStr ⟨r.1⟩) := by kernel_rfl
end Mine
end

section
open PySem.Builtin
namespace Mine
theorem forIn_yields {α β : Type} (f : α → β → Sem (ForInStep β)) : ∀ (l : List α) (S : Nat → β), (∀ i x, l[i]? = some x → f x (S i) = pure (ForInStep.yield (S (i + 1)))) → forIn l (S 0) f = (pure (S l.length) : Sem β)
  | [], S, _ => rfl
  | x :: l, S, h => by
    rw [List.forIn_cons, h 0 x rfl, pure_bind]
    exact forIn_yields f l (fun i => S (i + 1)) fun i y e => h (i + 1) y (by simpa using e)
theorem run_ascii (id : String) (b : Array UInt8) (hb : ∀ c ∈ b.toList, c.toNat < 128) (hsz : b.size ≤ 2 ^ 20) : _codecs.runDecoder id _codecs.asciiDecoder none true b 0 [] = pure (b.map (·.toNat), b.size) := by
  unfold _codecs.runDecoder
  simp only [Std.Legacy.Range.forIn_eq_forIn_range']
  have hn : (List.range' 0 ([:b.size] : Std.Legacy.Range).size).length = b.size := by simp [Std.Legacy.Range.size]
  refine (congrArg (· >>= _) (forIn_yields _ (List.range' 0 ([:b.size] : Std.Legacy.Range).size) (fun i => (i, ((b.toList.take i).map (·.toNat)).toArray, ({ held := [] } : _codecs.Faults))) ?_)).trans ?_
  · intro i x hx
    have hi : i < b.size := by
      have := (List.getElem?_eq_some_iff.mp hx).1
      rwa [hn] at this
    have hout : ¬ (((b.toList.take i).map (·.toNat)).toArray.size > sizeLine) := by simp [sizeLine]; omega
    dsimp only
    rw [if_neg hout, if_neg (by (clear hsz hout; omega))]
    have hc : (b.getD i 0).toNat < 128 := hb _ (by
      have : b.getD i 0 = b[i] := by simp [Array.getD, hi]
      rw [this]; simp)
    have hf : _codecs.asciiDecoder.find true b i = .text [(b.getD i 0).toNat] (i + 1) := by
      show (if (b.getD i 0).toNat < 128 then _ else _) = _
      rw [if_pos hc]; rfl
    rw [hf]
    have e : (List.map (fun x : UInt8 => x.toNat) (List.take i b.toList)).toArray ++ [(b.getD i 0).toNat].toArray = (List.map (fun x : UInt8 => x.toNat) (List.take (i + 1) b.toList)).toArray := by
      have hi' : i < b.toList.length := by simpa using hi
      rw [List.take_succ_eq_append_getElem hi', List.map_append]
      have : b.getD i 0 = b[i] := by simp [Array.getD, hi]
      rw [this]
      apply Array.ext'
      simp
    dsimp only
    rw [e]
  · rw [hn]
    show (pure _ >>= _ : Sem _) = _
    rw [pure_bind]
    have e : b.toList.take b.size = b.toList := List.take_of_length_le (by simp)
    dsimp only
    rw [e]
    congr 2
    apply Array.ext'
    simp
end Mine
end

section
open PySem.Builtin
namespace Mine
theorem meets_text_a {b : Array UInt8} {t t1 t2 : Tok} {x d : PySem.Str} {n : Nat} (hd : ∀ id, _codecs.runDecoder id _codecs.asciiDecoder none true b 0 [] = pure (x.cps, n)) :
    Meets («_codecs.decode.text» ⟨[.bytes b t, .str (PySem.Str.ofString "ascii") t1, .none, .str d t2], []⟩) (fun _ R s => x.length ≤ sizeLine ∧ R (.ok (.ret (.str x s.toks))) { s with toks := s.toks + 1 }) := by
  refine .of_wp fun prog w A R s hS => ?_
  obtain ⟨hsz, h⟩ := hS
  show wpAny _ _ (Bytes.bytesLike _ (.bytes b t) >>= fun r => _) _ _ s
  refine wpAny_bind (wpAny_of_eq KBd.like_eq ?_)
  refine wpAny_bind (wpAny_of_eq KBd.held_eq ?_)
  show wpAny _ _ (_codecs.decodeRoad _ b (PySem.Str.ofString "ascii") none [] >>= fun v => _) _ _ s
  rw [road_a, hd]
  refine wpAny_bind (wpAny_bind (wpAny_pure ?_))
  exact wpAny_mkStr (wpAny_pure ⟨_, rfl, h⟩) hsz
theorem meets_dec_a {c : UInt8} {cs : List UInt8} {t u : Tok} {x : PySem.Str} {n : Nat} (hd : ∀ id, _codecs.runDecoder id _codecs.asciiDecoder none true (c :: cs).toArray 0 [] = pure (x.cps, n)) :
    Meets («bytes.decode» ⟨[.bytes (c :: cs).toArray t, .str (PySem.Str.ofString "ascii") u], []⟩) (fun _ R s => x.length ≤ sizeLine ∧ ∀ t' k, R (.ok (.ret (.str x t'))) { s with toks := k }) := by
  refine .of_wp fun prog w A R s hS => ?_
  obtain ⟨hsz, h⟩ := hS
  rw [dec_eq]
  refine wpAny_bind (wpAny_mkStr ?_ (by decide))
  refine wpAny_bind (wpAny_mkStr ?_ (by decide))
  refine wpAny_bind (wpAny_mkStr ?_ (by decide))
  exact wpAny_bind (call_function_meets KBd.kind_text KBd.plain_text KBd.entry_text (KBd.args_text _ _ _ _) (meets_text_a hd) ⟨hsz, wpAny_pure ⟨_, rfl, h _ _⟩⟩)
section
variable {w : World} {A : Around} {E : Value → Shared → Prop} {Q : Value → Shared → Prop} {t u : Tok} {hp h' : Heap} {gn : Array GenState} {dr : Drawn} {tk : Nat} {os : OsState} {pos : Pos} {k : Nat} {env : Env}
theorem rDecM {b : Array UInt8} {pl : Sem Bool} {QM : Value × List Value → Shared → Prop} (h : QM (.builtin "bytes.decode", [.bytes b t]) ⟨hp, gn, dr, tk, os⟩) : wpAny (model PP w) A (getMethod (.bytes b t) "decode" pl) QM E ⟨hp, gn, dr, tk, os⟩ := KBd.method h
theorem rDec {ds : List Nat} (hne : ds ≠ []) (hd : ∀ d ∈ ds, d < 16) (hl : ds.length ≤ 1000) (h : ∀ t' tk', Q (.str (tx (ds.reverse.map (65 + ·))) t') ⟨hp, gn, dr, tk', os⟩) : wpAny (model PP w) A (call (.builtin "bytes.decode") [.bytes (apB ds) t, .str "ascii" u]) Q E ⟨hp, gn, dr, tk, os⟩ := by
  have hap : ∀ d, d < 16 → (ap d).toNat = 65 + d := by
    intro d hd
    have : ∀ d : Fin 16, (ap d.val).toNat = 65 + d.val := by decide
    exact this ⟨d, hd⟩
  have run : ∀ id, _codecs.runDecoder id _codecs.asciiDecoder none true (apB ds) 0 [] = pure ((tx (ds.reverse.map (65 + ·))).cps, (apB ds).size) := fun id => by
    rw [run_ascii id (apB ds) ?_ (by simp [apB]; (clear hne; omega))]
    · congr 2
      show Array.map _ (apB ds) = (ds.reverse.map (65 + ·)).toArray
      apply Array.ext'
      simp only [apB, Array.toList_map, List.toList_toArray, List.map_map]
      refine List.map_congr_left fun d hm => ?_
      exact hap d (hd d (by simpa using hm))
    · intro c hc
      simp only [apB, List.mem_map, List.toList_toArray] at hc
      obtain ⟨d, hm, rfl⟩ := hc
      have := hd d (by simpa using hm)
      rw [hap d this]
      (clear hne hl; omega)
  obtain ⟨c, cs, ecs⟩ : ∃ c cs, ds.reverse.map ap = c :: cs := by
    cases e : ds.reverse.map ap with
    | nil => exact absurd (by simpa using e) hne
    | cons c cs => exact ⟨c, cs, rfl⟩
  have e : apB ds = (c :: cs).toArray := by unfold apB; rw [ecs]
  rw [e] at run ⊢
  exact call_meets FB.slot_bytes_decode (typeIs_bytes _ _ _) FB.entry_bytes_decode (args_dec2 _ _) (meets_dec_a run) ⟨by show (ds.reverse.map (65 + ·)).toArray.size ≤ _; rw [sizeLine_eq]; simp; (clear hne; omega), fun t' k => h t' k⟩
theorem rJoinM {x : Str} {pl : Sem Bool} {QM : Value × List Value → Shared → Prop} (h : QM (.builtin "str.join", [.str x t]) ⟨hp, gn, dr, tk, os⟩) : wpAny (model PP w) A (getMethod (.str x t) "join" pl) QM E ⟨hp, gn, dr, tk, os⟩ := GM.join h
theorem rJoin {D : Addr} {x : Str} {vs : List Value} {ys : List Str} (hl : hp.IsList D vs.toArray) (hi : StrsAre vs ys) (hsep : x.length ≤ 16) (hw : (ys.map (·.length)).sum + ys.length ≤ 1048576)
    (h : ∀ t' k, Q (.str (Txt.join x ys) t') ⟨hp, gn, dr, k, os⟩) : wpAny (model PP w) A (call (.builtin "str.join") [.str x t, .ref D]) Q E ⟨hp, gn, dr, tk, os⟩ := join_listW hl (by simpa using hi) hsep hw h
end
end Mine
end

section
open PySem.Builtin
namespace Mine
theorem join_tj (s : Nat) : ∀ ws : List (List Nat), (Txt.join (chr s) (ws.map tx)).cps.toList = tj s ws
  | [] => by first | rfl | simp [Txt.join, tj]
  | [w] => by first | rfl | simp [Txt.join, tj]
  | w :: v :: r => by
    have ih := join_tj s (v :: r)
    have e : Txt.join (chr s) ((w :: v :: r).map tx) = tx w ++ chr s ++ Txt.join (chr s) ((v :: r).map tx) := by
      have g : ∀ parts, Txt.join (chr s) parts = Str.join (chr s) parts := fun parts => by first | exact Builtin.Str.glued_eq_join _ _ | exact PySem.StrLaws.glued_eq_join _ _
      rw [g, g]
      rfl
    rw [e, tj, ← ih]
    show (tx w ++ chr s ++ Txt.join (chr s) ((v :: r).map tx)).cps.toList = _
    have a : ∀ x y : Str, (x ++ y).cps = x.cps ++ y.cps := fun x y => rfl
    rw [a, a]
    simp
theorem hx_lt : ∀ (n x : Nat), x < n → ∀ d ∈ hx x, d < 16
  | 0, x, h => absurd h (Nat.not_lt_zero _)
  | n + 1, x, h => by
    intro d hd
    by_cases z : x = 0
    · subst z; rw [hx_zero] at hd; cases hd
    · rw [hx_pos z] at hd
      rcases List.mem_cons.mp hd with rfl | hd
      · exact Nat.mod_lt _ (by decide)
      · exact hx_lt n (x / 16) (by have := Nat.div_lt_self (Nat.pos_of_ne_zero z) (show 1 < 16 by decide); (clear z; omega)) d hd
theorem hx_len : ∀ (k x : Nat), x < 16 ^ k → (hx x).length ≤ k
  | 0, x, h => by
    have : x = 0 := by simpa using h
    subst this; rw [hx_zero]; exact Nat.le_refl _
  | k + 1, x, h => by
    by_cases z : x = 0
    · subst z; rw [hx_zero]; exact Nat.zero_le _
    · rw [hx_pos z, List.length_cons]
      have := hx_len k (x / 16) (by rw [Nat.div_lt_iff_lt_mul (by decide)]; rw [Nat.pow_succ] at h; exact h)
      (clear h z; omega)
theorem hx_ne {x : Nat} (h : x ≠ 0) : hx x ≠ [] := by rw [hx_pos h]; exact List.cons_ne_nil _ _
theorem hx_val : ∀ (n x : Nat), x < n → dsum 4 ((hx x).map fun (d : Nat) => (d : Int)) = x
  | 0, x, h => absurd h (Nat.not_lt_zero _)
  | n + 1, x, h => by
    by_cases z : x = 0
    · subst z; rw [hx_zero]; rfl
    · rw [hx_pos z, List.map_cons, dsum, hx_val n (x / 16) (by have := Nat.div_lt_self (Nat.pos_of_ne_zero z) (show 1 < 16 by decide); (clear z; omega))]
      have := Nat.mod_add_div x 16
      have e : (2 : Int) ^ 4 = 16 := by decide
      rw [e]
      (clear h z this e; omega)
def word (x : Nat) : List Nat := (hx x).reverse.map (65 + ·)
theorem word_val (x : Nat) : wval (word x) = x := by
  unfold wval word
  rw [← List.map_reverse, List.reverse_reverse, List.map_map]
  have : ((fun (c : Nat) => (c : Int) - 65) ∘ fun d : Nat => 65 + d) = fun (d : Nat) => (d : Int) := by
    funext d
    show (((65 + d : Nat)) : Int) - 65 = d
    omega
  rw [this, hx_val (x + 1) x (Nat.lt_succ_self _)]
theorem word_ok {x : Nat} (h0 : x ≠ 0) (h : x < 16 ^ 60) : word x ≠ [] ∧ (word x).length ≤ 64 ∧ ∀ c ∈ word x, Ltr c := by
  refine ⟨?_, ?_, ?_⟩
  · unfold word
    intro q
    exact hx_ne h0 (by simpa using q)
  · unfold word
    have := hx_len 60 x h
    simp
    (clear h0 h; omega)
  · intro c hc
    unfold word at hc
    obtain ⟨d, hd, rfl⟩ := List.mem_map.mp hc
    have := hx_lt (x + 1) x (Nat.lt_succ_self _) d (List.mem_reverse.mp hd)
    exact ⟨by (clear h0 h; omega), by (clear h0 h; omega)⟩
end Mine
end

namespace Mine
section
variable {w : World} {A : Around} {R : GenEnd} {Y : Protocol} {n : Nat} {s₀ : Shared} {c : Code} {fs : List Frame} {s : Shared} {env : Env}
  {K : Flow → Sem Fin} {H : Value → Sem Fin} {gd : Bool → Bool} {lv : List Value → List Value}
abbrev SG (w : World) := Seg (model PP w)
theorem sgIf {test : Expr} {body orelse : List Stmt} {pos : Pos}
    (h : wpAny (model PP w) (A.over c fs) (isTrue test env (eval test env)) (fun b s' => if b = true then SG w A R Y n s₀ c ((execs body env).wrap K H gd lv) fs s' else SG w A R Y n s₀ c ((execs orelse env).wrap K H gd lv) fs s') (fun _ _ => False) s) :
    SG w A R Y n s₀ c ((exec (.If test body orelse pos) env).wrap K H gd lv) fs s := by
  show Seg _ A R Y n s₀ c (.at pos fun _ => ((isTrue test env (eval test env) >>= fun b => if b = true then execs body env else execs orelse env)).wrap K H gd lv) fs s
  refine seg_at ?_
  rw [Sem.bind_eq_wrap', Sem.wrap_wrap]
  refine seg_wrap (wpAny_mono h (fun b s' hb => ?_) fun _ _ z => z.elim)
  cases b with
  | true => rw [if_pos rfl] at hb; exact hb
  | false => rw [if_neg (by decide)] at hb; exact hb
theorem sgStmt {st : Stmt} (h : wpAny (model PP w) (A.over c fs) (exec st env) (fun f s' => SG w A R Y n s₀ c (K f) fs s') (fun _ _ => False) s) : SG w A R Y n s₀ c ((exec st env).wrap K H gd lv) fs s :=
  seg_wrap (wpAny_mono h (fun _ _ z => z) fun _ _ z => z.elim)
abbrev backK (env : Env) (K : Flow → Sem Fin) (H : Value → Sem Fin) (gd : Bool → Bool) (lv : List Value → List Value) : Result → Sem Fin := fun r => ((match r with | .ok f => (.pure f : Sem Flow) | .error e => .raise e).onRaise fun (x : Value) => do
        if (← field x 1) == Value.none then unsupported "frame.own-activation:exception-without-traceback"
        setFlight x env.frame).wrap K H gd lv
theorem sgFor {target iter : Expr} {body : List Stmt} {pos : Pos}
    (h : wpAny (model PP w) (A.over c fs) (eval iter env) (fun x s₁ => wpAny (model PP w) (A.over c fs) (pyIter x) (fun it s₂ =>
      ∀ p, SG w A R Y n s₀ (.forLoop target it body [] env) ((model PP w).den (.forLoop target it body [] env)) (.ret (backK env K H gd lv) none (gd false) (lv []) c p [] :: fs) s₂) (fun _ _ => False) s₁) (fun _ _ => False) s)
    (hs : ∀ x, foldedSetIterable iter env x = pure x := by intro _; rfl) :
    SG w A R Y n s₀ c ((exec (.For target iter body [] pos) env).wrap K H gd lv) fs s := by
  rw [exec_For]
  show Seg _ A R Y n s₀ c (.at pos fun _ => (eval iter env >>= fun x => foldedSetIterable iter env x >>= fun x => standAt iter.pos >>= fun _ => holding [x] (pyIter x) >>= fun it => runOwn (.forLoop target it body [] env) env).wrap K H gd lv) fs s
  refine seg_at ?_
  rw [Sem.bind_eq_wrap', Sem.wrap_wrap]
  refine seg_wrap (wpAny_mono h (fun x s₁ h₁ => ?_) fun _ _ z => z.elim)
  rw [hs x, pure_bind, Sem.bind_eq_wrap', Sem.wrap_wrap]
  refine seg_wrap (wpAny_standAt ?_)
  rw [Sem.bind_eq_wrap', Sem.wrap_wrap]
  refine seg_wrap (wpAny_holding (wpAny_mono h₁ (fun it s₂ h₂ => ?_) fun _ _ z => z.elim))
  exact seg_call h₂
theorem sgForLoop {x : Str} {px : Pos} {it : Value} {body : List Stmt}
    (h : wpAny (model PP w) (A.over (.forLoop (.Name x px) it body [] env) fs) (pyNext it) (fun r s₁ => ∃ v, r = some v ∧ wpAny (model PP w) (A.over (.forLoop (.Name x px) it body [] env) fs) (storeName env x v) (fun _ s₂ =>
      ∀ H', SG w A R Y n s₀ (.forLoop (.Name x px) it body [] env) ((execs body env).wrap (fun f => match f with
            | .next | .cont => .pure (.again (.forLoop (.Name x px) it body [] env))
            | .brk => .pure (.done .next)
            | .ret v => .pure (.done (.ret v))) H' id id) fs s₂) (fun _ _ => False) s₁) (fun _ _ => False) s) :
    SG w A R Y n s₀ (.forLoop (.Name x px) it body [] env) ((model PP w).den (.forLoop (.Name x px) it body [] env)) fs s := by
  show Seg _ A R Y n s₀ _ ((forTurn (.Name x px) it body [] env).onRaise (fun x => do noteFrame x env; theTreesLotGoes x)) fs s
  simp only [forTurn]
  rw [Sem.onRaise_eq_wrap, Sem.bind_eq_wrap', Sem.wrap_wrap]
  refine seg_wrap (wpAny_standAt ?_)
  rw [Sem.bind_eq_wrap', Sem.wrap_wrap]
  refine seg_wrap (wpAny_onRaise (wpAny_mono h (fun r s₁ h₁ => ?_) fun _ _ z => z.elim))
  obtain ⟨v, rfl, h₁⟩ := h₁
  show Seg _ A R Y n s₀ _ (Sem.wrap _ _ _ _ (letOwnedTupleGo (Expr.Name x px) it v >>= _)) fs s₁
  rw [show letOwnedTupleGo (Expr.Name x px) it v = pure () from rfl, pure_bind, Sem.bind_eq_wrap', Sem.wrap_wrap]
  refine seg_wrap (wpAny_assign_Name (wpAny_mono h₁ (fun _ s₂ h₂ => ?_) fun _ _ z => z.elim))
  rw [Sem.bind_eq_wrap', Sem.wrap_wrap]
  have h₃ := h₂ (fun e => Sem.wrap (fun _ => .raise e) .raise id id (do noteFrame e env; theTreesLotGoes e : Sem Unit))
  rw [Sem.wrap_congr (execs body env) _ _ (K' := fun f => match f with
            | .next | .cont => .pure (.again (.forLoop (.Name x px) it body [] env))
            | .brk => .pure (.done .next)
            | .ret v => .pure (.done (.ret v))) (H' := (fun e => (do noteFrame e env; theTreesLotGoes e : Sem Unit).wrap (fun _ => .raise e) .raise id id))
        (fun f => by cases f <;> rfl)
        (fun e => by first | exact Sem.bind_eq_wrap _ _ | (show (do noteFrame e env; theTreesLotGoes e : Sem Unit).bind (fun _ => .raise e) = _; rw [Sem.bind_eq_wrap]))]
  exact h₃
theorem sgWhile {test : Expr} {body : List Stmt} {pos : Pos}
    (h : ∀ p, SG w A R Y n s₀ (.whileLoop test body [] env) ((model PP w).den (.whileLoop test body [] env)) (.ret (backK env K H gd lv) none (gd false) (lv []) c p [] :: fs) s) :
    SG w A R Y n s₀ c ((exec (.While test body [] pos) env).wrap K H gd lv) fs s := seg_While h
theorem sgWhileLoop {test : Expr} {body : List Stmt}
    (h : wpAny (model PP w) (A.over (.whileLoop test body [] env) fs) (isTrue test env (eval test env)) (fun b s' => b = true ∧ ∀ H', SG w A R Y n s₀ (.whileLoop test body [] env) ((execs body env).wrap (fun f => match f with
            | .next | .cont => .pure (.again (.whileLoop test body [] env))
            | .brk => .pure (.done .next)
            | .ret v => .pure (.done (.ret v))) H' id id) fs s') (fun _ _ => False) s) :
    SG w A R Y n s₀ (.whileLoop test body [] env) ((model PP w).den (.whileLoop test body [] env)) fs s := by
  refine seg_whileLoop (wpAny_mono h (fun b s' hb => ?_) fun _ _ z => z.elim)
  obtain ⟨rfl, hb⟩ := hb
  rw [if_pos rfl]
  exact hb _
theorem sgFunc {body : List Stmt}
    (h : ∀ H', SG w A R Y n s₀ (.func body env) ((execs body env).wrap (fun f => .pure (.done (.ret (match f with | .ret v => v | _ => .none)))) H' id id) fs s) :
    SG w A R Y n s₀ (.func body env) ((model PP w).den (.func body env)) fs s := seg_func (h _)
theorem sgCons {st : Stmt} {rest : List Stmt}
    (h : SG w A R Y n s₀ c ((exec st env).wrap (fun f => match f with | .next => (execs rest env).wrap K H gd lv | f => K f) H gd lv) fs s) :
    SG w A R Y n s₀ c ((execs (st :: rest) env).wrap K H gd lv) fs s := seg_execs_cons h
theorem sgYield {e : Expr} {ypos pos : Pos} (hfs : splitAtGen fs = none) (hgd : gd false = false) (hfg : fs.any Frame.guarded = false)
    (h : wpAny (model PP w) (A.over c fs) (eval e env) (fun v s' => ∀ kap : Resume → Shared → Prop,
        (∀ s'', SG w A R Y n s'' c (K .next) fs s'' → kap (.send .none) s'') → Y n s₀ v s' kap)
      (fun _ _ => False) s) (hco : env.scope.isCoroutine = false := by rfl) (hi : interactive env = false := by rfl) :
    SG w A R Y (n + 1) s₀ c ((exec (.Expr (.Yield (some e) ypos) pos) env).wrap K H gd lv) fs s :=
  seg_Expr_Yield hfs hgd hfg (wpAny_mono h (fun v s' z kap hk => z kap fun s'' hs => hk .none s'' hs) fun _ _ z => z.elim) hco hi
end
end Mine

namespace Mine
def Kb (C hi b : Nat) : Prop := b ≠ C ∧ b < hi
def YP (g0 : Heap) (N lo C hi : Nat) (item : Nat → Int) : Protocol := fun m s₀ v s₁ κ => ∃ t h tk, v = .int (item (N - 1 - m)) t ∧ s₁ = ⟨h, s₀.gens, s₀.drawn, tk, s₀.os⟩ ∧ OK g0 h ∧ s₀.heap.objs.size ≤ h.objs.size ∧ (∀ b o, Kb C hi b → s₀.heap.get? b = some o → h.get? b = some o) ∧
  (0 < m → ∀ s'', OK g0 s''.heap → (∀ b o, lo ≤ b → h.get? b = some o → s''.heap.get? b = some o) → κ (.send .none) s'')
abbrev RF : GenEnd := fun _ _ r _ => r = .ok .next ∧ False
theorem FS.mk0 {g0 h : Heap} {C : Addr} {m : Str → Option Value} (k : OK g0 h) (ns : h.Ns C m) (hC : g0.objs.size ≤ C) : FS g0 g0 [] C h m [] :=
  ⟨k, ⟨k.sz, fun b o e q _ => k.kp b o e q⟩, Nat.le_refl _, ns, hC, fun _ q => (nomatch q), fun _ q => (nomatch q), List.nodup_nil, fun _ q => (nomatch q)⟩
section
variable {w : World} {A : Around} {g0 : Heap} {N lo hi : Nat} {item : Nat → Int} {C : Addr} {env : Env} {last : Int}
theorem rTrue {E : Value → Shared → Prop} {Q : Value → Shared → Prop} {s : Shared} {k : Nat} {pos : Pos} {b : Bool} (h : Q (.bool b) s) : wpAny (model PP w) A (eval (.Constant (.bool b) k pos) env) Q E s := fun _ _ _ => h
theorem gi3 {kb : Nat} {pb pn py pe : Pos} {fs : List Frame} (hfs : splitAtGen fs = none) (hfg : fs.any Frame.guarded = false) (hC : g0.objs.size ≤ C) (hlo : lo ≤ C)
    (hL : env.locals = C) (hk : env.scope.kind = .function) (hx : env.kindOf "last_interval" = some .local) (hco : env.scope.isCoroutine = false) (hint : interactive env = false) :
    ∀ (n : Nat) (s₀ : Shared) (h : Heap) (tk : Nat) (m : Str → Option Value) (tl : Tok), n < N → (∀ i, N - 1 - n ≤ i → item i = last) → OK g0 h → h.Ns C m → m "last_interval" = some (.int last tl) → s₀.heap.objs.size ≤ h.objs.size → (∀ b o, Kb C hi b → s₀.heap.get? b = some o → h.get? b = some o) →
      SG w A RF (YP g0 N lo C hi item) (n + 1) s₀ (.whileLoop (.Constant (.bool true) kb pb) [.Expr (.Yield (some (.Name "last_interval" pn)) py) pe] [] env)
        ((model PP w).den (.whileLoop (.Constant (.bool true) kb pb) [.Expr (.Yield (some (.Name "last_interval" pn)) py) pe] [] env)) fs ⟨h, s₀.gens, s₀.drawn, tk, s₀.os⟩ := by
  intro n
  induction n with
  | zero =>
    intro s₀ h tk m tl hn hit k ns hm hsz hkp
    refine sgWhileLoop ?_
    refine isTrue_plain ?_
    refine rTrue ?_
    refine wpAny_truthy_bool ?_
    refine ⟨rfl, fun H' => ?_⟩
    refine sgCons ?_
    refine sgYield hfs rfl hfg ?_ hco hint
    have F := FS.mk0 k ns hC
    refine nL F hm ?_ hL hk hx
    intro kap hkap
    exact ⟨tl, h, _, by rw [hit _ (Nat.le_refl _)], rfl, k, hsz, hkp, fun q => absurd q (Nat.lt_irrefl _)⟩
  | succ n ih =>
    intro s₀ h tk m tl hn hit k ns hm hsz hkp
    refine sgWhileLoop ?_
    refine isTrue_plain ?_
    refine rTrue ?_
    refine wpAny_truthy_bool ?_
    refine ⟨rfl, fun H' => ?_⟩
    refine sgCons ?_
    refine sgYield hfs rfl hfg ?_ hco hint
    have F := FS.mk0 k ns hC
    refine nL F hm ?_ hL hk hx
    intro kap hkap
    refine ⟨tl, h, _, by rw [hit _ (Nat.le_refl _)], rfl, k, hsz, hkp, fun _ s'' k'' h'' => hkap s'' ?_⟩
    refine seg_execs_nil ?_
    refine seg_again rfl ?_
    refine ih s'' s''.heap s''.toks m tl (by (clear hC hlo hL hsz; omega)) (fun i hi => hit i (by (clear hC hlo hL hsz; omega))) k'' ?_ hm (Nat.le_refl _) (fun _ _ _ e => e)
    obtain ⟨oL, es, ep, eL, r⟩ := ns
    exact ⟨oL, es, ep, h'' _ _ hlo eL, r⟩
end
end Mine

namespace Mine
theorem cm_at (w : World) : ∃ t, nsIn (KK w) mainGlobals "CHAR_MAX" = some (some (.int 127 t)) := ⟨_, by rfl⟩
section
variable {w : World} {A : Around} {g0 : Heap} {N lo hi : Nat} {item : Nat → Int} {C l it : Addr} {env : Env} {last : Int} {mg mb : Str → Option Value}
theorem gi2 (G : Gd w mg mb g0) {xs : List Int} {vs : List Value} {p1 p2 p3 p4 p5 p6 p7 p8 p9 p10 p11 p12 p13 p14 p15 p16 p17 p18 p19 q1 q2 q3 q4 q5 q6 : Pos} {k1 k2 k3 : Nat} {rs : List Stmt} {fs : List Frame} (body : List Stmt)
    (hb : body = [.If (.Compare (.Name "interval" p2) [.Eq] [.Name "CHAR_MAX" p3] p4) [.Return none p5] [] p6,
            .If (.Compare (.Name "interval" p7) [.Eq] [.Constant (.int 0) k1 p8] p9) [.If (.Compare (.Name "last_interval" p10) [.Is] [.Constant .none k2 p11] p12) rs [] p13, .While (.Constant (.bool true) k3 p14) [.Expr (.Yield (some (.Name "last_interval" p15)) p16) p17] [] p18] [] p19,
            .Expr (.Yield (some (.Name "interval" q1)) q2) q3, .Assign [.Name "last_interval" q4] (.Name "interval" q5) q6])
    (hfs : splitAtGen fs = none) (hfg : fs.any Frame.guarded = false) (hlog : g0.objs.size ≤ lo) (hlC : lo ≤ C) (hll : lo ≤ l) (hli : lo ≤ it) (hCi : @Ne Nat it C) (hil : @Ne Nat l it) (hCl : @Ne Nat l C)
    (hL : env.locals = C) (hk : env.scope.kind = .function) (hx1 : env.kindOf "last_interval" = some .local) (hx2 : env.kindOf "interval" = some .local) (hx3 : env.kindOf "CHAR_MAX" = some .globalImplicit) (hge : env.globals = mainGlobals) (hco : env.scope.isCoroutine = false) (hint : interactive env = false) (hhi : hi ≤ it)
    (hvs : IntsAre vs (xs ++ [0])) (hxs : ∀ x ∈ xs, x ≠ 127 ∧ x ≠ 0) (hlen : xs.length ≤ 1000) (hit1 : ∀ i (h : i < xs.length), item i = xs[i]) (hit2 : ∀ i, xs.length ≤ i → item i = last) (hlast : ∃ j, j + 1 = xs.length ∧ xs[j]? = some last) :
    ∀ (n : Nat) (i : Nat) (s₀ : Shared) (h : Heap) (tk : Nat) (m : Str → Option Value), n < N → N - 1 - n = i → i ≤ xs.length → OK g0 h → h.Ns C m → (i ≠ 0 → ∃ t x, m "last_interval" = some (.int x t) ∧ xs[i - 1]? = some x) →
      h.IsListIter it l i → h.IsList l vs.toArray → s₀.heap.objs.size ≤ h.objs.size → (∀ b o, Kb C hi b → s₀.heap.get? b = some o → h.get? b = some o) →
      SG w A RF (YP g0 N lo C hi item) (n + 1) s₀ (.forLoop (.Name "interval" p1) (.ref it) body [] env) ((model PP w).den (.forLoop (.Name "interval" p1) (.ref it) body [] env)) fs ⟨h, s₀.gens, s₀.drawn, tk, s₀.os⟩ := by
  intro n
  induction n using Nat.strongRecOn with
  | ind n ih =>
    intro i s₀ h tk m hn hNi hile k ns hml hit hl hsz hkp
    obtain ⟨io, ei, ci, di⟩ := hit
    have hnc : NC io := fun vs q t z e => by rw [di] at z; cases z; cases e
    have F0 := (FS.mk0 k ns (Nat.le_trans hlog hlC)).add ei (Nat.le_trans hlog hli) (fun _ q => (nomatch q)) hCi
    have hvl : i < (xs ++ [0]).length := by simp; (clear hlog hlC hll hli hCi hil hCl hL hge hhi hlen hn hNi hsz; omega)
    obtain ⟨tv, ev⟩ := intsAre_get hvs (i := i) hvl
    generalize hxv : (xs ++ [0])[i] = xv at *
    refine sgForLoop ?_
    refine wpAny_pyNext_list_item ⟨io, ei, ci, di⟩ hl (x := .int xv tv) (by simpa using ev) ?_
    rintro h1 ⟨o1, e1, c1, d1⟩ S1
    have F1 := F0.updS 0 rfl hnc S1 e1
    refine ⟨_, rfl, ?_⟩
    refine rStS F1 ?_ hL hk hx2
    intro h2 S2 F2 H'
    have sz2 : s₀.heap.objs.size ≤ h2.objs.size := Nat.le_trans hsz (Nat.le_trans (same_sz S1) (same_sz S2))
    have kp2 : ∀ b o, Kb C hi b → s₀.heap.get? b = some o → h2.get? b = some o := fun b o hb e =>
      (S2.2 b hb.1).trans ((S1.2 b (Nat.ne_of_lt (Nat.lt_of_lt_of_le hb.2 hhi))).trans (hkp b o hb e))
    have hl2 : h2.IsList l vs.toArray := by
      obtain ⟨ol, el, r⟩ := hl
      exact ⟨ol, (S2.2 _ hCl).trans ((S1.2 _ hil).trans el), r⟩
    have hit2' : h2.IsListIter it l (i + 1) := ⟨o1, F2.at 0 rfl, c1, d1⟩
    subst hb
    obtain ⟨tc, ecm⟩ := cm_at w
    refine sgCons ?_
    refine sgIf ?_
    refine wpAny_isTrue_Compare1 ?_
    refine nL F2 rfl ?_ hL hk hx2
    refine nG G F2 ecm ?_ hge hk hx3
    refine rEq ?_
    refine wpAny_truthy_bool ?_
    by_cases hi2 : i < xs.length
    · have hxi : xs[i] = xv := by rw [← hxv]; exact (List.getElem_append_left hi2).symm
      have hq := hxs xs[i] (List.getElem_mem hi2)
      rw [hxi] at hq
      rw [if_neg (by simpa using hq.1)]
      refine seg_execs_nil ?_
      refine sgCons ?_
      refine sgIf ?_
      refine wpAny_isTrue_Compare1 ?_
      refine nL F2 rfl ?_ hL hk hx2
      refine rI ?_
      refine rEq ?_
      refine wpAny_truthy_bool ?_
      rw [if_neg (by simpa using hq.2)]
      refine seg_execs_nil ?_
      refine sgCons ?_
      refine sgYield hfs rfl hfg ?_ hco hint
      refine nL F2 rfl ?_ hL hk hx2
      intro kap hkap
      refine ⟨tv, h2, _, by rw [hNi, hit1 i hi2, hxi], rfl, F2.ok, sz2, kp2, fun hn0 s'' k'' h'' => hkap s'' ?_⟩
      obtain ⟨n', rfl⟩ : ∃ n', n = n' + 1 := ⟨n - 1, by (clear hlog hlC hll hli hCi hil hCl hL hge hhi hlen hn hNi hile hsz hxv sz2 hxi hq; omega)⟩
      refine sgCons ?_
      have ns2 : s''.heap.Ns C (fun y => if y = "interval" then some (.int xv tv) else m y) := by
        obtain ⟨oL, es, ep, eL, r⟩ := F2.ns
        exact ⟨oL, es, ep, h'' _ _ hlC eL, r⟩
      have F3 := (FS.mk0 k'' ns2 (Nat.le_trans hlog hlC)).add (h'' _ _ hli (F2.at 0 rfl)) (Nat.le_trans hlog hli) (fun _ q => (nomatch q)) hCi
      refine sgStmt ?_
      refine wpAny_Assign_Name ?_ rfl
      refine nL F3 rfl ?_ hL hk hx2
      refine rStS (hp := s''.heap) (gn := s''.gens) (dr := s''.drawn) (tk := s''.toks) (os := s''.os) F3 ?_ hL hk hx1
      intro h4 S4 F4
      refine seg_execs_nil ?_
      refine seg_again rfl ?_
      refine ih n' (Nat.lt_succ_self _) (i + 1) s'' h4 (s''.toks + 1) _ (by (clear hlog hlC hll hli hCi hil hCl hL hge hhi hlen hile hsz hxv sz2 hxi hq hNi hn0; omega)) (by (clear hlog hlC hll hli hCi hil hCl hL hge hhi hlen hile hsz hxv sz2 hxi hq hn0; omega)) (by (clear hlog hlC hll hli hCi hil hCl hL hge hhi hlen hile hsz hxv sz2 hxi hq hn hn0; omega)) F4.ok F4.ns (fun _ => ⟨tv, xv, rfl, ?_⟩) ⟨o1, F4.at 0 rfl, c1, d1⟩ ?_ (same_sz S4) ?_
      · rw [Nat.add_sub_cancel, List.getElem?_eq_getElem hi2, hxi]
      · obtain ⟨ol, el, r⟩ := hl2
        exact ⟨ol, (S4.2 _ hCl).trans (h'' _ _ hll el), r⟩
      · exact fun b o hb e => (S4.2 b hb.1).trans e
    · have hie : i = xs.length := by (clear hlog hlC hll hli hCi hil hCl hL hge hhi hlen hn hNi hsz hxv sz2; omega)
      have hx0 : xv = 0 := by
        rw [← hxv]
        subst hie
        simp
      subst hx0
      rw [if_neg (by decide)]
      refine seg_execs_nil ?_
      refine sgCons ?_
      refine sgIf ?_
      refine wpAny_isTrue_Compare1 ?_
      refine nL F2 rfl ?_ hL hk hx2
      refine rI ?_
      refine rEq ?_
      refine wpAny_truthy_bool ?_
      rw [if_pos (by decide)]
      obtain ⟨j, hj, ej⟩ := hlast
      obtain ⟨tl, xl, hml', exl⟩ := hml (by (clear hlog hlC hll hli hCi hil hCl hL hge hhi hn hNi hsz sz2 hie hxv; omega))
      have : i - 1 = j := by (clear hlog hlC hll hli hCi hil hCl hL hge hhi hn hNi hsz sz2 hie hxv; omega)
      rw [this, ej] at exl
      cases exl
      refine sgCons ?_
      refine sgIf ?_
      refine wpAny_isTrue_Compare1 ?_
      refine nL F2 hml' ?_ hL hk hx1
      refine rNone ?_
      refine is_int_none ?_
      refine wpAny_truthy_bool ?_
      rw [if_neg (by decide)]
      refine seg_execs_nil ?_
      refine sgCons ?_
      refine sgWhile ?_
      intro p
      refine gi3 (last := last) ?_ ?_ (Nat.le_trans hlog hlC) hlC hL hk hx1 hco hint n s₀ h2 _ _ tl hn (fun i' hi' => hit2 i' (by (clear hlog hlC hll hli hCi hil hCl hL hge hhi hlen hn hsz sz2 hie hxv; omega))) F2.ok F2.ns hml' sz2 kp2
      · first | rfl | (show Option.map _ (splitAtGen fs) = none; rw [hfs]; rfl) | (unfold splitAtGen; rw [hfs]; rfl) | simp [splitAtGen, hfs]
      · first | (rw [List.any_cons, hfg]; rfl) | simp [hfg]
end
end Mine

namespace Mine
def GW (w : World) (g0 : Heap) (A₁ : Around) (N lo C hi : Nat) (item : Nat → Int) (n : Nat) (h : Heap) (gs : GenState) : Prop :=
  ∀ s : Shared, OK g0 s.heap → (∀ b o, lo ≤ b → h.get? b = some o → s.heap.get? b = some o) → gs.Goes (model PP w) A₁ RF (YP g0 N lo C hi item) n (.send .none) s
theorem c_gi {w : World} {mg mb : Str → Option Value} {g0 : Heap} (G : Gd w mg mb g0) {A A₁ : Around} {R : Result → Shared → Prop} {hp : Heap} {gn : Array GenState} {dr : Drawn} {tk0 : Nat} {os : OsState} (k : OK g0 hp) {l : Addr} {lo N : Nat} {item : Nat → Int} {last : Int} {xs : List Int} {vs : List Value}
  (rm : Rm A 5) (hl : hp.IsList l vs.toArray) (hll : lo ≤ l) (hlog : g0.objs.size ≤ lo) (hN : 0 < N)
  (hvs : IntsAre vs (xs ++ [0])) (hxs : ∀ x ∈ xs, x ≠ 127 ∧ x ≠ 0) (hlen : xs.length ≤ 1000) (hit1 : ∀ i (h : i < xs.length), item i = xs[i]) (hit2 : ∀ i, xs.length ≤ i → item i = last) (hlast : ∃ j, j + 1 = xs.length ∧ xs[j]? = some last)
 (h : ∀ a h' tks gs, OK g0 h' → Kp [] hp h' → hp.objs.size < a → h'.IsGen a gn.size → gs.bare = true → GW w g0 A₁ N lo hp.objs.size (a + 1) item N h' gs → R (.ok (.ret (.ref a))) ⟨h', gn.push gs, dr, tks, os⟩) :
  codeAny (model PP w) A (.call (.ref aGI) ⟨[.ref l], []⟩) R ⟨hp, gn, dr, tk0, os⟩ := by
  refine codeAny_call_generator (by have := rm.dp; (clear hll hlog hN hlen; omega)) (k.at0 G rfl) rfl rfl rfl rfl (k.code G rfl) ?_
  refine wpAny_of_eq (a := ([("grouping", Value.ref l)] : List (Str × Value))) rfl ?_
  refine wpAny_newFunctionEnv (fun x hx => ?_) (locs (by rfl)) (fun h₁ hns hsb => ⟨?_, ?_⟩) rfl
  · have q := List.all_eq_true.mp (show (List.all _ fun (x : Str × NameKind) => !(x.2 == .cell)) = true from by rfl) x hx
    simpa using q
  · exact (k.lim G).fresh _ hsb
  have kk : ∀ b ob, hp.get? b = some ob → h₁.get? b = some ob := fun b ob e => (hsb.2 b (Nat.ne_of_lt (Heap.lt_size e))).trans (Heap.get?_push_of_some _ e)
  have sz : hp.objs.size ≤ h₁.objs.size := by
    have e := hsb.1
    rw [Heap.size_push] at e
    exact e ▸ Nat.le_succ _
  have k1 := k.ext sz kk
  obtain ⟨ol, el, cl, nl, dl⟩ := hl
  have llt : l < hp.objs.size := Heap.lt_size el
  have hC : lo ≤ hp.objs.size := Nat.le_of_lt (Nat.lt_of_le_of_lt hll llt)
  refine h _ _ _ _ (k1.ext (by rw [Heap.size_push]; exact Nat.le_succ _) (fun b o e => Heap.get?_push_of_some _ e)) ⟨by rw [Heap.size_push]; exact Nat.le_succ_of_le sz, fun b o e _ _ => Heap.get?_push_of_some _ (kk b o e)⟩ (ns_lt hns) ⟨_, _, _, Heap.get?_push_size _ rfl, rfl, rfl, rfl⟩ rfl ?_
  intro s ks hs
  refine ⟨rfl, ?_⟩
  obtain ⟨n, rfl⟩ : ∃ n, N = n + 1 := ⟨N - 1, by (clear hll hlog hlen sz llt hC; omega)⟩
  have nsS : s.heap.Ns hp.objs.size (fun x => ([("grouping", Value.ref l)] : List (Str × Value)).reverse.lookup x) := by
    obtain ⟨oL, es, ep, eL, r⟩ := hns
    exact ⟨oL, es, ep, hs _ _ hC (Heap.get?_push_of_some _ eL), r⟩
  have F := FS.mk0 ks nsS (Nat.le_trans hlog hC)
  refine sgFunc ?_
  intro H'
  refine sgCons ?_
  refine sgStmt ?_
  refine wpAny_Assign_Name ?_ rfl
  refine rNone (hp := s.heap) (gn := s.gens) (dr := s.drawn) (tk := s.toks) (os := s.os) ?_
  refine rStS F ?_
  intro h2 S2 F2
  refine sgCons ?_
  refine sgFor ?_
  refine nL F2 rfl ?_
  have el2 : h2.get? l = some ol := (S2.2 l (Nat.ne_of_lt llt)).trans (hs _ _ hll (Heap.get?_push_of_some _ (kk _ _ el)))
  refine wpAny_pyIter_list ⟨ol, el2, cl, nl, dl⟩ ?_
  intro p
  have F3 := F2.psh { cls := .type "list_iterator", data := .fields #[.ref l, .int 0 0] }
  have hs0 : hp.objs.size < s.heap.objs.size := ns_lt nsS
  have hs2 : s.heap.objs.size = h2.objs.size := S2.1.symm
  have hhi : h₁.objs.size + 1 ≤ h2.objs.size := hs2 ▸ Heap.lt_size (hs _ _ (Nat.le_trans hC sz) (Heap.get?_push_size _ rfl))
  refine gi2 (last := last) (lo := lo) (C := hp.objs.size) (it := h2.objs.size) (l := l) G (xs := xs) (vs := vs) _ rfl rfl rfl hlog hC hll (Nat.le_trans hC (Nat.le_of_lt (hs2 ▸ hs0))) (Nat.ne_of_gt (hs2 ▸ hs0)) (Nat.ne_of_lt (Nat.lt_trans llt (hs2 ▸ hs0))) (Nat.ne_of_lt llt) rfl rfl rfl rfl rfl rfl rfl rfl hhi hvs hxs hlen hit1 hit2 hlast n 0 s _ _ _ (Nat.lt_succ_self _) (by (clear hll hlog hlen sz llt hC hN hs0 hs2 hhi; omega)) (Nat.zero_le _) F3.ok F3.ns (fun q => absurd rfl q) ⟨_, F3.at 0 rfl, rfl, rfl⟩ ⟨ol, Heap.get?_push_of_some _ el2, cl, nl, dl⟩ (by rw [Heap.size_push]; exact hs2 ▸ Nat.le_succ _) ?_
  intro b o hb e
  exact Heap.get?_push_of_some _ ((S2.2 b hb.1).trans e)
end Mine

namespace Mine
def AllB (g : Array GenState) : Prop := ∀ x ∈ g, x.bare = true
theorem AllB.set {g : Array GenState} (h : AllB g) {i : Nat} {x : GenState} (hx : x.bare = true) : AllB (g.setIfInBounds i x) := fun y hy => by
  rcases Array.mem_or_eq_of_mem_setIfInBounds hy with q | q
  · exact h y q
  · exact q ▸ hx
theorem AllB.push {g : Array GenState} (h : AllB g) {x : GenState} (hx : x.bare = true) : AllB (g.push x) := fun y hy => by
  rcases Array.mem_push.mp hy with q | q
  · exact h y q
  · exact q ▸ hx
theorem rNextG {w : World} {mg mb : Str → Option Value} {g0 : Heap} (G : Gd w mg mb g0) {A : Around} {E : Value → Shared → Prop} {Q : Option Value → Shared → Prop} {hp : Heap} {gn : Array GenState} {dr : Drawn} {tk : Nat} {os : OsState} (k : OK g0 hp)
  {a : Addr} {g n N lo C hi : Nat} {item : Nat → Int} {gs : GenState} (rm : Rm A 3) (hg : hp.IsGen a g) (hgs : gn[g]? = some gs) (gw : GW w g0 A.in1 N lo C hi item (n + 1) hp gs) (hall : AllB gn)
  (h : ∀ t h' tk' gs' gn', gn'[g]? = some gs' → AllB gn' → OK g0 h' → hp.objs.size ≤ h'.objs.size → (∀ b o, Kb C hi b → hp.get? b = some o → h'.get? b = some o) → (0 < n → GW w g0 A.in1 N lo C hi item n h' gs') →
    Q (some (.int (item (N - 1 - n)) t)) ⟨h', gn', dr, tk', os⟩) : wpAny (model PP w) A (pyNext (.ref a)) Q E ⟨hp, gn, dr, tk, os⟩ := by
  have hgl : g < gn.size := (Array.getElem?_eq_some_iff.mp hgs).1
  refine wpAny_pyNext_genexpQ (P := fun _ _ _ => False) (Y := YP g0 N lo C hi item) (n := n + 1) rm.hd (k.lim G) (by have := rm.dp; (clear hgl; omega)) hg hgs (gw _ k (fun _ _ _ e => e)) ?_ (fun _ q => q.elim)
  intro v s₁ gs' hb hY
  obtain ⟨t, h1, tk1, rfl, rfl, k1, sz, kp, nx⟩ := hY
  refine h t h1 tk1 gs' _ ?_ ?_ k1 sz kp ?_
  · show ((gn.setIfInBounds g .running).setIfInBounds g gs')[g]? = some gs'
    rw [Array.getElem?_setIfInBounds_self_of_lt (by simpa using hgl)]
  · exact AllB.set (AllB.set hall rfl) hb
  · intro hn s k' hs
    obtain ⟨n', rfl⟩ : ∃ n', n = n' + 1 := ⟨n - 1, by (clear hgl sz; omega)⟩
    exact nx hn s k' hs
end Mine

namespace Mine
section
variable {w : World} {A : Around} {E : Value → Shared → Prop} {Q : Value → Shared → Prop} {t u : Tok} {hp h' : Heap} {gn : Array GenState} {dr : Drawn} {tk : Nat} {os : OsState} {pos : Pos} {k : Nat} {env : Env}
theorem rGt {a b : Int} (h : Q (.bool (decide (b < a))) ⟨hp, gn, dr, tk, os⟩) : wpAny (model PP w) A (compareOp .Gt (.int a t) (.int b u)) Q E ⟨hp, gn, dr, tk, os⟩ := by
  first | exact gt_int h | exact gt_int (by simpa [GT.gt] using h)
theorem rLSl {value slice : Expr} {l : Addr} {items : Array Value} {vl vu : Value} {lo hi : Option Int} (hl : hp.IsList l items) (pl : IsPart vl lo) (pu : IsPart vu hi) (hsz : items.size ≤ 2 ^ 20)
    (h : Q (.ref (hp.objs.size + 1)) ⟨(hp.push { cls := .type "slice", data := .fields #[vl, vu, .none] }).push { cls := .type "list", data := .seq (slicePick items lo hi none) }, gn, dr, tk, os⟩)
    (hs : subscripted slice false (.ref l) (.ref hp.objs.size) = operate [.ref hp.objs.size, .ref l] (getItem (.ref l) (.ref hp.objs.size)) := by with_unfolding_all rfl)
    (ht : ∀ r, letTemporaryGo value (.ref l) r = pure () := by intro _; with_unfolding_all rfl) :
    wpAny (model PP w) A (subscriptTail value slice (.ref l) (.ref hp.objs.size)) Q E ⟨hp.push { cls := .type "slice", data := .fields #[vl, vu, .none] }, gn, dr, tk, os⟩ := by
  refine subscriptTail_ops (Heap.IsList.typeIs (s := ⟨hp.push { cls := .type "slice", data := .fields #[vl, vu, .none] }, gn, dr, tk, os⟩) (hl.push _)) list_getitem_lookup
    (wpAny_getItem_list_slice (hl.push _) (Heap.IsSliceOf.new ..) pl pu .none (by simp) ?_ (by simp [sizeLine]; omega)) hs ht
  show Q (.ref (hp.push _).objs.size) _
  rw [Heap.size_push]
  exact h
end
theorem rNewLg {w : World} {A : Around} {E : Value → Shared → Prop} {Q : Value → Shared → Prop} {hp : Heap} {gn : Array GenState} {dr : Drawn} {tk : Nat} {os : OsState} {vs : List Value} (P : List Value → Prop) (hP : P vs) (hs : vs.length ≤ 1000)
    (h : ∀ vs, P vs → Q (.ref hp.objs.size) ⟨hp.push (LO vs 0), gn, dr, tk, os⟩) : wpAny (model PP w) A (newList vs) Q E ⟨hp, gn, dr, tk, os⟩ := rNewL (h vs hP) (by simp [sizeLine]; omega)
theorem c_gi1 {w : World} {mg mb : Str → Option Value} {g0 : Heap} (G : Gd w mg mb g0) {A : Around} {R : Result → Shared → Prop} {hp : Heap} {gn : Array GenState} {dr : Drawn} {tk0 : Nat} {os : OsState} (k : OK g0 hp) {l : Addr} {lo N : Nat} {item : Nat → Int} {last : Int} {xs : List Int} {vs : List Value}
  (rm : Rm A 5) (hl : hp.IsList l vs.toArray) (hll : lo ≤ l) (hlog : g0.objs.size ≤ lo) (hN : 0 < N)
  (hvs : IntsAre vs (xs ++ [0])) (hxs : ∀ x ∈ xs, x ≠ 127 ∧ x ≠ 0) (hlen : xs.length ≤ 1000) (hit1 : ∀ i (h : i < xs.length), item i = xs[i]) (hit2 : ∀ i, xs.length ≤ i → item i = last) (hlast : ∃ j, j + 1 = xs.length ∧ xs[j]? = some last)
 (h : ∀ a h' tks gs, OK g0 h' → Kp [] hp h' → hp.objs.size < a → h'.IsGen a gn.size → gs.bare = true → GW w g0 A.in1 N lo hp.objs.size (a + 1) item N h' gs → R (.ok (.ret (.ref a))) ⟨h', gn.push gs, dr, tks, os⟩) :
  codeAny (model PP w) A (.call (.ref aGI) ⟨[.ref l], []⟩) R ⟨hp, gn, dr, tk0, os⟩ :=
  c_gi G k rm hl hll hlog hN hvs hxs hlen hit1 hit2 hlast h
theorem GW.mono {w : World} {g0 : Heap} {A₁ : Around} {N lo C hi n : Nat} {item : Nat → Int} {h h' : Heap} {gs : GenState} (x : GW w g0 A₁ N lo C hi item n h gs) (K : ∀ b o, lo ≤ b → h.get? b = some o → h'.get? b = some o) : GW w g0 A₁ N lo C hi item n h' gs :=
  fun s k q => x s k fun b o hb e => q b o hb (K b o hb e)
theorem FS.callG {g0 g h h' : Heap} {T : List Addr} {L C hi : Addr} {m : Str → Option Value} {nw : List (Addr × Obj)} (F : FS g0 g T L h m nw) (k : OK g0 h') (sz : h.objs.size ≤ h'.objs.size) (K : ∀ b o, Kb C hi b → h.get? b = some o → h'.get? b = some o)
    (hgC : g.objs.size ≤ C) (hghi : g.objs.size ≤ hi) (hL : Kb C hi L) (hn : ∀ p ∈ nw, Kb C hi p.1) : FS g0 g T L h' m nw := by
  refine ⟨k, ⟨Nat.le_trans F.kp.sz sz, fun b o e h1 h2 => K b o ⟨Nat.ne_of_lt (Nat.lt_of_lt_of_le (Heap.lt_size e) hgC), Nat.lt_of_lt_of_le (Heap.lt_size e) hghi⟩ (F.kp.kp b o e h1 h2)⟩, F.g0g, ?_, F.le, fun p hp => K _ _ (hn p hp) (F.nws p hp), F.lo, F.nd, F.nL⟩
  obtain ⟨oL, es, ep, eL, r⟩ := F.ns
  exact ⟨oL, es, ep, K _ _ hL eL, r⟩
end Mine

namespace Mine
def plc (d : Nat) : Nat → Nat
  | 0 => 0
  | 1 => 1
  | j + 2 => (j + 1) * d
def stp (d : Nat) : Nat → Int
  | 0 => 1
  | 1 => (d : Int) - 1
  | _ => d
theorem plc_step (d j : Nat) (hd : 2 ≤ d) : (plc d j : Int) + stp d j = plc d (j + 1) := by
  match j with
  | 0 => rfl
  | 1 => show (1 : Int) + ((d : Int) - 1) = ((1 * d : Nat) : Int); (clear hd; omega)
  | j + 2 =>
    show (((j + 1) * d : Nat) : Int) + d = (((j + 2) * d : Nat) : Int)
    have : (j + 2) * d = (j + 1) * d + d := by rw [Nat.add_mul, Nat.add_mul]; (clear hd; omega)
    (clear hd; omega)
theorem c_ls {w : World} {mg mb : Str → Option Value} {g0 : Heap} (G : Gd w mg mb g0) {A : Around} {R : Result → Shared → Prop} {hp : Heap} {gn : Array GenState} {dr : Drawn} {tk0 : Nat} {os : OsState} (k : OK g0 hp) {d last : Nat} {t1 t2 : Tok}
  (rm : Rm A 10) (hd : 2 ≤ d) (hdl : d ≤ last) (hla : last ≤ 100) (hall : AllB gn)
 (h : ∀ l vs n h' gn' tks, OK g0 h' → Kp [] hp h' → AllB gn' → hp.objs.size ≤ l → h'.get? l = some (LO vs n) → IntsAre vs ((List.range (last / d)).map fun i => (((i + 1) * d : Nat) : Int)) → R (.ok (.ret (.ref l))) ⟨h', gn', dr, tks, os⟩) :
  codeAny (model PP w) A (.call (.ref aLS) ⟨[.int d t1, .int last t2], []⟩) R ⟨hp, gn, dr, tk0, os⟩ := by
  refine ent (T := []) (n := 9) (binds := [("first", .int d t1), ("last", .int last t2)]) G k rm (k.at0 G rfl) rfl (k.code G rfl) rfl rfl rfl rfl rfl rfl rfl ?_
  intro h1 tk1 F rm1 kk
  repeat (first | (first | ((with_reducible show wpAny _ _ (execs (Stmt.Assign [Expr.Name _ _] _ _ :: _) _) _ _ _); refine rAs ?_) | with_reducible refine rRet ?_ | with_reducible refine rIf ?_ | with_reducible refine wpAny_BinOp ?_ | with_reducible refine rI ?_ | with_reducible refine rS ?_ | ((with_reducible show wpAny _ _ (eval (Expr.Name _ _) _) _ _ _); refine nL (by assumption) rfl ?_) | ((with_reducible show wpAny _ _ (storeName _ _ _) _ _ _); refine rSt (by assumption) ?_; intro _ _) | ((with_reducible show wpAny _ _ (isTrue (Expr.Compare _ [_] [_] _) _ _) _ _ _); refine wpAny_isTrue_Compare1 ?_) | with_reducible refine wpAny_truthy_bool ?_ | with_reducible refine rEq ?_ | ((with_reducible show wpAny _ _ (eval (Expr.Call _ _ [] _) _) _ _ _); refine Call_ ?_) | ((with_reducible show wpAny _ _ (spliced (backTo _ (starEach (_ :: _) _))) _ _ _); refine spliced_more ?_) | ((with_reducible show wpAny _ _ (spliced (backTo _ (starEach [] _))) _ _ _); refine spliced_none ?_) | with_reducible refine wpAny_IfExp ?_) | (dsimp only; first | ((with_reducible show wpAny _ _ (execs (Stmt.Assign [Expr.Name _ _] _ _ :: _) _) _ _ _); refine rAs ?_) | with_reducible refine rRet ?_ | with_reducible refine rIf ?_ | with_reducible refine wpAny_BinOp ?_ | with_reducible refine rI ?_ | with_reducible refine rS ?_ | ((with_reducible show wpAny _ _ (eval (Expr.Name _ _) _) _ _ _); refine nL (by assumption) rfl ?_) | ((with_reducible show wpAny _ _ (storeName _ _ _) _ _ _); refine rSt (by assumption) ?_; intro _ _) | ((with_reducible show wpAny _ _ (isTrue (Expr.Compare _ [_] [_] _) _ _) _ _ _); refine wpAny_isTrue_Compare1 ?_) | with_reducible refine wpAny_truthy_bool ?_ | with_reducible refine rEq ?_ | ((with_reducible show wpAny _ _ (eval (Expr.Call _ _ [] _) _) _ _ _); refine Call_ ?_) | ((with_reducible show wpAny _ _ (spliced (backTo _ (starEach (_ :: _) _))) _ _ _); refine spliced_more ?_) | ((with_reducible show wpAny _ _ (spliced (backTo _ (starEach [] _))) _ _ _); refine spliced_none ?_) | with_reducible refine wpAny_IfExp ?_))
  refine rList ?_
  repeat (first | (first | ((with_reducible show wpAny _ _ (execs (Stmt.Assign [Expr.Name _ _] _ _ :: _) _) _ _ _); refine rAs ?_) | with_reducible refine rRet ?_ | with_reducible refine rIf ?_ | with_reducible refine wpAny_BinOp ?_ | with_reducible refine rI ?_ | with_reducible refine rS ?_ | ((with_reducible show wpAny _ _ (eval (Expr.Name _ _) _) _ _ _); refine nL (by assumption) rfl ?_) | ((with_reducible show wpAny _ _ (storeName _ _ _) _ _ _); refine rSt (by assumption) ?_; intro _ _) | ((with_reducible show wpAny _ _ (isTrue (Expr.Compare _ [_] [_] _) _ _) _ _ _); refine wpAny_isTrue_Compare1 ?_) | with_reducible refine wpAny_truthy_bool ?_ | with_reducible refine rEq ?_ | ((with_reducible show wpAny _ _ (eval (Expr.Call _ _ [] _) _) _ _ _); refine Call_ ?_) | ((with_reducible show wpAny _ _ (spliced (backTo _ (starEach (_ :: _) _))) _ _ _); refine spliced_more ?_) | ((with_reducible show wpAny _ _ (spliced (backTo _ (starEach [] _))) _ _ _); refine spliced_none ?_) | with_reducible refine wpAny_IfExp ?_) | (dsimp only; first | ((with_reducible show wpAny _ _ (execs (Stmt.Assign [Expr.Name _ _] _ _ :: _) _) _ _ _); refine rAs ?_) | with_reducible refine rRet ?_ | with_reducible refine rIf ?_ | with_reducible refine wpAny_BinOp ?_ | with_reducible refine rI ?_ | with_reducible refine rS ?_ | ((with_reducible show wpAny _ _ (eval (Expr.Name _ _) _) _ _ _); refine nL (by assumption) rfl ?_) | ((with_reducible show wpAny _ _ (storeName _ _ _) _ _ _); refine rSt (by assumption) ?_; intro _ _) | ((with_reducible show wpAny _ _ (isTrue (Expr.Compare _ [_] [_] _) _ _) _ _ _); refine wpAny_isTrue_Compare1 ?_) | with_reducible refine wpAny_truthy_bool ?_ | with_reducible refine rEq ?_ | ((with_reducible show wpAny _ _ (eval (Expr.Call _ _ [] _) _) _ _ _); refine Call_ ?_) | ((with_reducible show wpAny _ _ (spliced (backTo _ (starEach (_ :: _) _))) _ _ _); refine spliced_more ?_) | ((with_reducible show wpAny _ _ (spliced (backTo _ (starEach [] _))) _ _ _); refine spliced_none ?_) | with_reducible refine wpAny_IfExp ?_))
  refine rNewL ?_ (by simp [sizeLine])
  have F2 := F.psh (LO [] 0)
  generalize hlq : h1.objs.size = lq at *
  repeat (first | (first | ((with_reducible show wpAny _ _ (execs (Stmt.Assign [Expr.Name _ _] _ _ :: _) _) _ _ _); refine rAs ?_) | with_reducible refine rRet ?_ | with_reducible refine rIf ?_ | with_reducible refine wpAny_BinOp ?_ | with_reducible refine rI ?_ | with_reducible refine rS ?_ | ((with_reducible show wpAny _ _ (eval (Expr.Name _ _) _) _ _ _); refine nL (by assumption) rfl ?_) | ((with_reducible show wpAny _ _ (storeName _ _ _) _ _ _); refine rSt (by assumption) ?_; intro _ _) | ((with_reducible show wpAny _ _ (isTrue (Expr.Compare _ [_] [_] _) _ _) _ _ _); refine wpAny_isTrue_Compare1 ?_) | with_reducible refine wpAny_truthy_bool ?_ | with_reducible refine rEq ?_ | ((with_reducible show wpAny _ _ (eval (Expr.Call _ _ [] _) _) _ _ _); refine Call_ ?_) | ((with_reducible show wpAny _ _ (spliced (backTo _ (starEach (_ :: _) _))) _ _ _); refine spliced_more ?_) | ((with_reducible show wpAny _ _ (spliced (backTo _ (starEach [] _))) _ _ _); refine spliced_none ?_) | with_reducible refine wpAny_IfExp ?_) | (dsimp only; first | ((with_reducible show wpAny _ _ (execs (Stmt.Assign [Expr.Name _ _] _ _ :: _) _) _ _ _); refine rAs ?_) | with_reducible refine rRet ?_ | with_reducible refine rIf ?_ | with_reducible refine wpAny_BinOp ?_ | with_reducible refine rI ?_ | with_reducible refine rS ?_ | ((with_reducible show wpAny _ _ (eval (Expr.Name _ _) _) _ _ _); refine nL (by assumption) rfl ?_) | ((with_reducible show wpAny _ _ (storeName _ _ _) _ _ _); refine rSt (by assumption) ?_; intro _ _) | ((with_reducible show wpAny _ _ (isTrue (Expr.Compare _ [_] [_] _) _ _) _ _ _); refine wpAny_isTrue_Compare1 ?_) | with_reducible refine wpAny_truthy_bool ?_ | with_reducible refine rEq ?_ | ((with_reducible show wpAny _ _ (eval (Expr.Call _ _ [] _) _) _ _ _); refine Call_ ?_) | ((with_reducible show wpAny _ _ (spliced (backTo _ (starEach (_ :: _) _))) _ _ _); refine spliced_more ?_) | ((with_reducible show wpAny _ _ (spliced (backTo _ (starEach [] _))) _ _ _); refine spliced_none ?_) | with_reducible refine wpAny_IfExp ?_))
  rename_i h3 F3
  refine rForL ?_
  refine Call_ ?_
  refine nG G F3 rfl ?_
  refine rCW (F3.ok.at0 G rfl) rfl ?_
  refine spliced_more ?_
  refine rList ?_
  repeat (first | (first | ((with_reducible show wpAny _ _ (execs (Stmt.Assign [Expr.Name _ _] _ _ :: _) _) _ _ _); refine rAs ?_) | with_reducible refine rRet ?_ | with_reducible refine rIf ?_ | with_reducible refine wpAny_BinOp ?_ | with_reducible refine rI ?_ | with_reducible refine rS ?_ | ((with_reducible show wpAny _ _ (eval (Expr.Name _ _) _) _ _ _); refine nL (by assumption) rfl ?_) | ((with_reducible show wpAny _ _ (storeName _ _ _) _ _ _); refine rSt (by assumption) ?_; intro _ _) | ((with_reducible show wpAny _ _ (isTrue (Expr.Compare _ [_] [_] _) _ _) _ _ _); refine wpAny_isTrue_Compare1 ?_) | with_reducible refine wpAny_truthy_bool ?_ | with_reducible refine rEq ?_ | ((with_reducible show wpAny _ _ (eval (Expr.Call _ _ [] _) _) _ _ _); refine Call_ ?_) | ((with_reducible show wpAny _ _ (spliced (backTo _ (starEach (_ :: _) _))) _ _ _); refine spliced_more ?_) | ((with_reducible show wpAny _ _ (spliced (backTo _ (starEach [] _))) _ _ _); refine spliced_none ?_) | with_reducible refine wpAny_IfExp ?_) | (dsimp only; first | ((with_reducible show wpAny _ _ (execs (Stmt.Assign [Expr.Name _ _] _ _ :: _) _) _ _ _); refine rAs ?_) | with_reducible refine rRet ?_ | with_reducible refine rIf ?_ | with_reducible refine wpAny_BinOp ?_ | with_reducible refine rI ?_ | with_reducible refine rS ?_ | ((with_reducible show wpAny _ _ (eval (Expr.Name _ _) _) _ _ _); refine nL (by assumption) rfl ?_) | ((with_reducible show wpAny _ _ (storeName _ _ _) _ _ _); refine rSt (by assumption) ?_; intro _ _) | ((with_reducible show wpAny _ _ (isTrue (Expr.Compare _ [_] [_] _) _ _) _ _ _); refine wpAny_isTrue_Compare1 ?_) | with_reducible refine wpAny_truthy_bool ?_ | with_reducible refine rEq ?_ | ((with_reducible show wpAny _ _ (eval (Expr.Call _ _ [] _) _) _ _ _); refine Call_ ?_) | ((with_reducible show wpAny _ _ (spliced (backTo _ (starEach (_ :: _) _))) _ _ _); refine spliced_more ?_) | ((with_reducible show wpAny _ _ (spliced (backTo _ (starEach [] _))) _ _ _); refine spliced_none ?_) | with_reducible refine wpAny_IfExp ?_))
  refine rSub ((d : Int) - 1) rfl ?_
  repeat (first | (first | ((with_reducible show wpAny _ _ (execs (Stmt.Assign [Expr.Name _ _] _ _ :: _) _) _ _ _); refine rAs ?_) | with_reducible refine rRet ?_ | with_reducible refine rIf ?_ | with_reducible refine wpAny_BinOp ?_ | with_reducible refine rI ?_ | with_reducible refine rS ?_ | ((with_reducible show wpAny _ _ (eval (Expr.Name _ _) _) _ _ _); refine nL (by assumption) rfl ?_) | ((with_reducible show wpAny _ _ (storeName _ _ _) _ _ _); refine rSt (by assumption) ?_; intro _ _) | ((with_reducible show wpAny _ _ (isTrue (Expr.Compare _ [_] [_] _) _ _) _ _ _); refine wpAny_isTrue_Compare1 ?_) | with_reducible refine wpAny_truthy_bool ?_ | with_reducible refine rEq ?_ | ((with_reducible show wpAny _ _ (eval (Expr.Call _ _ [] _) _) _ _ _); refine Call_ ?_) | ((with_reducible show wpAny _ _ (spliced (backTo _ (starEach (_ :: _) _))) _ _ _); refine spliced_more ?_) | ((with_reducible show wpAny _ _ (spliced (backTo _ (starEach [] _))) _ _ _); refine spliced_none ?_) | with_reducible refine wpAny_IfExp ?_) | (dsimp only; first | ((with_reducible show wpAny _ _ (execs (Stmt.Assign [Expr.Name _ _] _ _ :: _) _) _ _ _); refine rAs ?_) | with_reducible refine rRet ?_ | with_reducible refine rIf ?_ | with_reducible refine wpAny_BinOp ?_ | with_reducible refine rI ?_ | with_reducible refine rS ?_ | ((with_reducible show wpAny _ _ (eval (Expr.Name _ _) _) _ _ _); refine nL (by assumption) rfl ?_) | ((with_reducible show wpAny _ _ (storeName _ _ _) _ _ _); refine rSt (by assumption) ?_; intro _ _) | ((with_reducible show wpAny _ _ (isTrue (Expr.Compare _ [_] [_] _) _ _) _ _ _); refine wpAny_isTrue_Compare1 ?_) | with_reducible refine wpAny_truthy_bool ?_ | with_reducible refine rEq ?_ | ((with_reducible show wpAny _ _ (eval (Expr.Call _ _ [] _) _) _ _ _); refine Call_ ?_) | ((with_reducible show wpAny _ _ (spliced (backTo _ (starEach (_ :: _) _))) _ _ _); refine spliced_more ?_) | ((with_reducible show wpAny _ _ (spliced (backTo _ (starEach [] _))) _ _ _); refine spliced_none ?_) | with_reducible refine wpAny_IfExp ?_))
  refine rNewLg (fun vs => IntsAre vs [1, (d : Int) - 1, d, 0]) (.cons _ _ (.cons _ _ (.cons _ _ (.cons _ _ .nil)))) (by simp) ?_
  intro vs4 hvs4
  have F4 := F3.psh (LO vs4 0)
  have hl0 : g0.objs.size ≤ h3.objs.size := F3.ok.sz
  have hlt3 : hp.objs.size < h3.objs.size := ns_lt F3.ns
  have hlq3 : lq < h3.objs.size := Heap.lt_size (F3.at 0 rfl)
  generalize hl4 : h3.objs.size = l4 at *
  generalize hh4 : h3.push (LO vs4 0) = h4 at *
  have hs4 : h4.objs.size = l4 + 1 := by rw [← hh4, Heap.size_push, hl4]
  refine spliced_none ?_
  refine ⟨F4.ok.at0 G rfl, ?_⟩
  refine c_gi1 G F4.ok (l := l4) (lo := l4) (N := 200) (item := stp d) (last := d) (xs := [1, (d : Int) - 1, d]) (rm1.le (by decide)) (LO.is (F4.at 0 rfl)) (Nat.le_refl _) hl0 (by decide) hvs4 ?_ (by simp) ?_ ?_ ⟨2, rfl, rfl⟩ ?_
  · intro x hx
    simp at hx
    rcases hx with rfl | rfl | rfl <;> (clear hlq hl4 hl0 hlt3 hlq3 hs4; omega)
  · intro i hi
    match i with
    | 0 => rfl
    | 1 => rfl
    | 2 => rfl
    | i + 3 => simp at hi; (clear hd hdl hla hlq hl4 hl0 hlt3 hlq3 hs4; omega)
  · intro i hi
    match i with
    | 0 => simp at hi
    | 1 => simp at hi
    | i + 2 => rfl
  intro a h5 tk5 gs k5 K5 ha hgen hbare gw
  obtain ⟨og, nm, qn, eg, cg, dg, sg⟩ := hgen
  have F5 := (F4.call k5 K5).add eg (Nat.le_trans F4.gsz (Nat.le_of_lt ha)) (F4.fresh (Nat.le_of_lt ha)).1 (F4.fresh (Nat.le_of_lt ha)).2
  refine wpAny_pyIter_gen ⟨og, nm, qn, F5.at 0 rfl, cg, dg, sg⟩ ?_
  obtain ⟨A1, hA1, gw⟩ : ∃ A1, A1 = _ ∧ GW w g0 A1 200 l4 h4.objs.size (a + 1) (stp d) 200 h5 gs := ⟨_, rfl, gw⟩
  refine rLoop (fun i s => ∃ j h' gn' tk' mm vs n gs tp, s = ⟨h', gn', dr, tk', os⟩ ∧ FS g0 hp [] hp.objs.size h' mm [(a, og), (l4, LO vs4 0), (lq, LO vs n)] ∧ i + j = 200 ∧ mm "place" = some (.int (plc d j) tp) ∧ mm "places" = some (.ref lq) ∧ mm "last" = some (.int last t2) ∧
    IntsAre vs ((List.range j).map fun i => ((plc d (i + 1) : Nat) : Int)) ∧ plc d j ≤ last ∧ AllB gn' ∧ gn'[gn.size]? = some gs ∧ (0 < i → GW w g0 A1 200 l4 h4.objs.size (a + 1) (stp d) i h' gs)) ?_ 200 ?_
  · rintro J hJ i s ⟨j, h', gn', tk', mm, vs, n, gs', tp, rfl, F', hij, mp, mq, ml, hin, hpl, hB, hgs, hgw⟩
    have hj : j ≤ 101 := by
      match j with
      | 0 => (clear hd hdl hla hlq hl4 hl0 hlt3 hlq3 hs4 ha hij hpl; omega)
      | 1 => (clear hd hdl hla hlq hl4 hl0 hlt3 hlq3 hs4 ha hij hpl; omega)
      | j + 2 =>
        have h1 : (j + 1) * d ≤ last := hpl
        have h2 : (j + 1) * 2 ≤ (j + 1) * d := Nat.mul_le_mul_left _ hd
        (clear hlq hl4 hl0 hlt3 hlq3 hs4 ha hpl; omega)
    obtain ⟨i', rfl⟩ : ∃ i', i = i' + 1 := ⟨i - 1, by (clear hd hdl hla hlq hl4 hl0 hlt3 hlq3 hs4 ha hpl; omega)⟩
    refine rNextG G F'.ok (n := i') (rm1.le (by decide)) ⟨og, nm, qn, F'.at 0 rfl, cg, dg, sg⟩ hgs (hA1 ▸ hgw (Nat.succ_pos _)) hB ?_
    intro t6 h6 tk6 gs6 gn6 hgs6 hB6 k6 sz6 K6 gw6
    have hia : a + 1 > h4.objs.size + 1 := Nat.succ_lt_succ ha
    have F6 := F'.callG k6 sz6 K6 (hgC := by have := hlt3; (clear hd hdl hla hlq hl4 hl0 hlq3 ha hpl hj hij sz6 hia this; omega)) (hghi := by (clear hd hdl hla hlq hl4 hl0 hlq3 hpl hj hij sz6 hia; omega)) ⟨by show @Ne Nat _ _; (clear hd hdl hla hlq hl4 hl0 hlq3 ha hpl hj hij sz6 hia; omega), by (clear hd hdl hla hlq hl4 hl0 hlq3 hpl hj hij sz6 hia; omega)⟩ (fun p hp' => by
      simp only [List.mem_cons, List.not_mem_nil, or_false] at hp'
      rcases hp' with rfl | rfl | rfl
      · exact ⟨Nat.ne_of_gt ha, Nat.lt_succ_self _⟩
      · exact ⟨by show @Ne Nat l4 _; (clear hd hdl hla hlq hl4 hl0 hlt3 hlq3 ha hpl hj hij sz6 hia; omega), by show l4 < _; (clear hd hdl hla hlq hl4 hl0 hlt3 hlq3 hpl hj hij sz6 hia; omega)⟩
      · exact ⟨by show @Ne Nat lq _; (clear hd hdl hla hlq hl4 hl0 hlt3 ha hpl hj hij sz6 hia; omega), by show lq < _; (clear hd hdl hla hlq hl4 hl0 hlt3 hpl hj hij sz6 hia; omega)⟩)
    have hit : stp d (200 - 1 - i') = stp d j := by
      have : 200 - 1 - i' = j := by (clear hd hdl hla hlq hl4 hl0 hlt3 hlq3 hs4 ha hpl sz6 hia; omega)
      rw [this]
    rw [hit]
    have kb3 : ∀ {x y : Heap} {z : Addr}, z < l4 → Heap.SameBut z x y → ∀ b o, l4 ≤ b → x.get? b = some o → y.get? b = some o := fun hz S b o hb e => (S.2 b (Nat.ne_of_gt (Nat.lt_of_lt_of_le hz hb))).trans e
    refine rStS F6 ?_
    intro h7 S7 F7
    refine rAuN ?_
    refine nl F7 mp ?_
    refine nL F7 rfl ?_
    refine rIAdd ?_
    rw [plc_step d j hd]
    refine rStS F7 ?_
    intro h8 S8 F8
    refine rIf ?_
    refine wpAny_isTrue_Compare1 ?_
    refine nL F8 rfl ?_
    refine nL F8 ml ?_
    refine rGt ?_
    refine wpAny_truthy_bool ?_
    by_cases hgt : (last : Int) < (plc d (j + 1) : Nat)
    · refine iteT (by simpa using hgt) ?_
      refine wpAny_execs_cons (wpAny_Break ?_)
      show wpAny (model PP w) _ (execs _ _) _ _ ⟨h8, gn6, dr, _, os⟩
      refine rRet ?_
      refine rSub1 ?_
      refine nL F8 mq ?_
      refine rSlc ?_
      rw [evalPart_some]
      refine rI ?_
      rw [evalPart_none]
      refine wpAny_pure ?_
      refine wpAny_pure ?_
      refine rLSl (LO.is (F8.at 2 rfl)) (.int _ _) .none (by have := hin.length; simp at this; simp; (clear hd hdl hla hlq hl4 hl0 hlt3 hlq3 hs4 ha hpl sz6 hia hit hgt; omega)) ?_
      have F9 := (F8.psh0 { cls := .type "slice", data := .fields #[.int 1 (tk6 + 1 + 1 + 1), .none, .none] }).psh (LO (slicePick vs.toArray (some 1) none none).toList 0)
      rw [Heap.size_push] at F9
      have fin : IntsAre (slicePick vs.toArray (some 1) none none).toList ((List.range (last / d)).map fun i => (((i + 1) * d : Nat) : Int)) := by
        have e := slice_ints_fromW hin (x := 1) (by decide)
        have : (((List.range j).map fun i => ((plc d (i + 1) : Nat) : Int)).drop (1 : Int).toNat) = (List.range (last / d)).map fun i => (((i + 1) * d : Nat) : Int) := by
          match j with
          | 0 => exact absurd hgt (by show ¬ ((last : Int) < ((1 : Nat) : Int)); (clear hlq hl4 hl0 hlt3 hlq3 hs4 ha sz6 hia hpl hj hij hit hgt; omega))
          | 1 => exact absurd hgt (by show ¬ ((last : Int) < ((1 * d : Nat) : Int)); (clear hd hla hlq hl4 hl0 hlt3 hlq3 hs4 ha sz6 hia hpl hj hij hit hgt; omega))
          | j + 2 =>
            have h1 : (j + 1) * d ≤ last := hpl
            have h2 : last < (j + 2) * d := by have q : (last : Int) < (((j + 2) * d : Nat) : Int) := hgt; (clear hd hdl hla hlq hl4 hl0 hlt3 hlq3 hs4 ha sz6 hia hpl hj hij hit hgt h1; omega)
            have h3 : last / d = j + 1 := by
              apply Nat.le_antisymm
              · exact Nat.lt_succ_iff.mp ((Nat.div_lt_iff_lt_mul (by (clear hdl hla hlq hl4 hl0 hlt3 hlq3 hs4 ha sz6 hia hpl hj hij hit hgt h1 h2; omega))).mpr h2)
              · exact (Nat.le_div_iff_mul_le (by (clear hdl hla hlq hl4 hl0 hlt3 hlq3 hs4 ha sz6 hia hpl hj hij hit hgt h1 h2; omega))).mpr h1
            rw [h3, List.range_succ_eq_map, List.map_cons]
            show List.map _ (List.map Nat.succ (List.range (j + 1))) = _
            rw [List.map_map]
            rfl
        rw [this] at e
        exact e
      have q := fun tks => h (h8.objs.size + 1) _ 0 _ gn6 tks F9.ok F9.kp hB6 (Nat.le_succ_of_le F8.gsz) (F9.at 0 rfl) fin
      exact q _
    · refine iteF (by simpa using hgt) ?_
      refine rNil ?_
      refine rEx ?_
      refine rM ?_
      refine nL F8 mq ?_
      refine rAppM (F8.at 2 rfl) ?_
      refine rCM ?_
      refine spliced_more ?_
      refine nL F8 rfl ?_
      refine spliced_none ?_
      refine rAppendS F8 2 rfl (by rw [hin.length]; simp; (clear hd hdl hla hlq hl4 hl0 hlt3 hlq3 hs4 ha hpl sz6 hia hit hgt; omega)) ?_
      intro h9 S9 F9
      refine rNil ?_
      refine ⟨i', Nat.lt_succ_self _, hJ _ _ ⟨j + 1, h9, gn6, _, _, _, _, gs6, ?tp, rfl, F9, by (clear hd hdl hla hlq hl4 hl0 hlt3 hlq3 hs4 ha hpl hj sz6 hia hit hgt; omega), ?mp, ?_, ?_, ?_, by (clear hd hdl hla hlq hl4 hl0 hlt3 hlq3 hs4 ha hpl hj hij sz6 hia hit; omega), hB6, hgs6, fun hi0 => ?_⟩⟩
      case mp => rfl
      · exact mq
      · exact ml
      · rw [List.range_succ, List.map_append]
        exact IntsAre.append hin (.cons _ _ .nil)
      · rw [hA1]
        exact (gw6 hi0).mono fun b o hb e => kb3 hlq3 S9 b o hb (kb3 hlt3 S8 b o hb (kb3 hlt3 S7 b o hb e))
  · refine ⟨0, h5, _, _, _, [], 0, gs, _, rfl, F5, rfl, rfl, rfl, rfl, .nil, Nat.zero_le _, AllB.push hall hbare, by simp, fun _ => gw⟩
end Mine

namespace Mine
theorem gd_of {w : World} {p : Program} {loose : List Str} {mean : ExcName → Option Value} {mg mb : Str → Option Value} {h : Heap} (T : Top p loose mean mg mb h) (KX : (KK w).In h) (hT : ∀ P, P ∈ ([121, 51, 44] : List Addr) → h.get? P = some (tabObj #[]))
    : Gd w mg mb h where
  X := KX
  g := T.g
  b := T.b
  bi := T.builtins
  nl := T.nolimit
  ba := fun P hP => by
    have hP' : h.get? P = some (tabObj #[]) := hT P (by simp only [tabs, List.mem_cons, List.not_mem_nil, or_false] at hP ⊢; rcases hP with rfl | rfl | rfl <;> simp)
    obtain ⟨bm, ob, a, b, c, d, e, f⟩ := T.bmain
    refine ⟨bm, ob, a, b, fun z => ?_, fun z => ?_, c, d, e, f⟩
    · subst z
      obtain ⟨og, es, ep, eg, dg, r⟩ := T.g
      rw [c] at eg
      cases eg
      rw [f] at dg
      cases dg
    · subst z
      rw [c] at hP'
      cases hP'
      cases f
  h1 := codeHd_of_K KX (by kernel_rfl)
  h2 := codeHd_of_K KX (by kernel_rfl)
  h3 := codeHd_of_K KX (by kernel_rfl)
  lt := fun P hP => Heap.lt_size (hT P (by simp only [tabs, List.mem_cons, List.not_mem_nil, or_false] at hP ⊢; rcases hP with rfl | rfl | rfl <;> simp))
  tb := fun P hP => hT P (by simp only [tabs, List.mem_cons, List.not_mem_nil, or_false] at hP ⊢; rcases hP with rfl | rfl | rfl <;> simp)
end Mine

namespace Mine
theorem oldK_of {w : World} {mg mb : Str → Option Value} {g0 h : Heap} (G : Gd w mg mb g0) (k : OK g0 h) : OldK g0 h := by
  have tab : ∀ P ∈ tabs, isCodeTable g0 P ∧ ∃ ps, h.get? P = some (tabObj ps) := by
    intro P hP
    simp only [tabs, List.mem_cons, List.not_mem_nil, or_false] at hP
    rcases hP with rfl | rfl | rfl
    · obtain ⟨ps, e, _⟩ := k.t1
      exact ⟨(G.h1.tab (G.tb _ (by simp [tabs]))).isCodeTable, ps, e⟩
    · obtain ⟨ps, e, _⟩ := k.t2
      exact ⟨(G.h2.tab (G.tb _ (by simp [tabs]))).isCodeTable, ps, e⟩
    · obtain ⟨ps, e, _⟩ := k.t3
      exact ⟨(G.h3.tab (G.tb _ (by simp [tabs]))).isCodeTable, ps, e⟩
  refine ⟨fun b o e => ?_, fun b o e => ?_⟩
  · by_cases hb : b ∈ tabs
    · obtain ⟨ht, ps, hP⟩ := tab b hb
      have e2 := G.tb b hb
      rw [e] at e2
      cases e2
      exact .inr (.inl ⟨ht, rfl, #[], ps, rfl, by rw [Array.empty_append]; exact hP⟩)
    · exact .inl (k.kp b o e hb)
  · by_cases hb : b ∈ tabs
    · obtain ⟨_, ps, hP⟩ := tab b hb
      exact ⟨_, hP⟩
    · exact ⟨o, k.kp b o e hb⟩
theorem law_end {c : ClaimW} {cl : Str → Option Addr} {mean : ExcName → Option Value} {args : List WData} {s₁ : Shared} {w : World} {mg mb : Str → Option Value} {h : Heap} {gn : Array GenState} {d : Drawn} {t : Nat} (G : Gd w mg mb s₁.heap) (k : OK s₁.heap h) (hall : AllB gn)
    (hr : ∀ cls, c.raises args cls = false) (hp : c.post args (.bool true) args = true) : GoodWG c cl mean args s₁ (.ok (.ret (.bool true))) ⟨h, gn, d, t, s₁.os⟩ :=
  ⟨.inl ⟨_, _, [], rfl, hr, ReadsW.bool true, hp, fun _ => ⟨List.nodup_nil, fun _ hm => (nomatch hm)⟩⟩, oldK_of G k, rfl, fun y hy => hall y hy⟩
end Mine

namespace Mine
def luc (P R : Nat) : Nat → Nat → Nat → List Nat
  | 0, _, _ => []
  | n + 1, a, b => b :: luc P R n b (P * b + R * a)
def quo (p P R : Nat) : Nat := (2 ^ 64) ^ (2 * p + 3) / (2 ^ 64 * 2 ^ 64 - P * 2 ^ 64 - R)
def okQ (p P R : Nat) : Bool :=
  let q := quo p P R
  let n := 2 * p + 2
  (digs 64 n q == ((luc P R n 0 1).reverse.map fun (x : Nat) => (x : Int))) && decide (q < 2 ^ (64 * n)) && decide (2 ^ (64 * (n - 1)) ≤ q) && (luc P R n 0 1).all fun x => x != 0 && decide (x < 2 ^ 60)
theorem ok3 : ((List.range 4).all fun P => (List.range 2).all fun R => okQ 3 (P + 1) (R + 1)) = true := by decide +kernel
theorem ok5 : ((List.range 4).all fun P => (List.range 4).all fun R => okQ 5 (P + 1) (R + 1)) = true := by decide +kernel
theorem ok7 : ((List.range 4).all fun P => (List.range 6).all fun R => okQ 7 (P + 1) (R + 1)) = true := by decide +kernel
def divd (p P R : Nat) : List Nat := (List.range (2 * p + 2)).filterMap fun k => if ((luc P R (2 * p + 2) 0 1).getD k 0) % p = 0 then some (k + 1) else none
def sq (p P R : Nat) : Nat := (P * P + 4 * R) % p
def sgn (p P R : Nat) : Int := if ((List.range p).map fun k => k * k % p).contains (sq p P R) then (if sq p P R = 0 then 0 else 1) else -1
def okA (p P R : Nat) : Bool := match divd p P R with
  | [] => false
  | d :: r => decide (2 ≤ d) && decide (d ≤ 2 * p + 2) && decide (((p : Int) - sgn p P R) % (d : Int) = 0) && ((d :: r) == (List.range ((2 * p + 2) / d)).map fun i => (i + 1) * d)
theorem ap3 : ((List.range 4).all fun P => (List.range 2).all fun R => okA 3 (P + 1) (R + 1)) = true := by decide +kernel
theorem ap5 : ((List.range 4).all fun P => (List.range 4).all fun R => okA 5 (P + 1) (R + 1)) = true := by decide +kernel
theorem ap7 : ((List.range 4).all fun P => (List.range 6).all fun R => okA 7 (P + 1) (R + 1)) = true := by decide +kernel
end Mine

namespace Mine
theorem map_range_getD {α β : Type} (g : α → β) (d : α) : ∀ l : List α, (List.range l.length).map (fun i => g (l.getD i d)) = l.map g
  | [] => rfl
  | a :: l => by
    have ih := map_range_getD g d l
    rw [List.length_cons, List.range_succ_eq_map, List.map_cons, List.map_cons, List.map_map]
    congr 1
theorem tj_len (s : Nat) : ∀ (vs : List (List Nat)), (∀ v ∈ vs, v.length ≤ 64) → (tj s vs).length ≤ 65 * vs.length := by
  intro vs
  induction vs with
  | nil => intro _; simp [tj]
  | cons v vs ih =>
    intro hv
    have h1 := hv v (.head _)
    have h2 := ih fun y hy => hv y (.tail _ hy)
    cases vs with
    | nil => simp [tj] at *; (clear hv; omega)
    | cons v2 r => simp [tj] at *; (clear hv; omega)
theorem sum_len : ∀ (vs : List (List Nat)), (∀ v ∈ vs, v.length ≤ 64) → ((vs.map tx).map (·.length)).sum ≤ 64 * vs.length
  | [], _ => by simp
  | v :: vs, h => by
    have ih := sum_len vs fun y hy => h y (.tail _ hy)
    have h1 : (tx v).length ≤ 64 := by
      show v.toArray.size ≤ 64
      simpa using h v (.head _)
    rw [List.map_cons, List.map_cons, List.sum_cons, List.length_cons]
    omega
theorem words_val (xs : List Nat) : (xs.map word).map wval = xs.map fun (x : Nat) => (x : Int) := by
  rw [List.map_map]
  exact List.map_congr_left fun x _ => word_val x
theorem words_ok {xs : List Nat} (h : ∀ x ∈ xs, x ≠ 0 ∧ x < 2 ^ 60) : ∀ v ∈ xs.map word, v ≠ [] ∧ v.length ≤ 64 ∧ ∀ c ∈ v, Ltr c := by
  intro v hv
  obtain ⟨x, hx, rfl⟩ := List.mem_map.mp hv
  exact word_ok (h x hx).1 (Nat.lt_trans (h x hx).2 (by decide))
theorem hx_len64 {x : Nat} (h0 : x ≠ 0) (h : x < 2 ^ 60) : (hx x).length ≤ 64 := by
  have := (word_ok h0 (Nat.lt_trans h (by decide))).2.1
  unfold word at this
  simpa using this
end Mine

namespace Mine
section
variable {w : World} {A : Around} {E : Value → Shared → Prop} {Q : Value → Shared → Prop} {t u : Tok} {hp h' : Heap} {gn : Array GenState} {dr : Drawn} {tk : Nat} {os : OsState}
theorem rAddL {l b : Addr} {xs ys : List Value} {n n2 : Nat} (hl : hp.get? l = some (LO xs n)) (hb : hp.get? b = some (LO ys n2)) (hsz : xs.length + ys.length ≤ 2 ^ 20)
    (h : Q (.ref hp.objs.size) ⟨hp.push (LO (xs ++ ys) 0), gn, dr, tk, os⟩) : wpAny (model PP w) A (binaryOp .Add (.ref l) (.ref b)) Q E ⟨hp, gn, dr, tk, os⟩ := by
  refine concat_meets ⟨_, hl, rfl⟩ ⟨_, hb, rfl⟩ noFill_list_add seq_list_add PySem.F.slot_list_add PySem.F.entry_list_add (PySem.F.args_list_add_2 _ _) (AutoSeq1.list___add___list_list_0 l xs.toArray n b ys.toArray n2 (by simp [sizeLine]; omega)) ⟨hl, hb, ?_⟩
  simpa using h
end
end Mine

namespace Mine
inductive Al (f : Nat → Value → Prop) : List Nat → List Value → Prop
  | nil : Al f [] []
  | cons {i : Nat} {v : Value} {is : List Nat} {vs : List Value} : f i v → Al f is vs → Al f (i :: is) (v :: vs)
theorem Al.snoc {f : Nat → Value → Prop} : ∀ {is : List Nat} {vs : List Value} {i : Nat} {v : Value}, Al f is vs → f i v → Al f (is ++ [i]) (vs ++ [v])
  | _, _, _, _, .nil, h => .cons h .nil
  | _, _, _, _, .cons a r, h => .cons a (r.snoc h)
theorem Al.length {f : Nat → Value → Prop} : ∀ {is : List Nat} {vs : List Value}, Al f is vs → vs.length = is.length
  | _, _, .nil => rfl
  | _, _, .cons _ r => by simp [r.length]
theorem Al.ints {F : Nat → Int} : ∀ {is : List Nat} {vs : List Value}, Al (fun i v => ∃ t, v = .int (F i) t) is vs → IntsAre vs (is.map F)
  | _, _, .nil => .nil
  | _, _, .cons ⟨t, e⟩ r => by subst e; exact .cons _ t r.ints
theorem Al.strs {F : Nat → Str} : ∀ {is : List Nat} {vs : List Value}, Al (fun i v => ∃ t, v = .str (F i) t) is vs → StrsAre vs (is.map F)
  | _, _, .nil => .nil
  | _, _, .cons ⟨t, e⟩ r => by subst e; exact .cons _ t r.strs
structure Itr (w : World) (A : Around) (hp : Heap) (it : Addr) (N : Nat) (item : Nat → Value → Prop) (obj : Nat → Obj → Prop) : Prop where
  nc : ∀ i o, obj i o → NC o
  self : ∀ (Q E : Value → Shared → Prop) (s : Shared) i o, obj i o → s.heap.get? it = some o → Q (.ref it) s → wpAny (model PP w) A (pyIter (.ref it)) Q E s
  item : ∀ (Q : Option Value → Shared → Prop) (E : Value → Shared → Prop) (s : Shared) i o, i < N → Kp [it] hp s.heap → s.heap.get? it = some o → obj i o →
    (∀ v o' h' tk, item i v → Heap.SameBut it s.heap h' → h'.get? it = some o' → obj (i + 1) o' → Q (some v) { s with heap := h', toks := tk }) → wpAny (model PP w) A (pyNext (.ref it)) Q E s
  done : ∀ (Q : Option Value → Shared → Prop) (E : Value → Shared → Prop) (s : Shared) o, Kp [it] hp s.heap → s.heap.get? it = some o → obj N o →
    (∀ h', Heap.ExtBut it s.heap h' → Q none { s with heap := h' }) → wpAny (model PP w) A (pyNext (.ref it)) Q E s
abbrev itO (l : Addr) (i : Nat) : Obj := { cls := .type "list_iterator", data := .fields #[.ref l, .int i 0] }
theorem Itr.list {w : World} {A : Around} {hp : Heap} {it l : Addr} {vs : List Value} (hA : A.handled = none) (hl : hp.IsList l vs.toArray) (hlt : l ∉ tabs) (hli : l ≠ it) :
    Itr w A hp it vs.length (fun i v => vs[i]? = some v) (fun i o => o.cls = .type "list_iterator" ∧ o.data = .fields #[.ref l, .int i 0]) where
  nc := fun i o ⟨_, d⟩ vs q t z e => by rw [d] at z; cases z; cases e
  self := fun Q E s i o ⟨c, d⟩ e q => wpAny_pyIter_listiter (l := l) (i := i) ⟨o, e, c, d⟩ q
  item := fun Q E s i o hi K e ⟨c, d⟩ q => by
    obtain ⟨ol, el, r⟩ := hl
    refine wpAny_pyNext_list_item (x := vs[i]) ⟨o, e, c, d⟩ ⟨ol, K.kp _ _ el hlt (fun z => hli (List.mem_singleton.mp z)), r⟩ (by simp [hi]) fun h' x S => ?_
    obtain ⟨o', e', c', d'⟩ := x
    exact q _ o' h' s.toks (by simp [hi]) S e' ⟨c', d'⟩
  done := fun Q E s o K e ⟨c, d⟩ q => by
    obtain ⟨ol, el, r⟩ := hl
    exact wpAny_pyNext_list_end hA ⟨o, e, c, d⟩ ⟨ol, K.kp _ _ el hlt (fun z => hli (List.mem_singleton.mp z)), r⟩ (by simp) q
abbrev rgO (x left : Int) : Obj := { cls := .type "range_iterator", dict := none, data := .fields #[rawInt x, rawInt left, rawInt 1], slots := #[] }
theorem Itr.range {w : World} {A : Around} {hp : Heap} {it : Addr} {N : Nat} (hA : A.handled = none) : Itr w A hp it N (fun i v => ∃ t, v = .int i t) (fun i o => o = rgO i ((N : Int) - i)) where
  nc := fun i o d vs q t z e => by subst d; cases z; cases e
  self := fun Q E s i o d e q => by subst d; exact wpAny_pyIter_rangeiter e q
  item := fun Q E s i o hi K e d q => by
    subst d
    refine wpAny_pyNext_range_item e (by omega) fun h' x S => ?_
    have e1 : (i : Int) + 1 = ((i + 1 : Nat) : Int) := by (clear hi; omega)
    have e2 : (N : Int) - (i : Int) - 1 = (N : Int) - ((i + 1 : Nat) : Int) := by (clear hi e1; omega)
    rw [e1, e2] at x
    exact q _ _ h' _ ⟨_, rfl⟩ S x rfl
  done := fun Q E s o K e d q => by
    subst d
    exact wpAny_pyNext_range_end hA e (by omega) q
section
variable {w : World} {A : Around} {E : Value → Shared → Prop} {Q : Value → Shared → Prop} {t u : Tok} {hp h' : Heap} {gn : Array GenState} {dr : Drawn} {tk : Nat} {os : OsState} {pos : Pos} {k : Nat} {env : Env}
  {g0 g : Heap} {T : List Addr} {L : Addr} {m : Str → Option Value} {nw : List (Addr × Obj)} {mg mb : Str → Option Value}
abbrev LCGoalR (w : World) (A : Around) (elt : Expr) (x : Str) (px : Pos) (iter : Expr) (ifs : List Expr) (rest : List Comprehension) (scope : Scope) (pos : Pos) (env : Env) (cl : List (Str × Addr)) (E : Value → Shared → Prop) (RR : Value → Addr → Result → Shared → Prop) (it : Value) (s : Shared) : Prop :=
  wpAny (model PP w) A (newList []) (fun acc s₃ => wpAny (model PP w) A (newFunctionEnv scope env.globals cl [] env.qual none .none (some env)) (fun cenv s₄ =>
        codeAny (model PP w) A (.compStart (.ListComp elt (⟨.Name x px, iter, ifs, 0⟩ :: rest) scope pos) 0 it acc { cenv with scope := relabel scope env }) (RR acc cenv.locals) s₄) E s₃) E s
abbrev LCGoal (w : World) (A : Around) (elt : Expr) (x : Str) (px : Pos) (iter : Expr) (ifs : List Expr) (rest : List Comprehension) (scope : Scope) (pos : Pos) (env : Env) (cl : List (Str × Addr)) (E Q : Value → Shared → Prop) (it : Value) (s : Shared) : Prop :=
  LCGoalR w A elt x px iter ifs rest scope pos env cl E (compPost (model PP w) A E none Q) it s
theorem rLC2 {elt iter : Expr} {x : Str} {px : Pos} {ifs : List Expr} {rest : List Comprehension} {scope : Scope} {cl : List (Str × Addr)}
    (h : wpAny (model PP w) A (eval iter env) (fun xv s₁ => wpAny (model PP w) A (pyIter xv) (fun it s₂ => LCGoal w A elt x px iter ifs rest scope pos env cl E Q it s₂) E s₁) E ⟨hp, gn, dr, tk, os⟩)
    (hclos : closureFor scope env = pure cl := by rfl) (hkind : scope.kind = .function := by rfl)
    (hnames : (scope.names.all fun y => !(y.2 == .local) || scope.names.lookup y.1 == some .local) = true := by rfl)
    (hs : ∀ x, foldedSetIterable iter env x = pure x := by intro _; rfl) : wpAny (model PP w) A (eval (.ListComp elt (⟨.Name x px, iter, ifs, 0⟩ :: rest) scope pos) env) Q E ⟨hp, gn, dr, tk, os⟩ := by
  rw [eval_ListComp]
  refine wpAny_comprehension_free (use := none) rfl hs hclos hkind (fun y hy hl => ?_) h
  have := List.all_eq_true.mp hnames y hy
  rw [hl] at this
  simpa using this
theorem rLCn {RR : Value → Addr → Result → Shared → Prop} {elt iter : Expr} {x : Str} {px : Pos} {ifs : List Expr} {rest : List Comprehension} {scope : Scope} {cl : List (Str × Addr)} {it : Addr} (k2 : OK g0 hp)
    (self : ∀ {Q : Value → Shared → Prop} {E : Value → Shared → Prop} {h3 tk3}, (∀ b o, hp.get? b = some o → h3.get? b = some o) → Q (.ref it) ⟨h3, gn, dr, tk3, os⟩ → wpAny (model PP w) A (pyIter (.ref it)) Q E ⟨h3, gn, dr, tk3, os⟩)
    (h : ∀ h3 tk3, FS g0 hp T (hp.objs.size + 1) h3 (fun _ => none) [(hp.objs.size, LO [] 0)] → (∀ b o, hp.get? b = some o → h3.get? b = some o) →
      codeAny (model PP w) A (.compLoop (.ListComp elt (⟨.Name x px, iter, ifs, 0⟩ :: rest) scope pos) 0 (.ref it) (.ref hp.objs.size) (compEnvC scope cl (hp.objs.size + 1) env)) (RR (.ref hp.objs.size) (hp.objs.size + 1)) ⟨h3, gn, dr, tk3, os⟩)
    (hcell : (scope.names.all fun y => !(y.2 == .cell)) = true := by rfl) (hkind : scope.kind = .function := by rfl) :
    LCGoalR w A elt x px iter ifs rest scope pos env cl E RR (.ref it) ⟨hp, gn, dr, tk, os⟩ := by
  have hcell' : ∀ y ∈ scope.names, y.2 ≠ .cell := fun y hy => by have q := List.all_eq_true.mp hcell y hy; simpa using q
  refine wpAny_newObj_type (wpAny_newFunctionEnv hcell' (by intro y hy; simp at hy) (fun h₁ hns₁ hsb₁ => ?_) hkind)
  dsimp only at hns₁ hsb₁ ⊢
  have hC : (hp.push { cls := .type "list", dict := none, data := .seq ([] : List Value).toArray }).objs.size = hp.objs.size + 1 := Heap.size_push ..
  rw [hC] at hns₁ hsb₁ ⊢
  have hs1 : hp.objs.size + 1 < h₁.objs.size := ns_lt hns₁
  have kk : ∀ b o, hp.get? b = some o → h₁.get? b = some o := fun b o e => (hsb₁.2 b (Nat.ne_of_lt (Nat.lt_succ_of_lt (Heap.lt_size e)))).trans (Heap.get?_push_of_some _ (Heap.get?_push_of_some _ e))
  have eD : h₁.get? hp.objs.size = some (LO [] 0) := (hsb₁.2 _ (Nat.ne_of_lt (Nat.lt_succ_self _))).trans (Heap.get?_push_of_some _ (Heap.get?_push_size _ rfl))
  have F : FS g0 hp T (hp.objs.size + 1) h₁ (fun _ => none) [] := ⟨k2.ext (by (clear hC; omega)) kk, ⟨by (clear hC; omega), fun b o e _ _ => kk b o e⟩, k2.sz, hns₁, by (clear hC hs1; omega), fun _ q => (nomatch q), fun _ q => (nomatch q), List.nodup_nil, fun _ q => (nomatch q)⟩
  have loop := h h₁ tk (F.add eD (Nat.le_refl _) (fun _ q => (nomatch q)) (Nat.ne_of_lt (Nat.lt_succ_self _))) kk
  exact codeAny_compStart_list loop (self kk loop)
theorem filter_succ (p : Nat → Bool) (i : Nat) : (List.range (i + 1)).filter p = (List.range i).filter p ++ (if p i then [i] else []) := by
  rw [List.range_succ, List.filter_append]
  congr 1
  simp [List.filter_cons]
theorem rLCif {RR : Value → Addr → Result → Shared → Prop} {elt iter tst : Expr} {x : Str} {px : Pos} {scope : Scope} {cl : List (Str × Addr)} {it : Addr} {N : Nat} {item : Nat → Value → Prop} {obj : Nat → Obj → Prop} (p : Nat → Bool) (f : Nat → Value → Prop) (k2 : OK g0 hp) {o : Obj} (he : hp.get? it = some o) (ho : obj 0 o) (hit0 : g0.objs.size ≤ it)
    (I : Itr w A hp it N item obj) (hN : N ≤ 2 ^ 20) (hall : AllB gn)
    (turn : ∀ i v h1 tk1 m1 nw1 gn1, i < N → p i = true → item i v → AllB gn1 → FS g0 hp [it] (hp.objs.size + 1) h1 m1 nw1 → m1 x = some v → ∀ (Q2 : Value → Shared → Prop), (∀ y h2 tk2 gn2, f i y → OK g0 h2 → Kp [] h1 h2 → AllB gn2 → Q2 y ⟨h2, gn2, dr, tk2, os⟩) →
      wpAny (model PP w) A (eval elt (compEnvC scope cl (hp.objs.size + 1) env)) Q2 (fun _ _ => False) ⟨h1, gn1, dr, tk1, os⟩)
    (test : ∀ i v h1 tk1 m1 nw1 gn1, i < N → item i v → AllB gn1 → FS g0 hp [it] (hp.objs.size + 1) h1 m1 nw1 → m1 x = some v → ∀ (Q2 : Bool → Shared → Prop), (∀ h2 tk2 gn2, OK g0 h2 → Kp [] h1 h2 → AllB gn2 → Q2 (p i) ⟨h2, gn2, dr, tk2, os⟩) →
      wpAny (model PP w) A (isTrue tst (compEnvC scope cl (hp.objs.size + 1) env) (eval tst (compEnvC scope cl (hp.objs.size + 1) env))) Q2 (fun _ _ => False) ⟨h1, gn1, dr, tk1, os⟩)
    (h : ∀ h' tk' gn' mm ys n, FS g0 hp [it] (hp.objs.size + 1) h' mm [(hp.objs.size, LO ys n)] → Al f ((List.range N).filter p) ys → AllB gn' → RR (.ref hp.objs.size) (hp.objs.size + 1) (.ok .next) ⟨h', gn', dr, tk', os⟩)
    (hcell : (scope.names.all fun y => !(y.2 == .cell)) = true := by rfl) (hkind : scope.kind = .function := by rfl) (hx : (compEnvC scope cl (hp.objs.size + 1) env).kindOf x = some .local := by rfl) :
    LCGoalR w A elt x px iter [tst] [] scope pos env cl E RR (.ref it) ⟨hp, gn, dr, tk, os⟩ := by
  refine rLCn (T := [it]) k2 (fun {Q E h3 tk3} kk q => I.self Q E _ 0 o ho (kk _ _ he) q) (fun h3 tk3 F kk => ?_) hcell hkind
  have hitl : @Ne Nat it hp.objs.size := Nat.ne_of_lt (Heap.lt_size he)
  have F0 := F.addT (T := [it]) (kk _ _ he) (by simp) hit0 (fun p hp' => by
    cases List.mem_singleton.mp hp'
    exact (Ne.symm hitl)) (Nat.ne_of_lt (Nat.lt_succ_of_lt (Heap.lt_size he)))
  obtain ⟨J, hJ⟩ : ∃ J : Nat → Shared → Prop, J = (fun n s => ∃ i h' tk' gn' mm o ys n2, s = ⟨h', gn', dr, tk', os⟩ ∧ FS g0 hp [it] (hp.objs.size + 1) h' mm [(it, o), (hp.objs.size, LO ys n2)] ∧ obj i o ∧ n + i = N ∧ Al f ((List.range i).filter p) ys ∧ AllB gn') := ⟨_, rfl⟩
  refine codeAny_compLoop_tests J ?_ N (by rw [hJ]; exact ⟨0, h3, tk3, gn, _, o, [], 0, rfl, F0, ho, rfl, .nil, hall⟩)
  intro n s hI
  rw [hJ] at hI
  obtain ⟨i, h1, tk1, gn1, mm, o1, ys, n2, rfl, F1, ho1, hin, hal, hB⟩ := hI
  have hyl : ys.length ≤ 2 ^ 20 := by
    rw [hal.length]
    have := List.length_filter_le p (List.range i)
    simp at this
    (clear hit0 hitl; omega)
  cases n with
  | zero =>
    have : i = N := by (clear hit0 hN hitl hyl; omega)
    subst this
    refine I.done _ _ _ o1 F1.kp (F1.at 0 rfl) ho1 fun h4 E4 => ?_
    have F4 := F1.dropX (I.nc _ _ ho1) E4
    exact h h4 _ gn1 mm ys n2 F4 hal hB
  | succ n =>
    refine I.item _ _ _ i o1 (by (clear hit0 hN hitl hyl; omega)) F1.kp (F1.at 0 rfl) ho1 fun v o2 h4 tk4 hv S4 e4 ho2 => ?_
    have F4 := F1.updS 0 rfl (I.nc _ _ ho1) S4 e4
    refine wpAny_assign_Name ?_
    refine rStS F4 (fun h5 S5 F5 => ?_) rfl hkind hx
    refine wpAny_tests_one ?_
    refine wpAny_mono (test i v h5 _ _ _ gn1 (by (clear hit0 hN hitl hyl; omega)) hv hB F5 (by simp) (fun b s' => b = p i ∧ ∃ h2 tk2 gn2, s' = ⟨h2, gn2, dr, tk2, os⟩ ∧ OK g0 h2 ∧ Kp [] h5 h2 ∧ AllB gn2) (fun h2 tk2 gn2 k K B => ⟨rfl, h2, tk2, gn2, rfl, k, K, B⟩)) ?_ (fun _ _ z => z.elim)
    rintro b s' ⟨rfl, h6, tk6, gn6, rfl, k6, K6, B6⟩
    have F6 := F5.call k6 K6
    by_cases hp1 : p i = true
    · rw [if_pos hp1]
      refine wpAny_mono (turn i v h6 _ _ _ gn6 (by (clear hit0 hN hitl hyl; omega)) hp1 hv B6 F6 (by simp) (fun y s' => f i y ∧ ∃ h2 tk2 gn2, s' = ⟨h2, gn2, dr, tk2, os⟩ ∧ OK g0 h2 ∧ Kp [] h6 h2 ∧ AllB gn2) (fun y h2 tk2 gn2 hy k K B => ⟨hy, h2, tk2, gn2, rfl, k, K, B⟩)) ?_ (fun _ _ z => z.elim)
      rintro y s' ⟨hy, h7, tk7, gn7, rfl, k7, K7, B7⟩
      have F7 := F6.call k7 K7
      refine rAppendS F7 1 rfl hyl fun h8 S8 F8 => ?_
      refine ⟨n, Nat.lt_succ_self _, ?_⟩
      rw [hJ]
      refine ⟨i + 1, h8, _, _, _, _, _, _, rfl, F8, ho2, by (clear hit0 hN hitl hyl; omega), ?_, B7⟩
      rw [filter_succ, if_pos hp1]
      exact hal.snoc hy
    · rw [if_neg hp1]
      refine ⟨n, Nat.lt_succ_self _, ?_⟩
      rw [hJ]
      refine ⟨i + 1, h6, _, _, _, _, _, _, rfl, F6, ho2, by (clear hit0 hN hitl hyl hp1; omega), ?_, B6⟩
      rw [filter_succ, if_neg hp1, List.append_nil]
      exact hal
theorem rLCg {RR : Value → Addr → Result → Shared → Prop} {elt iter : Expr} {x : Str} {px : Pos} {scope : Scope} {cl : List (Str × Addr)} {it : Addr} {N : Nat} {item : Nat → Value → Prop} {obj : Nat → Obj → Prop} (f : Nat → Value → Prop) (k2 : OK g0 hp) {o : Obj} (he : hp.get? it = some o) (ho : obj 0 o) (hit0 : g0.objs.size ≤ it)
    (I : Itr w A hp it N item obj) (hN : N ≤ 2 ^ 20) (hall : AllB gn)
    (turn : ∀ i v h1 tk1 m1 nw1 gn1, i < N → item i v → AllB gn1 → FS g0 hp [it] (hp.objs.size + 1) h1 m1 nw1 → m1 x = some v → ∀ (Q2 : Value → Shared → Prop), (∀ y h2 tk2 gn2, f i y → OK g0 h2 → Kp [] h1 h2 → AllB gn2 → Q2 y ⟨h2, gn2, dr, tk2, os⟩) →
      wpAny (model PP w) A (eval elt (compEnvC scope cl (hp.objs.size + 1) env)) Q2 (fun _ _ => False) ⟨h1, gn1, dr, tk1, os⟩)
    (h : ∀ h' tk' gn' mm ys n, FS g0 hp [it] (hp.objs.size + 1) h' mm [(hp.objs.size, LO ys n)] → Al f (List.range N) ys → AllB gn' → RR (.ref hp.objs.size) (hp.objs.size + 1) (.ok .next) ⟨h', gn', dr, tk', os⟩)
    (hcell : (scope.names.all fun y => !(y.2 == .cell)) = true := by rfl) (hkind : scope.kind = .function := by rfl) (hx : (compEnvC scope cl (hp.objs.size + 1) env).kindOf x = some .local := by rfl) :
    LCGoalR w A elt x px iter [] [] scope pos env cl E RR (.ref it) ⟨hp, gn, dr, tk, os⟩ := by
  refine rLCn (T := [it]) k2 (fun {Q E h3 tk3} kk q => I.self Q E _ 0 o ho (kk _ _ he) q) (fun h3 tk3 F kk => ?_) hcell hkind
  have hitl : @Ne Nat it hp.objs.size := Nat.ne_of_lt (Heap.lt_size he)
  have F0 := F.addT (T := [it]) (kk _ _ he) (by simp) hit0 (fun p hp' => by
    cases List.mem_singleton.mp hp'
    exact (Ne.symm hitl)) (Nat.ne_of_lt (Nat.lt_succ_of_lt (Heap.lt_size he)))
  obtain ⟨J, hJ⟩ : ∃ J : Nat → Shared → Prop, J = (fun n s => ∃ i h' tk' gn' mm o ys n2, s = ⟨h', gn', dr, tk', os⟩ ∧ FS g0 hp [it] (hp.objs.size + 1) h' mm [(it, o), (hp.objs.size, LO ys n2)] ∧ obj i o ∧ n + i = N ∧ Al f (List.range i) ys ∧ AllB gn') := ⟨_, rfl⟩
  refine codeAny_compLoop_list J ?_ N (by rw [hJ]; exact ⟨0, h3, tk3, gn, _, o, [], 0, rfl, F0, ho, rfl, .nil, hall⟩)
  intro n s hI
  rw [hJ] at hI
  obtain ⟨i, h1, tk1, gn1, mm, o1, ys, n2, rfl, F1, ho1, hin, hal, hB⟩ := hI
  have hyl : ys.length ≤ 2 ^ 20 := by
    rw [hal.length]
    simp
    (clear hit0 hitl; omega)
  cases n with
  | zero =>
    have : i = N := by (clear hit0 hN hitl hyl; omega)
    subst this
    refine I.done _ _ _ o1 F1.kp (F1.at 0 rfl) ho1 fun h4 E4 => ?_
    have F4 := F1.dropX (I.nc _ _ ho1) E4
    exact h h4 _ gn1 mm ys n2 F4 hal hB
  | succ n =>
    refine I.item _ _ _ i o1 (by (clear hit0 hN hitl hyl; omega)) F1.kp (F1.at 0 rfl) ho1 fun v o2 h4 tk4 hv S4 e4 ho2 => ?_
    have F4 := F1.updS 0 rfl (I.nc _ _ ho1) S4 e4
    refine wpAny_assign_Name ?_
    refine rStS F4 (fun h6 S5 F6 => ?_) rfl hkind hx
    refine wpAny_mono (turn i v h6 _ _ _ gn1 (by (clear hit0 hN hitl hyl; omega)) hv hB F6 (by simp) (fun y s' => f i y ∧ ∃ h2 tk2 gn2, s' = ⟨h2, gn2, dr, tk2, os⟩ ∧ OK g0 h2 ∧ Kp [] h6 h2 ∧ AllB gn2) (fun y h2 tk2 gn2 hy k K B => ⟨hy, h2, tk2, gn2, rfl, k, K, B⟩)) ?_ (fun _ _ z => z.elim)
    rintro y s' ⟨hy, h7, tk7, gn7, rfl, k7, K7, B7⟩
    have F7 := F6.call k7 K7
    refine rAppendS F7 1 rfl hyl fun h8 S8 F8 => ?_
    refine ⟨n, Nat.lt_succ_self _, ?_⟩
    rw [hJ]
    refine ⟨i + 1, h8, _, _, _, _, _, _, rfl, F8, ho2, by (clear hit0 hN hitl hyl; omega), ?_, B7⟩
    rw [List.range_succ]
    exact hal.snoc hy
end
end Mine

section
open PySem.SeqAt PySem.MeetsSeq
namespace Mine
section
variable {w : World} {A : Around} {E : Value → Shared → Prop} {Q : Value → Shared → Prop} {t u : Tok} {hp h' : Heap} {gn : Array GenState} {dr : Drawn} {tk : Nat} {os : OsState} {pos : Pos} {k : Nat} {env : Env}
  {g0 g : Heap} {T : List Addr} {L : Addr} {m : Str → Option Value} {nw : List (Addr × Obj)} {mg mb : Str → Option Value}
theorem tailR {value slice : Expr} {o i : Value} {ty id : String} {ops : List Value} {s : Shared} (hT : s.TypeIs o ty)
    (hl : typeLookup (.type ty) "__getitem__" = pure (some (.builtin id))) (h : wpAny (model PP w) A (getItem o i) Q E s)
    (hs : subscripted slice false o i = operate ops (getItem o i)) : wpAny (model PP w) A (subscriptTail value slice o i) Q E s := by
  unfold subscriptTail
  refine wpAny_bind ?_
  rw [getitemInPython_of_ne hT.not_modules]
  refine wpAny_bind (wpAny_specialOf hT hl ?_)
  have fin : wpAny (model PP w) A (subscripted slice false o i) (fun r s₃ => wpAny (model PP w) A (letTemporaryGo value o r >>= fun _ => pure r) Q E s₃) E s := by
    rw [hs]
    exact wpAny_operating (wpAny_mono h (fun r s₃ h₃ => wpAny_bind (wpAny_letTemporaryGo (wpAny_pure h₃))) fun _ _ x => x)
  first
    | exact wpAny_pure (wpAny_bind fin)
    | exact wpAny_bind (wpAny_pure (wpAny_bind fin))
    | exact wpAny_bind fin
theorem rLSlR {value slice : Expr} {ops : List Value} {l : Addr} {items : Array Value} {vl vu vt : Value} {lo hi st : Option Int} (hl : hp.IsList l items) (pl : IsPart vl lo) (pu : IsPart vu hi) (pt : IsPart vt st) (h0 : st ≠ some 0) (hsz : items.size ≤ 2 ^ 20)
    (h : Q (.ref (hp.objs.size + 1)) ⟨(hp.push { cls := .type "slice", data := .fields #[vl, vu, vt] }).push { cls := .type "list", data := .seq (slicePick items lo hi st) }, gn, dr, tk, os⟩)
    (hs : subscripted slice false (.ref l) (.ref hp.objs.size) = operate ops (getItem (.ref l) (.ref hp.objs.size)) := by with_unfolding_all rfl) :
    wpAny (model PP w) A (subscriptTail value slice (.ref l) (.ref hp.objs.size)) Q E ⟨hp.push { cls := .type "slice", data := .fields #[vl, vu, vt] }, gn, dr, tk, os⟩ := by
  refine tailR (Heap.IsList.typeIs (s := ⟨hp.push { cls := .type "slice", data := .fields #[vl, vu, vt] }, gn, dr, tk, os⟩) (hl.push _)) list_getitem_lookup
    (wpAny_getItem_list_slice (hl.push _) (Heap.IsSliceOf.new ..) pl pu pt h0 ?_ (by simp [sizeLine]; (clear h0; omega))) hs
  show Q (.ref (hp.push _).objs.size) _
  rw [Heap.size_push]
  exact h
theorem rNeg {a : Int} (h : Q (.int (-a) tk) ⟨hp, gn, dr, tk + 1, os⟩) : wpAny (model PP w) A (unaryOp .USub (.int a t)) Q E ⟨hp, gn, dr, tk, os⟩ := neg_int h
theorem rIxI {value slice : Expr} {l : Addr} {vs : List Value} {ns : List Int} {i : Int} (hl : hp.IsList l vs.toArray) (hi : IntsAre vs ns) (n : Nat) (x : Int) (hn : i = n) (hx : ns[n]? = some x) (hb : n < 2 ^ 62) (h : ∀ t, Q (.int x t) ⟨hp, gn, dr, tk, os⟩)
    (hs : subscripted slice false (.ref l) (.int i u) = operate [.ref l, .int i u] (getItem (.ref l) (.int i u)) := by with_unfolding_all rfl) :
    wpAny (model PP w) A (subscriptTail value slice (.ref l) (.int i u)) Q E ⟨hp, gn, dr, tk, os⟩ := by
  subst hn
  have hlt : n < ns.length := (List.getElem?_eq_some_iff.mp hx).1
  refine item_list_intsR hl hi (by (clear hlt; omega)) (by (clear hb; omega)) (by (clear hlt; omega)) (fun t => ?_) hs
  have : ns.getD ((n : Int).toNat) 0 = x := by simp [List.getD, hx]
  rw [this]
  exact h t
theorem rIxN {value slice : Expr} {l : Addr} {vs : List Value} {ns : List Int} {i : Int} (hl : hp.IsList l vs.toArray) (hi : IntsAre vs ns) (n : Nat) (x : Int) (hn : i = - (n : Int)) (hn0 : 0 < n) (hn1 : n ≤ ns.length) (hx : ns[ns.length - n]? = some x) (hb : n < 2 ^ 62) (h : ∀ t, Q (.int x t) ⟨hp, gn, dr, tk, os⟩)
    (hs : subscripted slice false (.ref l) (.int i u) = operate [.ref l, .int i u] (getItem (.ref l) (.int i u)) := by with_unfolding_all rfl) :
    wpAny (model PP w) A (subscriptTail value slice (.ref l) (.int i u)) Q E ⟨hp, gn, dr, tk, os⟩ := by
  subst hn
  refine item_list_ints_negR hl hi (by (clear hn1; omega)) (by (clear hn0 hb; omega)) (by (clear hn1; omega)) (fun t => ?_) hs
  have : ns.getD ((-(n : Int) + ns.length).toNat) 0 = x := by
    have e : (-(n : Int) + ns.length).toNat = ns.length - n := by (clear hn0 hb; omega)
    rw [e]
    simp [List.getD, hx]
  rw [this]
  exact h t
theorem rMod {a b : Int} (c : Int) (hb : b ≠ 0) (e : a.fmod b = c) (h : Q (.int c tk) ⟨hp, gn, dr, tk + 1, os⟩) : wpAny (model PP w) A (binaryOp .Mod (.int a t) (.int b u)) Q E ⟨hp, gn, dr, tk, os⟩ := by
  subst e
  exact AutoIntOps.mod_1 (by simpa using hb) h
theorem rPow {a b : Int} (n : Nat) (c : Int) (hn : b = n) (ha : 2 ≤ a) (hn0 : 0 < n) (hb : Builtin.Int.intBits a * n ≤ 2 ^ 20) (e : a ^ n = c) (h : Q (.int c tk) ⟨hp, gn, dr, tk + 1, os⟩) : wpAny (model PP w) A (binaryOp .Pow (.int a t) (.int b u)) Q E ⟨hp, gn, dr, tk, os⟩ := by
  subst hn
  subst e
  refine AutoIntOps.pow_4 (by (clear ha hb; omega)) (by simp; (clear ha hb; omega)) (by simp; (clear hn0 hb; omega)) (by simp; (clear hn0 hb; omega)) ?_ h
  have : (((Builtin.Int.intBits a : Nat) : Int) * (n : Int)) ≤ 2 ^ 20 := by exact_mod_cast hb
  unfold Builtin.Int.intTooBig
  rw [bitsLine_eq]
  simp
  (clear ha hn0 this; omega)
theorem rIxT {value slice : Expr} {l : Addr} {items : Array Value} {i : Int} {x : Value} (n : Nat) (hl : IsTup hp l items) (hj : seqIndex? i items.size = some n) (hb0 : -(2 ^ 62) ≤ i) (hb : i < 2 ^ 62) (hx : items[n]? = some x) (h : Q x ⟨hp, gn, dr, tk, os⟩)
    (hs : subscripted slice false (.ref l) (.int i u) = operate [.ref l, .int i u] (getItem (.ref l) (.int i u)) := by with_unfolding_all rfl) :
    wpAny (model PP w) A (subscriptTail value slice (.ref l) (.int i u)) Q E ⟨hp, gn, dr, tk, os⟩ :=
  tailR (IsTup.typeIs (s := ⟨hp, gn, dr, tk, os⟩) hl) slot_tuple_getitem.lookup (getItem_tuple hl (by omega) (by omega) hj hx h) hs
theorem IntsAre.at {vs : List Value} {ns : List Int} (h : IntsAre vs ns) (j : Nat) (hj : j < vs.length) (hj2 : j < ns.length) : ∃ t, vs[j] = .int ns[j] t := by
  obtain ⟨t, e⟩ := h.get j _ (List.getElem?_eq_getElem hj2)
  refine ⟨t, ?_⟩
  rw [List.getElem?_eq_getElem hj] at e
  exact Option.some.inj e
theorem eqg_int (x : Int) (t u : Tok) (A : Around) (s : Shared) : EqAt A s (.int x t) (.int x u) true := by
  have h := eq_isInt x u (IntsAre.cons x t .nil) (.int x t) (by simp)
  have e : isInt x (.int x t) = true := by simp [isInt]
  rw [e] at h
  exact h.at A s
theorem rEqLL {l b : Addr} {vs vs2 : List Value} {ns : List Int} (hl : hp.IsList l vs.toArray) (hb : hp.IsList b vs2.toArray) (hi : IntsAre vs ns) (hi2 : IntsAre vs2 ns) (rm : Rm A 1)
    (h : Q (.bool true) ⟨hp, gn, dr, tk, os⟩) : wpAny (model PP w) A (compareOp .Eq (.ref l) (.ref b)) Q E ⟨hp, gn, dr, tk, os⟩ := by
  refine eq_listAt (e := fun _ => true) hl hb (by simp [hi.length, hi2.length]) (by have := rm.un; omega) (fun j h1 h2 => ?_) ?_
  · obtain ⟨t, e⟩ := IntsAre.at hi j (by simpa using h1) (by have := hi.length; simp at h1; (clear h2; omega))
    obtain ⟨u, e2⟩ := IntsAre.at hi2 j (by simpa using h2) (by have := hi2.length; simp at h2; omega)
    simp only [List.getElem_toArray, e, e2]
    exact eqg_int _ _ _ _ _
  · have : (List.range vs.toArray.size).all (fun _ => true) = true := by simp
    rw [this]
    exact h
theorem rNeLL {l b : Addr} {vs vs2 : List Value} {ns : List Int} (hl : hp.IsList l vs.toArray) (hb : hp.IsList b vs2.toArray) (hi : IntsAre vs ns) (hi2 : IntsAre vs2 ns) (rm : Rm A 1)
    (h : Q (.bool false) ⟨hp, gn, dr, tk, os⟩) : wpAny (model PP w) A (compareOp .NotEq (.ref l) (.ref b)) Q E ⟨hp, gn, dr, tk, os⟩ := by
  refine RcNeAt.lists (s := ⟨hp, gn, dr, tk, os⟩) (e := fun _ => true) hl hb (by simp [hi.length, hi2.length]) (by have := rm.un; omega) (fun j h1 h2 => ?_) PP w E Q ?_
  · obtain ⟨t, e⟩ := IntsAre.at hi j (by simpa using h1) (by have := hi.length; simp at h1; (clear h2; omega))
    obtain ⟨u, e2⟩ := IntsAre.at hi2 j (by simpa using h2) (by have := hi2.length; simp at h2; omega)
    simp only [List.getElem_toArray, e, e2]
    exact eqg_int _ _ _ _ _
  · have : (!(List.range vs.toArray.size).all (fun _ => true)) = false := by simp
    rw [this]
    exact h
theorem rEqLenL {l b : Addr} {vs vs2 : List Value} (hl : hp.IsList l vs.toArray) (hb : hp.IsList b vs2.toArray) (hne : vs.length ≠ vs2.length) (rm : Rm A 1)
    (h : Q (.bool false) ⟨hp, gn, dr, tk, os⟩) : wpAny (model PP w) A (compareOp .Eq (.ref l) (.ref b)) Q E ⟨hp, gn, dr, tk, os⟩ :=
  eq_list_lengthsAt hl hb (by simpa using hne) (by have := rm.un; (clear hne; omega)) h
end
end Mine
end

namespace Mine
theorem all2 {m n : Nat} {f : Nat → Nat → Bool} (h : ((List.range m).all fun P => (List.range n).all fun R => f (P + 1) (R + 1)) = true) {P R : Nat} (hP : 1 ≤ P) (hP' : P ≤ m) (hR : 1 ≤ R) (hR' : R ≤ n) : f P R = true := by
  have h1 := List.all_eq_true.mp h (P - 1) (List.mem_range.mpr (by (clear hR hR'; omega)))
  have h2 := List.all_eq_true.mp h1 (R - 1) (List.mem_range.mpr (by (clear hP hP'; omega)))
  have e1 : P - 1 + 1 = P := by (clear hP' hR hR'; omega)
  have e2 : R - 1 + 1 = R := by (clear hP hP' hR' e1; omega)
  rw [e1, e2] at h2
  exact h2
theorem okQ_of {p P R : Nat} (hp : p = 3 ∨ p = 5 ∨ p = 7) (hP : 1 ≤ P) (hP' : P ≤ 4) (hR : 1 ≤ R) (hR' : R < p) : okQ p P R = true := by
  rcases hp with rfl | rfl | rfl
  · exact all2 ok3 hP hP' hR (by (clear hP hP'; omega))
  · exact all2 ok5 hP hP' hR (by (clear hP hP'; omega))
  · exact all2 ok7 hP hP' hR (by (clear hP hP'; omega))
theorem okA_of {p P R : Nat} (hp : p = 3 ∨ p = 5 ∨ p = 7) (hP : 1 ≤ P) (hP' : P ≤ 4) (hR : 1 ≤ R) (hR' : R < p) : okA p P R = true := by
  rcases hp with rfl | rfl | rfl
  · exact all2 ap3 hP hP' hR (by (clear hP hP'; omega))
  · exact all2 ap5 hP hP' hR (by (clear hP hP'; omega))
  · exact all2 ap7 hP hP' hR (by (clear hP hP'; omega))
theorem luc_len (P R : Nat) : ∀ n a b, (luc P R n a b).length = n
  | 0, _, _ => rfl
  | n + 1, a, b => by simp [luc, luc_len P R n]
theorem luc_snoc (P R : Nat) : ∀ j a b, luc P R (j + 3) a b = luc P R (j + 2) a b ++ [P * (luc P R (j + 2) a b).getD (j + 1) 0 + R * (luc P R (j + 2) a b).getD j 0]
  | 0, a, b => rfl
  | j + 1, a, b => by
    have ih := luc_snoc P R j b (P * b + R * a)
    show b :: luc P R (j + 3) b (P * b + R * a) = b :: (luc P R (j + 2) b (P * b + R * a) ++ [P * (b :: luc P R (j + 2) b (P * b + R * a)).getD (j + 2) 0 + R * (b :: luc P R (j + 2) b (P * b + R * a)).getD (j + 1) 0])
    rw [ih]
    rfl
theorem q_facts {p P R : Nat} (h : okQ p P R = true) : digs 64 (2 * p + 2) (quo p P R) = ((luc P R (2 * p + 2) 0 1).reverse.map fun (x : Nat) => (x : Int)) ∧ cnt 64 (quo p P R) = 2 * p + 2 ∧ ∀ x ∈ luc P R (2 * p + 2) 0 1, x ≠ 0 ∧ x < 2 ^ 60 := by
  unfold okQ at h
  simp only [Bool.and_eq_true, beq_iff_eq, decide_eq_true_eq, List.all_eq_true, bne_iff_ne] at h
  obtain ⟨⟨⟨h1, h2⟩, h3⟩, h4⟩ := h
  refine ⟨h1, ?_, h4⟩
  have b1 := bits_nat h2
  have b2 : ¬ Builtin.Int.intBits ((quo p P R : Nat) : Int) ≤ 64 * (2 * p + 2 - 1) := fun q => by
    have := intBits_le_iff.mp q
    rw [Int.natAbs_natCast] at this
    (clear h2 b1 q; omega)
  show (Builtin.Int.intBits ((quo p P R : Nat) : Int) + 64 - 1) / 64 = _
  (clear h3 h2; omega)
theorem divd_eq (p P R : Nat) : divd p P R = ((List.range (2 * p + 2)).filter fun k => decide ((luc P R (2 * p + 2) 0 1).getD k 0 % p = 0)).map (· + 1) := by
  unfold divd
  generalize List.range (2 * p + 2) = l
  induction l with
  | nil => rfl
  | cons a l ih =>
    rw [List.filterMap_cons, List.filter_cons]
    by_cases h : (luc P R (2 * p + 2) 0 1).getD a 0 % p = 0
    · simp only [h, if_true, decide_true, List.map_cons, ih]
    · simp only [h, if_false, decide_false, ih]
      simp
theorem a_facts {p P R : Nat} (h : okA p P R = true) : ∃ d r, divd p P R = d :: r ∧ 2 ≤ d ∧ d ≤ 2 * p + 2 ∧ ((p : Int) - sgn p P R) % (d : Int) = 0 ∧ divd p P R = (List.range ((2 * p + 2) / d)).map fun i => (i + 1) * d := by
  unfold okA at h
  split at h
  · cases h
  · rename_i d r e
    simp only [Bool.and_eq_true, beq_iff_eq, decide_eq_true_eq] at h
    obtain ⟨⟨⟨h1, h2⟩, h3⟩, h4⟩ := h
    exact ⟨d, r, e, h1, h2, h3, e.trans h4⟩
theorem sq_any (p P R : Nat) : (((List.range p).map fun (k : Nat) => ((k : Int) * k).fmod p).any (· == ((sq p P R : Nat) : Int))) = ((List.range p).map fun k => k * k % p).contains (sq p P R) := by
  generalize sq p P R = x
  generalize List.range p = l
  induction l with
  | nil => rfl
  | cons a l ih =>
    rw [List.map_cons, List.map_cons, List.any_cons, List.contains_cons, ih]
    congr 1
    have e : ((a : Int) * a).fmod p = ((a * a % p : Nat) : Int) := by
      rw [Int.fmod_eq_emod_of_nonneg _ (Int.natCast_nonneg _)]
      push_cast
      rfl
    rw [e]
    rw [Bool.eq_iff_iff]
    simp only [beq_iff_eq]
    (clear e; omega)
end Mine

section
open PySem.SeqAt PySem.MeetsSeq
namespace Mine
section
variable {w : World} {A : Around} {E : Value → Shared → Prop} {Q : Value → Shared → Prop} {t u : Tok} {hp h' : Heap} {gn : Array GenState} {dr : Drawn} {tk : Nat} {os : OsState} {pos : Pos} {k : Nat} {env : Env}
  {g0 g : Heap} {T : List Addr} {L : Addr} {m : Str → Option Value} {nw : List (Addr × Obj)} {mg mb : Str → Option Value}
theorem rMulB {a b : Int} (c : Int) (e : a * b = c) (ha : Builtin.Int.intBits a ≤ 2 ^ 20) (hb : Builtin.Int.intBits b ≤ 2 ^ 20) (h : Q (.int c tk) ⟨hp, gn, dr, tk + 1, os⟩) : wpAny (model PP w) A (binaryOp .Mult (.int a t) (.int b u)) Q E ⟨hp, gn, dr, tk, os⟩ :=
  mul_int (by rw [e]; exact h) (IntMulOk.of_bits ha hb)
theorem p64 : (2 : Int) ^ 64 = ((2 ^ 64 : Nat) : Int) := by decide
theorem bits2 : Builtin.Int.intBits 2 * 64 ≤ 2 ^ 20 := Nat.le_trans (Nat.mul_le_mul_right 64 (bits_nat (a := 2) (k := 2) (by decide))) (by decide)
theorem bits64 {X : Nat} (hX : X = 2 ^ 64) : Builtin.Int.intBits (X : Int) ≤ 65 := bits_nat (by rw [hX]; decide)
theorem le2_64 {X : Nat} (hX : X = 2 ^ 64) : (2 : Int) ≤ (X : Int) := by rw [hX]; decide
theorem bD {X P R : Nat} (hX : X = 2 ^ 64) (hP : P ≤ 4) (hR1 : 1 ≤ R) (hR : R ≤ 7) : ((X * X - P * X - R : Nat) : Int) = (X : Int) * X - P * X - R ∧ 0 < X * X - P * X - R ∧ Builtin.Int.intBits ((X * X - P * X - R : Nat) : Int) = 128 := by
  have h1 : P * X ≤ 4 * X := Nat.mul_le_mul_right _ hP
  have e : X * X = 2 ^ 128 := by rw [hX]
  have h2 : 4 * X = 2 ^ 66 := by rw [hX]
  have b1 := bits_nat (a := X * X - P * X - R) (k := 128) (by (clear hP h2; omega))
  have b2 : ¬ Builtin.Int.intBits ((X * X - P * X - R : Nat) : Int) ≤ 127 := fun q => by
    have := intBits_le_iff.mp q
    rw [Int.natAbs_natCast] at this
    (clear hP h2 b1 q; omega)
  refine ⟨?_, by (clear hP h2 b1 b2; omega), by (clear hX hP hR1 hR h1 e h2; omega)⟩
  have e1 : ((X * X - P * X - R : Nat) : Int) = ((X * X : Nat) : Int) - ((P * X : Nat) : Int) - (R : Int) := by (clear hP h2 b1 b2; omega)
  rw [e1]
  push_cast
  rfl
theorem cntX {X n : Nat} (hX : X = 2 ^ 64) (hn : n ≤ 17) : cnt 128 (X ^ n) ≤ 10 := by
  have : X ^ n ≤ X ^ 17 := Nat.pow_le_pow_right (by rw [hX]; decide) hn
  have h2 : X ^ 17 < 2 ^ 1089 := by rw [hX]; decide
  have b := bits_nat (a := X ^ n) (k := 1089) (Nat.lt_of_le_of_lt this h2)
  show (Builtin.Int.intBits ((X ^ n : Nat) : Int) + 128 - 1) / 128 ≤ 10
  (clear hX hn this h2; omega)
theorem IsTuple.isTup {h : Heap} {a : Addr} {items : Array Value} (x : h.IsTuple a items) : IsTup h a items := by
  obtain ⟨o, e, c, r⟩ := x
  exact ⟨o, e, c, r⟩
end
end Mine
end

section
open PySem.SeqAt PySem.MeetsSeq
namespace Mine
section
variable {w : World} {A : Around} {E : Value → Shared → Prop} {Q : Value → Shared → Prop} {t u : Tok} {hp h' : Heap} {gn : Array GenState} {dr : Drawn} {tk : Nat} {os : OsState} {pos : Pos} {k : Nat} {env : Env}
  {g0 g : Heap} {T : List Addr} {L : Addr} {m : Str → Option Value} {nw : List (Addr × Obj)} {mg mb : Str → Option Value}
abbrev TurnG (w : World) (A : Around) (g0 hp : Heap) (dr : Drawn) (os : OsState) (N : Nat) (item f : Nat → Value → Prop) (x : Str) (elt : Expr) (scope : Scope) (cl : List (Str × Addr)) (env : Env) (p : Nat → Bool) : Prop :=
  ∀ C T2 hp2 i v h1 tk1 m1 nw1 gn1, i < N → p i = true → item i v → AllB gn1 → FS g0 hp2 T2 C h1 m1 nw1 → Kp [] hp h1 → m1 x = some v → ∀ (Q2 : Value → Shared → Prop), (∀ y h2 tk2 gn2, f i y → OK g0 h2 → Kp [] h1 h2 → AllB gn2 → Q2 y ⟨h2, gn2, dr, tk2, os⟩) →
      wpAny (model PP w) A (eval elt (compEnvC scope cl C env)) Q2 (fun _ _ => False) ⟨h1, gn1, dr, tk1, os⟩
abbrev TestG (w : World) (A : Around) (g0 hp : Heap) (dr : Drawn) (os : OsState) (N : Nat) (item : Nat → Value → Prop) (p : Nat → Bool) (x : Str) (tst : Expr) (scope : Scope) (cl : List (Str × Addr)) (env : Env) : Prop :=
  ∀ C T2 hp2 i v h1 tk1 m1 nw1 gn1, i < N → item i v → AllB gn1 → FS g0 hp2 T2 C h1 m1 nw1 → Kp [] hp h1 → m1 x = some v → ∀ (Q2 : Bool → Shared → Prop), (∀ h2 tk2 gn2, OK g0 h2 → Kp [] h1 h2 → AllB gn2 → Q2 (p i) ⟨h2, gn2, dr, tk2, os⟩) →
      wpAny (model PP w) A (isTrue tst (compEnvC scope cl C env) (eval tst (compEnvC scope cl C env))) Q2 (fun _ _ => False) ⟨h1, gn1, dr, tk1, os⟩
theorem Kp.drop1 {o : Obj} (K : Kp [hp.objs.size] (hp.push o) h') : Kp [] hp h' :=
  ⟨by have := K.sz; rw [Heap.size_push] at this; omega, fun b ob e q _ => K.kp b ob (Heap.get?_push_of_some _ e) q (fun z => Nat.ne_of_lt (Heap.lt_size e) (List.mem_singleton.mp z))⟩
theorem compN {C D : Addr} {T2 : List Addr} {hp2 h4 : Heap} {mm : Str → Option Value} {ys : List Value} {n : Nat} (F4 : FS g0 hp2 T2 C h4 mm [(D, LO ys n)]) (K : Kp [] hp h4) (hC : hp.objs.size ≤ C)
    (h : ∀ h2, OK g0 h2 → Kp [] hp h2 → h2.get? D = some (LO ys n) → Q (.ref D) ⟨h2, gn, dr, tk, os⟩) : compPost (model PP w) A E none Q (.ref D) C (.ok .next) ⟨h4, gn, dr, tk, os⟩ := by
  refine ⟨_, F4.ns, fun h5 S5 => ?_⟩
  obtain ⟨k5, K5, e5⟩ := F4.out S5
  exact h h5 k5 ⟨Nat.le_trans K.sz (same_sz S5), fun b o e q1 q2 => (S5.2 b (Nat.ne_of_lt (Nat.lt_of_lt_of_le (Heap.lt_size e) hC))).trans (K.kp b o e q1 q2)⟩ (e5 _ (.head _))
theorem compS {QQ : Shared → Prop} {C D : Addr} {T2 : List Addr} {hp2 h4 : Heap} {mm : Str → Option Value} {ys : List Value} {n : Nat} {y : Str} {py : Pos} (F : FS g0 g T L hp m nw) (F4 : FS g0 hp2 T2 C h4 mm [(D, LO ys n)]) (K : Kp [] hp h4) (hC : hp.objs.size ≤ C) (hD : hp.objs.size ≤ D)
    (h : ∀ h2 tk2, FS g0 g T L h2 (fun z => if z = y then some (.ref D) else m z) ((D, LO ys n) :: nw) → QQ ⟨h2, gn, dr, tk2, os⟩)
    (hL : env.locals = L := by rfl) (hk : env.scope.kind = .function := by rfl) (hx : env.kindOf y = some .local := by rfl) :
    compPost (model PP w) A E (some (assign (.Name y py) env)) (fun _ s' => QQ s') (.ref D) C (.ok .next) ⟨h4, gn, dr, tk, os⟩ := by
  have F5 := (F.call F4.ok K).add (F4.at 0 rfl) (Nat.le_trans F.gsz hD) (F.fresh hD).1 (F.fresh hD).2
  have hCD : @Ne Nat D C := F4.nL _ (.head _)
  obtain ⟨oC, es, ep, eC, rC⟩ := id F4.ns
  have F6 := F5.add eC (Nat.le_trans F.gsz hC) (fun p hp' => by
    rcases List.mem_cons.mp hp' with rfl | hp'
    · exact hCD
    · exact (F.fresh hC).1 p hp') (F.fresh hC).2
  have hCL : @Ne Nat C L := (F.fresh hC).2
  refine wpAny_assign_Name ?_
  refine rStS F6 (fun h7 S7 F7 => ?_) hL hk hx
  refine ⟨mm, ns_same F4.ns hCL S7, fun h8 S8 => ?_⟩
  exact h h8 _ (F7.dropX (ns_nc F4.ns _ eC) S8.extBut)
theorem rAsU {y : Str} {py spos : Pos} {elt iter : Expr} {x : Str} {px : Pos} {ifs : List Expr} {rest : List Comprehension} {scope : Scope} {cl : List (Str × Addr)} {stmts : List Stmt} {Q : Flow → Shared → Prop}
    (h : wpAny (model PP w) A (eval iter env) (fun xv s₁ => wpAny (model PP w) A (pyIter xv) (fun it s₂ => LCGoalR w A elt x px iter ifs rest scope pos env cl E (compPost (model PP w) A E (some (assign (.Name y py) env)) (fun _ s' => wpAny (model PP w) A (execs stmts env) Q E s')) it s₂) E s₁) E ⟨hp, gn, dr, tk, os⟩)
    (hsw : swapsWith (.ListComp elt (⟨.Name x px, iter, ifs, 0⟩ :: rest) scope pos) (some (.Name y py)) spos.line env = pure true := by rfl)
    (hclos : closureFor scope env = pure cl := by rfl) (hkind : scope.kind = .function := by rfl)
    (hnames : (scope.names.all fun y => !(y.2 == .local) || scope.names.lookup y.1 == some .local) = true := by rfl)
    (hs : ∀ x, foldedSetIterable iter env x = pure x := by intro _; rfl) :
    wpAny (model PP w) A (execs (.Assign [.Name y py] (.ListComp elt (⟨.Name x px, iter, ifs, 0⟩ :: rest) scope pos) spos :: stmts) env) Q E ⟨hp, gn, dr, tk, os⟩ := by
  refine wpAny_execs_cons ?_
  rw [exec_Assign_Name_used _ _ _ _ hsw]
  refine wpAny_bind (wpAny_standAt (wpAny_bind ?_))
  show wpAny _ A (do let _ ← comprehension (.ListComp elt (⟨.Name x px, iter, ifs, 0⟩ :: rest) scope pos) scope env _ (newList []) false (eval iter env) (some (assign (.Name y py) env))) _ _ _
  refine wpAny_bind (wpAny_mono (wpAny_comprehension_free (use := some (assign (.Name y py) env)) (Q := fun _ s' => wpAny (model PP w) A (execs stmts env) Q E s') rfl hs hclos hkind (fun y hy hl => by
    have := List.all_eq_true.mp hnames y hy
    rw [hl] at this
    simpa using this) h) (fun _ s' hq => wpAny_pure (wpAny_pure hq)) fun _ _ e => e)
theorem rLClR {RR : Value → Addr → Result → Shared → Prop} {elt iter : Expr} {x : Str} {px : Pos} {scope : Scope} {cl : List (Str × Addr)} {l : Addr} {vs : List Value} (f : Nat → Value → Prop) (k2 : OK g0 hp) (hl : hp.IsList l vs.toArray) (hlt : l ∉ tabs) (hN : vs.length ≤ 2 ^ 20) (hA : A.handled = none) (hall : AllB gn)
    (turn : TurnG w A g0 hp dr os vs.length (fun i v => vs[i]? = some v) f x elt scope cl env (fun _ => true))
    (h : ∀ C T2 hp2 D h2 tk2 gn2 mm ys n, FS g0 hp2 T2 C h2 mm [(D, LO ys n)] → Kp [] hp h2 → hp.objs.size ≤ D → hp.objs.size ≤ C → Al f (List.range vs.length) ys → AllB gn2 → RR (.ref D) C (.ok .next) ⟨h2, gn2, dr, tk2, os⟩)
    (hcell : (scope.names.all fun y => !(y.2 == .cell)) = true := by rfl) (hkind : scope.kind = .function := by rfl) (hx : ∀ C, (compEnvC scope cl C env).kindOf x = some .local := by intro _; rfl) :
    wpAny (model PP w) A (pyIter (.ref l)) (fun it s₂ => LCGoalR w A elt x px iter [] [] scope pos env cl E RR it s₂) E ⟨hp, gn, dr, tk, os⟩ := by
  refine wpAny_pyIter_list hl ?_
  have k3 : OK g0 (hp.push (itO l 0)) := k2.ext (by rw [Heap.size_push]; (clear hlt hN; omega)) (fun b o e => Heap.get?_push_of_some _ e)
  refine rLCg f k3 (o := itO l 0) (Heap.get?_push_size _ rfl) ⟨rfl, rfl⟩ k2.sz (Itr.list hA (hl.push _) hlt (by obtain ⟨_, e, _⟩ := hl; exact Nat.ne_of_lt (Heap.lt_size e))) hN hall (fun i v h1 tk1 m1 nw1 gn1 hi hv B F hm Q2 q => turn _ _ _ i v h1 tk1 m1 nw1 gn1 hi ?_ hv B F F.kp.drop1 hm Q2 q) (fun h2 tk2 gn2 mm ys n F al B => h _ _ _ _ h2 tk2 gn2 mm ys n F F.kp.drop1 (by rw [Heap.size_push]; exact Nat.le_succ _) (by rw [Heap.size_push]; exact Nat.le_succ_of_le (Nat.le_succ _)) al B) hcell hkind (hx _)
  rfl
theorem rLCl {elt iter : Expr} {x : Str} {px : Pos} {scope : Scope} {cl : List (Str × Addr)} {l : Addr} {vs : List Value} (f : Nat → Value → Prop) (k2 : OK g0 hp) (hl : hp.IsList l vs.toArray) (hlt : l ∉ tabs) (hN : vs.length ≤ 2 ^ 20) (hA : A.handled = none) (hall : AllB gn)
    (turn : TurnG w A g0 hp dr os vs.length (fun i v => vs[i]? = some v) f x elt scope cl env (fun _ => true))
    (h : ∀ D h2 tk2 gn2 ys n, OK g0 h2 → Kp [] hp h2 → hp.objs.size ≤ D → h2.get? D = some (LO ys n) → Al f (List.range vs.length) ys → AllB gn2 → Q (.ref D) ⟨h2, gn2, dr, tk2, os⟩)
    (hcell : (scope.names.all fun y => !(y.2 == .cell)) = true := by rfl) (hkind : scope.kind = .function := by rfl) (hx : ∀ C, (compEnvC scope cl C env).kindOf x = some .local := by intro _; rfl) :
    wpAny (model PP w) A (pyIter (.ref l)) (fun it s₂ => LCGoal w A elt x px iter [] [] scope pos env cl E Q it s₂) E ⟨hp, gn, dr, tk, os⟩ :=
  rLClR f k2 hl hlt hN hA hall turn (fun C T2 hp2 D h2 tk2 gn2 mm ys n F K hD hC al B => compN F K hC fun h3 k3 K3 e3 => h D h3 tk2 gn2 ys n k3 K3 hD e3 al B) hcell hkind hx
theorem rLCrR {RR : Value → Addr → Result → Shared → Prop} {elt iter : Expr} {x : Str} {px : Pos} {scope : Scope} {cl : List (Str × Addr)} {r : Addr} {N : Nat} {t1 t2 t3 : Tok} (f : Nat → Value → Prop) (k2 : OK g0 hp) (hr : IsRange hp r 0 N 1 t1 t2 t3) (hN : N ≤ 2 ^ 20) (hA : A.handled = none) (hall : AllB gn)
    (turn : TurnG w A g0 hp dr os N (fun i v => ∃ t, v = .int i t) f x elt scope cl env (fun _ => true))
    (h : ∀ C T2 hp2 D h2 tk2 gn2 mm ys n, FS g0 hp2 T2 C h2 mm [(D, LO ys n)] → Kp [] hp h2 → hp.objs.size ≤ D → hp.objs.size ≤ C → Al f (List.range N) ys → AllB gn2 → RR (.ref D) C (.ok .next) ⟨h2, gn2, dr, tk2, os⟩)
    (hcell : (scope.names.all fun y => !(y.2 == .cell)) = true := by rfl) (hkind : scope.kind = .function := by rfl) (hx : ∀ C, (compEnvC scope cl C env).kindOf x = some .local := by intro _; rfl) :
    wpAny (model PP w) A (pyIter (.ref r)) (fun it s₂ => LCGoalR w A elt x px iter [] [] scope pos env cl E RR it s₂) E ⟨hp, gn, dr, tk, os⟩ := by
  refine wpAny_pyIter_range hr (small_one (by decide) (by decide) (by omega) (by omega)) ?_
  rw [rangeSize_one, show (if (0 : Int) < (N : Int) then (N : Int) - 0 else 0) = N by split <;> omega]
  have k3 : OK g0 (hp.push (rgO 0 N)) := k2.ext (by rw [Heap.size_push]; (clear hN; omega)) (fun b o e => Heap.get?_push_of_some _ e)
  refine rLCg f k3 (o := rgO 0 N) (Heap.get?_push_size _ rfl) (by simp) k2.sz (Itr.range hA) hN hall (fun i v h1 tk1 m1 nw1 gn1 hi hv B F hm Q2 q => turn _ _ _ i v h1 tk1 m1 nw1 gn1 hi ?_ hv B F F.kp.drop1 hm Q2 q) (fun h2 tk2 gn2 mm ys n F al B => h _ _ _ _ h2 tk2 gn2 mm ys n F F.kp.drop1 (by rw [Heap.size_push]; exact Nat.le_succ _) (by rw [Heap.size_push]; exact Nat.le_succ_of_le (Nat.le_succ _)) al B) hcell hkind (hx _)
  rfl
theorem rLCr {elt iter : Expr} {x : Str} {px : Pos} {scope : Scope} {cl : List (Str × Addr)} {r : Addr} {N : Nat} {t1 t2 t3 : Tok} (f : Nat → Value → Prop) (k2 : OK g0 hp) (hr : IsRange hp r 0 N 1 t1 t2 t3) (hN : N ≤ 2 ^ 20) (hA : A.handled = none) (hall : AllB gn)
    (turn : TurnG w A g0 hp dr os N (fun i v => ∃ t, v = .int i t) f x elt scope cl env (fun _ => true))
    (h : ∀ D h2 tk2 gn2 ys n, OK g0 h2 → Kp [] hp h2 → hp.objs.size ≤ D → h2.get? D = some (LO ys n) → Al f (List.range N) ys → AllB gn2 → Q (.ref D) ⟨h2, gn2, dr, tk2, os⟩)
    (hcell : (scope.names.all fun y => !(y.2 == .cell)) = true := by rfl) (hkind : scope.kind = .function := by rfl) (hx : ∀ C, (compEnvC scope cl C env).kindOf x = some .local := by intro _; rfl) :
    wpAny (model PP w) A (pyIter (.ref r)) (fun it s₂ => LCGoal w A elt x px iter [] [] scope pos env cl E Q it s₂) E ⟨hp, gn, dr, tk, os⟩ :=
  rLCrR f k2 hr hN hA hall turn (fun C T2 hp2 D h2 tk2 gn2 mm ys n F K hD hC al B => compN F K hC fun h3 k3 K3 e3 => h D h3 tk2 gn2 ys n k3 K3 hD e3 al B) hcell hkind hx
theorem rLCrIfR {RR : Value → Addr → Result → Shared → Prop} {elt iter tst : Expr} {x : Str} {px : Pos} {scope : Scope} {cl : List (Str × Addr)} {r : Addr} {N : Nat} {t1 t2 t3 : Tok} (p : Nat → Bool) (f : Nat → Value → Prop) (k2 : OK g0 hp) (hr : IsRange hp r 0 N 1 t1 t2 t3) (hN : N ≤ 2 ^ 20) (hA : A.handled = none) (hall : AllB gn)
    (turn : TurnG w A g0 hp dr os N (fun i v => ∃ t, v = .int i t) f x elt scope cl env p)
    (test : TestG w A g0 hp dr os N (fun i v => ∃ t, v = .int i t) p x tst scope cl env)
    (h : ∀ C T2 hp2 D h2 tk2 gn2 mm ys n, FS g0 hp2 T2 C h2 mm [(D, LO ys n)] → Kp [] hp h2 → hp.objs.size ≤ D → hp.objs.size ≤ C → Al f ((List.range N).filter p) ys → AllB gn2 → RR (.ref D) C (.ok .next) ⟨h2, gn2, dr, tk2, os⟩)
    (hcell : (scope.names.all fun y => !(y.2 == .cell)) = true := by rfl) (hkind : scope.kind = .function := by rfl) (hx : ∀ C, (compEnvC scope cl C env).kindOf x = some .local := by intro _; rfl) :
    wpAny (model PP w) A (pyIter (.ref r)) (fun it s₂ => LCGoalR w A elt x px iter [tst] [] scope pos env cl E RR it s₂) E ⟨hp, gn, dr, tk, os⟩ := by
  refine wpAny_pyIter_range hr (small_one (by decide) (by decide) (by omega) (by omega)) ?_
  rw [rangeSize_one, show (if (0 : Int) < (N : Int) then (N : Int) - 0 else 0) = N by split <;> omega]
  have k3 : OK g0 (hp.push (rgO 0 N)) := k2.ext (by rw [Heap.size_push]; (clear hN; omega)) (fun b o e => Heap.get?_push_of_some _ e)
  refine rLCif p f k3 (o := rgO 0 N) (Heap.get?_push_size _ rfl) (by simp) k2.sz (Itr.range hA) hN hall (fun i v h1 tk1 m1 nw1 gn1 hi hp1 hv B F hm Q2 q => turn _ _ _ i v h1 tk1 m1 nw1 gn1 hi hp1 hv B F F.kp.drop1 hm Q2 q) (fun i v h1 tk1 m1 nw1 gn1 hi hv B F hm Q2 q => test _ _ _ i v h1 tk1 m1 nw1 gn1 hi hv B F F.kp.drop1 hm Q2 q) (fun h2 tk2 gn2 mm ys n F al B => h _ _ _ _ h2 tk2 gn2 mm ys n F F.kp.drop1 (by rw [Heap.size_push]; exact Nat.le_succ _) (by rw [Heap.size_push]; exact Nat.le_succ_of_le (Nat.le_succ _)) al B) hcell hkind (hx _)
end
end Mine
namespace Mine
section
variable {w : World} {A : Around} {E : Value → Shared → Prop} {t u : Tok} {hp h' : Heap} {gn : Array GenState} {dr : Drawn} {tk : Nat} {os : OsState} {pos : Pos} {k : Nat} {env : Env}
  {g0 g : Heap} {T : List Addr} {L : Addr} {m : Str → Option Value} {nw : List (Addr × Obj)} {mg mb : Str → Option Value}
theorem rIfJ {test : Expr} {body orelse rest : List Stmt} {Q : Flow → Shared → Prop} (J : Shared → Prop)
    (h : wpAny (model PP w) A (isTrue test env (eval test env)) (fun b s₂ => if b = true then wpAny (model PP w) A (execs body env) (fun f s' => f = .next ∧ J s') E s₂ else wpAny (model PP w) A (execs orelse env) (fun f s' => f = .next ∧ J s') E s₂) E ⟨hp, gn, dr, tk, os⟩)
    (q : ∀ s', J s' → wpAny (model PP w) A (execs rest env) Q E s') : wpAny (model PP w) A (execs (.If test body orelse pos :: rest) env) Q E ⟨hp, gn, dr, tk, os⟩ := by
  refine rIf (wpAny_mono h (fun b s₂ hb => ?_) fun _ _ z => z)
  by_cases hb' : b = true
  · rw [if_pos hb'] at hb ⊢
    refine wpAny_mono hb (fun f s' hf => ?_) fun _ _ z => z
    obtain ⟨rfl, hJ⟩ := hf
    exact q s' hJ
  · rw [if_neg hb'] at hb ⊢
    refine wpAny_mono hb (fun f s' hf => ?_) fun _ _ z => z
    obtain ⟨rfl, hJ⟩ := hf
    exact q s' hJ
theorem rInI {l : Addr} {vs : List Value} {ns : List Int} {a : Int} {Q : Value → Shared → Prop} (hl : hp.IsList l vs.toArray) (hi : IntsAre vs ns)
    (h : Q (.bool (ns.any (· == a))) ⟨hp, gn, dr, tk, os⟩) : wpAny (model PP w) A (compareOp .In (.int a t) (.ref l)) Q E ⟨hp, gn, dr, tk, os⟩ := in_list_ints hl hi h
theorem rNeI {a b : Int} {Q : Value → Shared → Prop} (h : Q (.bool (a != b)) ⟨hp, gn, dr, tk, os⟩) : wpAny (model PP w) A (compareOp .NotEq (.int a t) (.int b u)) Q E ⟨hp, gn, dr, tk, os⟩ := by
  first | exact ne_int h | exact notEq_int h
theorem rRange {n : Int} {Q : Value → Shared → Prop} (h : ∀ t1 t2 tk', IsRange (hp.push { cls := .type "range", data := .fields #[.int 0 t1, .int n t, .int 1 t2] }) hp.objs.size 0 n 1 t1 t t2 → Q (.ref hp.objs.size) ⟨hp.push { cls := .type "range", data := .fields #[.int 0 t1, .int n t, .int 1 t2] }, gn, dr, tk', os⟩) :
    wpAny (model PP w) A (call (.type "range") [.int n t]) Q E ⟨hp, gn, dr, tk, os⟩ := call_range_1 (h _ _ _ (IsRange.new ..))
theorem FS.callA (F : FS g0 g T L hp m nw) (k : OK g0 h') (K : Kp [] hp h') {D : Addr} {o : Obj} (hD : hp.objs.size ≤ D) (e : h'.get? D = some o) : FS g0 g T L h' m ((D, o) :: nw) :=
  (F.call k K).add e (Nat.le_trans F.gsz hD) (F.fresh hD).1 (F.fresh hD).2
theorem Kp.at {b : Addr} {o : Obj} (K : Kp [] hp h') (k : OK g0 hp) (h0 : g0.objs.size ≤ b) (e : hp.get? b = some o) : h'.get? b = some o := K.kp b o e (k.nt h0) List.not_mem_nil
end
end Mine
namespace Mine
theorem cntp {n x : Nat} (hn : n = 2 ∨ n = 3) (hx : x < 2 ^ 60) : cnt n x ≤ 31 := by
  have b := bits_nat hx
  show (Builtin.Int.intBits ((x : Nat) : Int) + n - 1) / n ≤ 31
  rcases hn with rfl | rfl <;> (clear hx; omega)
theorem bitsP {p : Nat} (hp : p = 3 ∨ p = 5 ∨ p = 7) : ∃ n, Builtin.Int.intBits (p : Int) = n ∧ (n = 2 ∨ n = 3) := by
  refine ⟨_, rfl, ?_⟩
  rcases hp with rfl | rfl | rfl
  · exact .inl (by decide)
  · exact .inr (by decide)
  · exact .inr (by decide)
theorem fmod_nat (a b : Nat) : ((a : Int)).fmod b = ((a % b : Nat) : Int) := by
  rw [Int.fmod_eq_emod_of_nonneg _ (Int.natCast_nonneg _)]
  exact (Int.natCast_emod a b).symm
theorem beq0 (n : Nat) : (((n : Nat) : Int) == 0) = decide (n = 0) := by
  rw [Bool.eq_iff_iff]
  simp only [beq_iff_eq, decide_eq_true_eq]
  omega
end Mine
end

namespace Mine
theorem abc_of : ∀ ns : List Int, ∃ a b c, ns.take 3 ++ ([1, 2, 0] : List Int).drop ns.length = [a, b, c]
  | [] => ⟨1, 2, 0, rfl⟩
  | [a] => ⟨a, 2, 0, rfl⟩
  | [a, b] => ⟨a, b, 0, rfl⟩
  | a :: b :: c :: r => ⟨a, b, c, by simp⟩
theorem c_law {w : World} {mg mb : Str → Option Value} {g0 : Heap} (G : Gd w mg mb g0) {A : Around} {R : Result → Shared → Prop} {dr : Drawn} {tk0 : Nat} {os : OsState} {l : Addr} {vs : List Value} {ns : List Int} {fa : Addr}
  (hfa : mg "law" = some (.ref fa)) (rm : Rm A 200) (hl : g0.IsList l vs.toArray) (hi : IntsAre vs ns) (hlen : ns.length ≤ 63) (hlt : l ∉ tabs)
 (h : ∀ h' gn' tks, OK g0 h' → AllB gn' → R (.ok (.ret (.bool true))) ⟨h', gn', dr, tks, os⟩) : codeAny (model PP w) A (.call (.ref fa) ⟨[.ref l], []⟩) R ⟨g0, #[], dr, tk0, os⟩ := by
  have e := mg_of (n := "law") G.X G.g (v := .ref 143) (by rfl)
  rw [hfa] at e
  cases e
  have k : OK g0 g0 := ⟨Nat.le_refl _, fun _ _ e _ => e, G.lt, ⟨#[], G.tb _ (by simp [tabs]), .inl rfl⟩, ⟨#[], G.tb _ (by simp [tabs]), .inl rfl⟩, ⟨#[], G.tb _ (by simp [tabs]), .inl rfl⟩⟩
  refine entC (T := []) (n := 199) (binds := [("script", .ref l)]) G k rm (k.at0 G rfl) rfl (k.code G rfl) rfl rfl rfl rfl rfl rfl rfl ?_
  intro h₁ tk₁ F hc rm₁ kk
  generalize hLL : g0.objs.size = L at *
  obtain ⟨o1, e1, d1⟩ := hc "prime" (L + 1) rfl
  obtain ⟨o2, e2, d2⟩ := hc "left" (L + 2) rfl
  change o1.data = .cell none at d1
  change o2.data = .cell none at d2
  replace F := (F.add e2 (by (clear hlen hlt; omega)) (fun _ q => nomatch q) (Nat.ne_of_gt (by (clear hlen hlt hLL; omega) : L < L + 2))).add e1 (by (clear hlen hlt; omega)) (fun q hq => by cases List.mem_singleton.mp hq; exact Nat.ne_of_gt (by (clear hlen hlt hLL; omega) : L + 1 < L + 2)) (Nat.ne_of_gt (by (clear hlen hlt hLL; omega) : L < L + 1))
  repeat (first | (first | ((with_reducible show wpAny _ _ (execs (Stmt.Assign [Expr.Name _ _] _ _ :: _) _) _ _ _); refine rAs ?_) | with_reducible refine rRet ?_ | with_reducible refine rIf ?_ | with_reducible refine wpAny_BinOp ?_ | with_reducible refine rI ?_ | with_reducible refine rS ?_ | ((with_reducible show wpAny _ _ (eval (Expr.Name _ _) _) _ _ _); refine nL (by assumption) rfl ?_) | ((with_reducible show wpAny _ _ (storeName _ _ _) _ _ _); refine rSt (by assumption) ?_; intro _ _) | ((with_reducible show wpAny _ _ (isTrue (Expr.Compare _ [_] [_] _) _ _) _ _ _); refine wpAny_isTrue_Compare1 ?_) | with_reducible refine wpAny_truthy_bool ?_ | with_reducible refine rEq ?_ | ((with_reducible show wpAny _ _ (eval (Expr.Call _ _ [] _) _) _ _ _); refine Call_ ?_) | ((with_reducible show wpAny _ _ (spliced (backTo _ (starEach (_ :: _) _))) _ _ _); refine spliced_more ?_) | ((with_reducible show wpAny _ _ (spliced (backTo _ (starEach [] _))) _ _ _); refine spliced_none ?_) | with_reducible refine wpAny_IfExp ?_) | (dsimp only; first | ((with_reducible show wpAny _ _ (execs (Stmt.Assign [Expr.Name _ _] _ _ :: _) _) _ _ _); refine rAs ?_) | with_reducible refine rRet ?_ | with_reducible refine rIf ?_ | with_reducible refine wpAny_BinOp ?_ | with_reducible refine rI ?_ | with_reducible refine rS ?_ | ((with_reducible show wpAny _ _ (eval (Expr.Name _ _) _) _ _ _); refine nL (by assumption) rfl ?_) | ((with_reducible show wpAny _ _ (storeName _ _ _) _ _ _); refine rSt (by assumption) ?_; intro _ _) | ((with_reducible show wpAny _ _ (isTrue (Expr.Compare _ [_] [_] _) _ _) _ _ _); refine wpAny_isTrue_Compare1 ?_) | with_reducible refine wpAny_truthy_bool ?_ | with_reducible refine rEq ?_ | ((with_reducible show wpAny _ _ (eval (Expr.Call _ _ [] _) _) _ _ _); refine Call_ ?_) | ((with_reducible show wpAny _ _ (spliced (backTo _ (starEach (_ :: _) _))) _ _ _); refine spliced_more ?_) | ((with_reducible show wpAny _ _ (spliced (backTo _ (starEach [] _))) _ _ _); refine spliced_none ?_) | with_reducible refine wpAny_IfExp ?_))
  have hl1 : h₁.IsList l vs.toArray := F.kp.list hl hlt List.not_mem_nil
  have hvl := hi.length
  refine rSub1 ?_
  refine nL F rfl ?_
  refine rSlc ?_
  rw [evalPart_none]
  refine wpAny_pure ?_
  rw [evalPart_some]
  refine rI ?_
  refine wpAny_pure ?_
  refine rLSl hl1 .none (.int _ _) (by simp; (clear hlt hLL; omega)) ?_
  have F2 := (F.psh0 { cls := .type "slice", data := .fields #[.none, .int 3 tk₁, .none] }).psh (LO (slicePick vs.toArray none (some 3) none).toList 0)
  have i2 : IntsAre (slicePick vs.toArray none (some 3) none).toList (ns.take 3) := slice_ints_uptoW hi (by decide)
  show wpAny (model PP w) _ _ _ _ ⟨(h₁.push _).push _, #[], dr, _, os⟩
  generalize hh2 : (h₁.push { cls := .type "slice", data := .fields #[.none, .int 3 tk₁, .none] }).push (LO (slicePick vs.toArray none (some 3) none).toList 0) = h2 at *
  refine rSub1 ?_
  refine rList ?_
  repeat (first | (first | ((with_reducible show wpAny _ _ (execs (Stmt.Assign [Expr.Name _ _] _ _ :: _) _) _ _ _); refine rAs ?_) | with_reducible refine rRet ?_ | with_reducible refine rIf ?_ | with_reducible refine wpAny_BinOp ?_ | with_reducible refine rI ?_ | with_reducible refine rS ?_ | ((with_reducible show wpAny _ _ (eval (Expr.Name _ _) _) _ _ _); refine nL (by assumption) rfl ?_) | ((with_reducible show wpAny _ _ (storeName _ _ _) _ _ _); refine rSt (by assumption) ?_; intro _ _) | ((with_reducible show wpAny _ _ (isTrue (Expr.Compare _ [_] [_] _) _ _) _ _ _); refine wpAny_isTrue_Compare1 ?_) | with_reducible refine wpAny_truthy_bool ?_ | with_reducible refine rEq ?_ | ((with_reducible show wpAny _ _ (eval (Expr.Call _ _ [] _) _) _ _ _); refine Call_ ?_) | ((with_reducible show wpAny _ _ (spliced (backTo _ (starEach (_ :: _) _))) _ _ _); refine spliced_more ?_) | ((with_reducible show wpAny _ _ (spliced (backTo _ (starEach [] _))) _ _ _); refine spliced_none ?_) | with_reducible refine wpAny_IfExp ?_) | (dsimp only; first | ((with_reducible show wpAny _ _ (execs (Stmt.Assign [Expr.Name _ _] _ _ :: _) _) _ _ _); refine rAs ?_) | with_reducible refine rRet ?_ | with_reducible refine rIf ?_ | with_reducible refine wpAny_BinOp ?_ | with_reducible refine rI ?_ | with_reducible refine rS ?_ | ((with_reducible show wpAny _ _ (eval (Expr.Name _ _) _) _ _ _); refine nL (by assumption) rfl ?_) | ((with_reducible show wpAny _ _ (storeName _ _ _) _ _ _); refine rSt (by assumption) ?_; intro _ _) | ((with_reducible show wpAny _ _ (isTrue (Expr.Compare _ [_] [_] _) _ _) _ _ _); refine wpAny_isTrue_Compare1 ?_) | with_reducible refine wpAny_truthy_bool ?_ | with_reducible refine rEq ?_ | ((with_reducible show wpAny _ _ (eval (Expr.Call _ _ [] _) _) _ _ _); refine Call_ ?_) | ((with_reducible show wpAny _ _ (spliced (backTo _ (starEach (_ :: _) _))) _ _ _); refine spliced_more ?_) | ((with_reducible show wpAny _ _ (spliced (backTo _ (starEach [] _))) _ _ _); refine spliced_none ?_) | with_reducible refine wpAny_IfExp ?_))
  refine rNewLg (fun vs => IntsAre vs [1, 2, 0]) (.cons _ _ (.cons _ _ (.cons _ _ .nil))) (by simp) ?_
  intro vs3 hvs3
  have F3 := F2.psh (LO vs3 0)
  have hl3 := F3.kp.list hl hlt List.not_mem_nil
  refine rSlc ?_
  rw [evalPart_some, evalPart_none]
  refine Call_ ?_
  refine nB G F3 rfl rfl ?_
  refine rCB ?_
  refine spliced_more ?_
  refine nL F3 rfl ?_
  refine spliced_none ?_
  refine rLen hl3 (n := ns.length) (by simp [hvl]) (by (clear hlt hLL; omega)) ?_
  intro tk4 tk5
  refine wpAny_pure ?_
  refine wpAny_pure ?_
  refine rLSlR (LO.is (F3.at 0 rfl)) (.int _ _) .none .none (by decide) (by have := hvs3.length; simp at this; simp; (clear hlen hlt hLL hvl; omega)) ?_
  have i3 : IntsAre (slicePick vs3.toArray (some (ns.length : Int)) none none).toList (([1, 2, 0] : List Int).drop ns.length) := by
    have := slice_ints_fromW hvs3 (x := (ns.length : Int)) (by (clear hlt hLL; omega))
    simpa using this
  have F4 := (F3.psh0 { cls := .type "slice", data := .fields #[.int (ns.length : Nat) tk4, .none, .none] }).psh (LO (slicePick vs3.toArray (some (ns.length : Int)) none none).toList 0)
  show wpAny (model PP w) _ _ _ _ ⟨((h2.push (LO vs3 0)).push _).push _, #[], dr, _, os⟩
  have hh1 : h₁.objs.size + 1 = (h₁.push { cls := .type "slice", data := .fields #[.none, .int 3 tk₁, .none] }).objs.size := by rw [Heap.size_push]
  have hh3 : (h2.push (LO vs3 0)).objs.size + 1 = ((h2.push (LO vs3 0)).push { cls := .type "slice", data := .fields #[.int (ns.length : Nat) tk4, .none, .none] }).objs.size := (Heap.size_push ..).symm
  have eA := F4.at 2 rfl
  have eB := F4.at 0 rfl
  rw [← hh1] at eA
  rw [← hh3] at eB
  refine rAddL eA eB (by have := i2.length; have := i3.length; simp at *; (clear hLL hlt; omega)) ?_
  have F5 := F4.psh (LO ((slicePick vs.toArray none (some 3) none).toList ++ (slicePick vs3.toArray (some (ns.length : Int)) none none).toList) 0)
  obtain ⟨a, b, c, eabc⟩ := abc_of ns
  have i5 := IntsAre.append i2 i3
  rw [eabc] at i5
  generalize (slicePick vs.toArray none (some 3) none).toList ++ (slicePick vs3.toArray (some (ns.length : Int)) none none).toList = vn at *
  replace F5 := F5.drop (nw' := [(_, LO vn 0), (L + 1, o1), (L + 2, o2)]) (.cons_cons _ (.cons _ (.cons _ (.cons _ (.cons_cons _ (.cons_cons _ .slnil))))))
  dsimp only
  generalize hlN : (((h2.push (LO vs3 0)).push _).push _).objs.size = lN at *
  generalize (((h2.push (LO vs3 0)).push _).push _).push _ = h6 at *
  clear F2 F3 F4 eA eB hh1 hh3 hl3 hvs3 i2 i3 hl1
  refine rStS F5 ?_
  intro h7 S7 F7
  repeat (first | (first | ((with_reducible show wpAny _ _ (execs (Stmt.Assign [Expr.Name _ _] _ _ :: _) _) _ _ _); refine rAs ?_) | with_reducible refine rRet ?_ | with_reducible refine rIf ?_ | with_reducible refine wpAny_BinOp ?_ | with_reducible refine rI ?_ | with_reducible refine rS ?_ | ((with_reducible show wpAny _ _ (eval (Expr.Name _ _) _) _ _ _); refine nL (by assumption) rfl ?_) | ((with_reducible show wpAny _ _ (storeName _ _ _) _ _ _); refine rSt (by assumption) ?_; intro _ _) | ((with_reducible show wpAny _ _ (isTrue (Expr.Compare _ [_] [_] _) _ _) _ _ _); refine wpAny_isTrue_Compare1 ?_) | with_reducible refine wpAny_truthy_bool ?_ | with_reducible refine rEq ?_ | ((with_reducible show wpAny _ _ (eval (Expr.Call _ _ [] _) _) _ _ _); refine Call_ ?_) | ((with_reducible show wpAny _ _ (spliced (backTo _ (starEach (_ :: _) _))) _ _ _); refine spliced_more ?_) | ((with_reducible show wpAny _ _ (spliced (backTo _ (starEach [] _))) _ _ _); refine spliced_none ?_) | with_reducible refine wpAny_IfExp ?_) | (dsimp only; first | ((with_reducible show wpAny _ _ (execs (Stmt.Assign [Expr.Name _ _] _ _ :: _) _) _ _ _); refine rAs ?_) | with_reducible refine rRet ?_ | with_reducible refine rIf ?_ | with_reducible refine wpAny_BinOp ?_ | with_reducible refine rI ?_ | with_reducible refine rS ?_ | ((with_reducible show wpAny _ _ (eval (Expr.Name _ _) _) _ _ _); refine nL (by assumption) rfl ?_) | ((with_reducible show wpAny _ _ (storeName _ _ _) _ _ _); refine rSt (by assumption) ?_; intro _ _) | ((with_reducible show wpAny _ _ (isTrue (Expr.Compare _ [_] [_] _) _ _) _ _ _); refine wpAny_isTrue_Compare1 ?_) | with_reducible refine wpAny_truthy_bool ?_ | with_reducible refine rEq ?_ | ((with_reducible show wpAny _ _ (eval (Expr.Call _ _ [] _) _) _ _ _); refine Call_ ?_) | ((with_reducible show wpAny _ _ (spliced (backTo _ (starEach (_ :: _) _))) _ _ _); refine spliced_more ?_) | ((with_reducible show wpAny _ _ (spliced (backTo _ (starEach [] _))) _ _ _); refine spliced_none ?_) | with_reducible refine wpAny_IfExp ?_))
  refine rSub1 ?_
  refine rList ?_
  repeat (first | (first | ((with_reducible show wpAny _ _ (execs (Stmt.Assign [Expr.Name _ _] _ _ :: _) _) _ _ _); refine rAs ?_) | with_reducible refine rRet ?_ | with_reducible refine rIf ?_ | with_reducible refine wpAny_BinOp ?_ | with_reducible refine rI ?_ | with_reducible refine rS ?_ | ((with_reducible show wpAny _ _ (eval (Expr.Name _ _) _) _ _ _); refine nL (by assumption) rfl ?_) | ((with_reducible show wpAny _ _ (storeName _ _ _) _ _ _); refine rSt (by assumption) ?_; intro _ _) | ((with_reducible show wpAny _ _ (isTrue (Expr.Compare _ [_] [_] _) _ _) _ _ _); refine wpAny_isTrue_Compare1 ?_) | with_reducible refine wpAny_truthy_bool ?_ | with_reducible refine rEq ?_ | ((with_reducible show wpAny _ _ (eval (Expr.Call _ _ [] _) _) _ _ _); refine Call_ ?_) | ((with_reducible show wpAny _ _ (spliced (backTo _ (starEach (_ :: _) _))) _ _ _); refine spliced_more ?_) | ((with_reducible show wpAny _ _ (spliced (backTo _ (starEach [] _))) _ _ _); refine spliced_none ?_) | with_reducible refine wpAny_IfExp ?_) | (dsimp only; first | ((with_reducible show wpAny _ _ (execs (Stmt.Assign [Expr.Name _ _] _ _ :: _) _) _ _ _); refine rAs ?_) | with_reducible refine rRet ?_ | with_reducible refine rIf ?_ | with_reducible refine wpAny_BinOp ?_ | with_reducible refine rI ?_ | with_reducible refine rS ?_ | ((with_reducible show wpAny _ _ (eval (Expr.Name _ _) _) _ _ _); refine nL (by assumption) rfl ?_) | ((with_reducible show wpAny _ _ (storeName _ _ _) _ _ _); refine rSt (by assumption) ?_; intro _ _) | ((with_reducible show wpAny _ _ (isTrue (Expr.Compare _ [_] [_] _) _ _) _ _ _); refine wpAny_isTrue_Compare1 ?_) | with_reducible refine wpAny_truthy_bool ?_ | with_reducible refine rEq ?_ | ((with_reducible show wpAny _ _ (eval (Expr.Call _ _ [] _) _) _ _ _); refine Call_ ?_) | ((with_reducible show wpAny _ _ (spliced (backTo _ (starEach (_ :: _) _))) _ _ _); refine spliced_more ?_) | ((with_reducible show wpAny _ _ (spliced (backTo _ (starEach [] _))) _ _ _); refine spliced_none ?_) | with_reducible refine wpAny_IfExp ?_))
  refine rNewLg (fun vs => IntsAre vs [3, 5, 7]) (.cons _ _ (.cons _ _ (.cons _ _ .nil))) (by simp) ?_
  intro vs8 hvs8
  have F8 := F7.psh (LO vs8 0)
  repeat (first | (first | ((with_reducible show wpAny _ _ (execs (Stmt.Assign [Expr.Name _ _] _ _ :: _) _) _ _ _); refine rAs ?_) | with_reducible refine rRet ?_ | with_reducible refine rIf ?_ | with_reducible refine wpAny_BinOp ?_ | with_reducible refine rI ?_ | with_reducible refine rS ?_ | ((with_reducible show wpAny _ _ (eval (Expr.Name _ _) _) _ _ _); refine nL (by assumption) rfl ?_) | ((with_reducible show wpAny _ _ (storeName _ _ _) _ _ _); refine rSt (by assumption) ?_; intro _ _) | ((with_reducible show wpAny _ _ (isTrue (Expr.Compare _ [_] [_] _) _ _) _ _ _); refine wpAny_isTrue_Compare1 ?_) | with_reducible refine wpAny_truthy_bool ?_ | with_reducible refine rEq ?_ | ((with_reducible show wpAny _ _ (eval (Expr.Call _ _ [] _) _) _ _ _); refine Call_ ?_) | ((with_reducible show wpAny _ _ (spliced (backTo _ (starEach (_ :: _) _))) _ _ _); refine spliced_more ?_) | ((with_reducible show wpAny _ _ (spliced (backTo _ (starEach [] _))) _ _ _); refine spliced_none ?_) | with_reducible refine wpAny_IfExp ?_) | (dsimp only; first | ((with_reducible show wpAny _ _ (execs (Stmt.Assign [Expr.Name _ _] _ _ :: _) _) _ _ _); refine rAs ?_) | with_reducible refine rRet ?_ | with_reducible refine rIf ?_ | with_reducible refine wpAny_BinOp ?_ | with_reducible refine rI ?_ | with_reducible refine rS ?_ | ((with_reducible show wpAny _ _ (eval (Expr.Name _ _) _) _ _ _); refine nL (by assumption) rfl ?_) | ((with_reducible show wpAny _ _ (storeName _ _ _) _ _ _); refine rSt (by assumption) ?_; intro _ _) | ((with_reducible show wpAny _ _ (isTrue (Expr.Compare _ [_] [_] _) _ _) _ _ _); refine wpAny_isTrue_Compare1 ?_) | with_reducible refine wpAny_truthy_bool ?_ | with_reducible refine rEq ?_ | ((with_reducible show wpAny _ _ (eval (Expr.Call _ _ [] _) _) _ _ _); refine Call_ ?_) | ((with_reducible show wpAny _ _ (spliced (backTo _ (starEach (_ :: _) _))) _ _ _); refine spliced_more ?_) | ((with_reducible show wpAny _ _ (spliced (backTo _ (starEach [] _))) _ _ _); refine spliced_none ?_) | with_reducible refine wpAny_IfExp ?_))
  refine rSub1 ?_
  refine nL F8 rfl ?_
  refine rI ?_
  refine rIxI (LO.is (F8.at 1 rfl)) i5 0 a rfl rfl (by decide) ?_
  intro t9
  repeat (first | (first | ((with_reducible show wpAny _ _ (execs (Stmt.Assign [Expr.Name _ _] _ _ :: _) _) _ _ _); refine rAs ?_) | with_reducible refine rRet ?_ | with_reducible refine rIf ?_ | with_reducible refine wpAny_BinOp ?_ | with_reducible refine rI ?_ | with_reducible refine rS ?_ | ((with_reducible show wpAny _ _ (eval (Expr.Name _ _) _) _ _ _); refine nL (by assumption) rfl ?_) | ((with_reducible show wpAny _ _ (storeName _ _ _) _ _ _); refine rSt (by assumption) ?_; intro _ _) | ((with_reducible show wpAny _ _ (isTrue (Expr.Compare _ [_] [_] _) _ _) _ _ _); refine wpAny_isTrue_Compare1 ?_) | with_reducible refine wpAny_truthy_bool ?_ | with_reducible refine rEq ?_ | ((with_reducible show wpAny _ _ (eval (Expr.Call _ _ [] _) _) _ _ _); refine Call_ ?_) | ((with_reducible show wpAny _ _ (spliced (backTo _ (starEach (_ :: _) _))) _ _ _); refine spliced_more ?_) | ((with_reducible show wpAny _ _ (spliced (backTo _ (starEach [] _))) _ _ _); refine spliced_none ?_) | with_reducible refine wpAny_IfExp ?_) | (dsimp only; first | ((with_reducible show wpAny _ _ (execs (Stmt.Assign [Expr.Name _ _] _ _ :: _) _) _ _ _); refine rAs ?_) | with_reducible refine rRet ?_ | with_reducible refine rIf ?_ | with_reducible refine wpAny_BinOp ?_ | with_reducible refine rI ?_ | with_reducible refine rS ?_ | ((with_reducible show wpAny _ _ (eval (Expr.Name _ _) _) _ _ _); refine nL (by assumption) rfl ?_) | ((with_reducible show wpAny _ _ (storeName _ _ _) _ _ _); refine rSt (by assumption) ?_; intro _ _) | ((with_reducible show wpAny _ _ (isTrue (Expr.Compare _ [_] [_] _) _ _) _ _ _); refine wpAny_isTrue_Compare1 ?_) | with_reducible refine wpAny_truthy_bool ?_ | with_reducible refine rEq ?_ | ((with_reducible show wpAny _ _ (eval (Expr.Call _ _ [] _) _) _ _ _); refine Call_ ?_) | ((with_reducible show wpAny _ _ (spliced (backTo _ (starEach (_ :: _) _))) _ _ _); refine spliced_more ?_) | ((with_reducible show wpAny _ _ (spliced (backTo _ (starEach [] _))) _ _ _); refine spliced_none ?_) | with_reducible refine wpAny_IfExp ?_))
  refine rMod (a.fmod 3) (by decide) rfl ?_
  obtain ⟨n0, p, hn0, hpx, hp3⟩ : ∃ (n0 p : Nat), a.fmod 3 = n0 ∧ ([3, 5, 7] : List Int)[n0]? = some (p : Int) ∧ (p = 3 ∨ p = 5 ∨ p = 7) := by
    have h1 := Int.fmod_nonneg_of_pos a (by decide : (0 : Int) < 3)
    have h2 := Int.fmod_lt_of_pos a (by decide : (0 : Int) < 3)
    rcases (by (clear hlen hlt hLL hvl hlN; omega) : a.fmod 3 = 0 ∨ a.fmod 3 = 1 ∨ a.fmod 3 = 2) with e | e | e
    · exact ⟨0, 3, e, rfl, .inl rfl⟩
    · exact ⟨1, 5, e, rfl, .inr (.inl rfl)⟩
    · exact ⟨2, 7, e, rfl, .inr (.inr rfl)⟩
  have hn3 : n0 < 3 := by have := (List.getElem?_eq_some_iff.mp hpx).1; simpa using this
  have hp7 : 3 ≤ p ∧ p ≤ 7 := by (clear hlen hlt hLL hvl hlN hn0 hn3; omega)
  refine rIxI (LO.is (F8.at 0 rfl)) hvs8 n0 (p : Int) hn0 hpx (by (clear hlen hlt hLL hvl hlN hn0 hp3 hp7; omega)) ?_
  intro t10
  refine rSC F8 2 (c := L + 1) rfl rfl d1 ?_
  intro h9 o9 d9 S9 F9
  replace F9 := F9.drop (nw' := [(lN, LO vn 0), (L + 1, o9), (L + 2, o2)]) (.cons _ (List.Sublist.refl _))
  repeat (first | (first | ((with_reducible show wpAny _ _ (execs (Stmt.Assign [Expr.Name _ _] _ _ :: _) _) _ _ _); refine rAs ?_) | with_reducible refine rRet ?_ | with_reducible refine rIf ?_ | with_reducible refine wpAny_BinOp ?_ | with_reducible refine rI ?_ | with_reducible refine rS ?_ | ((with_reducible show wpAny _ _ (eval (Expr.Name _ _) _) _ _ _); refine nL (by assumption) rfl ?_) | ((with_reducible show wpAny _ _ (storeName _ _ _) _ _ _); refine rSt (by assumption) ?_; intro _ _) | ((with_reducible show wpAny _ _ (isTrue (Expr.Compare _ [_] [_] _) _ _) _ _ _); refine wpAny_isTrue_Compare1 ?_) | with_reducible refine wpAny_truthy_bool ?_ | with_reducible refine rEq ?_ | ((with_reducible show wpAny _ _ (eval (Expr.Call _ _ [] _) _) _ _ _); refine Call_ ?_) | ((with_reducible show wpAny _ _ (spliced (backTo _ (starEach (_ :: _) _))) _ _ _); refine spliced_more ?_) | ((with_reducible show wpAny _ _ (spliced (backTo _ (starEach [] _))) _ _ _); refine spliced_none ?_) | with_reducible refine wpAny_IfExp ?_) | (dsimp only; first | ((with_reducible show wpAny _ _ (execs (Stmt.Assign [Expr.Name _ _] _ _ :: _) _) _ _ _); refine rAs ?_) | with_reducible refine rRet ?_ | with_reducible refine rIf ?_ | with_reducible refine wpAny_BinOp ?_ | with_reducible refine rI ?_ | with_reducible refine rS ?_ | ((with_reducible show wpAny _ _ (eval (Expr.Name _ _) _) _ _ _); refine nL (by assumption) rfl ?_) | ((with_reducible show wpAny _ _ (storeName _ _ _) _ _ _); refine rSt (by assumption) ?_; intro _ _) | ((with_reducible show wpAny _ _ (isTrue (Expr.Compare _ [_] [_] _) _ _) _ _ _); refine wpAny_isTrue_Compare1 ?_) | with_reducible refine wpAny_truthy_bool ?_ | with_reducible refine rEq ?_ | ((with_reducible show wpAny _ _ (eval (Expr.Call _ _ [] _) _) _ _ _); refine Call_ ?_) | ((with_reducible show wpAny _ _ (spliced (backTo _ (starEach (_ :: _) _))) _ _ _); refine spliced_more ?_) | ((with_reducible show wpAny _ _ (spliced (backTo _ (starEach [] _))) _ _ _); refine spliced_none ?_) | with_reducible refine wpAny_IfExp ?_))
  refine rSub1 ?_
  refine nL F9 rfl ?_
  refine rI ?_
  refine rIxI (LO.is (F9.at 0 rfl)) i5 1 b rfl rfl (by decide) ?_
  intro t11
  repeat (first | (first | ((with_reducible show wpAny _ _ (execs (Stmt.Assign [Expr.Name _ _] _ _ :: _) _) _ _ _); refine rAs ?_) | with_reducible refine rRet ?_ | with_reducible refine rIf ?_ | with_reducible refine wpAny_BinOp ?_ | with_reducible refine rI ?_ | with_reducible refine rS ?_ | ((with_reducible show wpAny _ _ (eval (Expr.Name _ _) _) _ _ _); refine nL (by assumption) rfl ?_) | ((with_reducible show wpAny _ _ (storeName _ _ _) _ _ _); refine rSt (by assumption) ?_; intro _ _) | ((with_reducible show wpAny _ _ (isTrue (Expr.Compare _ [_] [_] _) _ _) _ _ _); refine wpAny_isTrue_Compare1 ?_) | with_reducible refine wpAny_truthy_bool ?_ | with_reducible refine rEq ?_ | ((with_reducible show wpAny _ _ (eval (Expr.Call _ _ [] _) _) _ _ _); refine Call_ ?_) | ((with_reducible show wpAny _ _ (spliced (backTo _ (starEach (_ :: _) _))) _ _ _); refine spliced_more ?_) | ((with_reducible show wpAny _ _ (spliced (backTo _ (starEach [] _))) _ _ _); refine spliced_none ?_) | with_reducible refine wpAny_IfExp ?_) | (dsimp only; first | ((with_reducible show wpAny _ _ (execs (Stmt.Assign [Expr.Name _ _] _ _ :: _) _) _ _ _); refine rAs ?_) | with_reducible refine rRet ?_ | with_reducible refine rIf ?_ | with_reducible refine wpAny_BinOp ?_ | with_reducible refine rI ?_ | with_reducible refine rS ?_ | ((with_reducible show wpAny _ _ (eval (Expr.Name _ _) _) _ _ _); refine nL (by assumption) rfl ?_) | ((with_reducible show wpAny _ _ (storeName _ _ _) _ _ _); refine rSt (by assumption) ?_; intro _ _) | ((with_reducible show wpAny _ _ (isTrue (Expr.Compare _ [_] [_] _) _ _) _ _ _); refine wpAny_isTrue_Compare1 ?_) | with_reducible refine wpAny_truthy_bool ?_ | with_reducible refine rEq ?_ | ((with_reducible show wpAny _ _ (eval (Expr.Call _ _ [] _) _) _ _ _); refine Call_ ?_) | ((with_reducible show wpAny _ _ (spliced (backTo _ (starEach (_ :: _) _))) _ _ _); refine spliced_more ?_) | ((with_reducible show wpAny _ _ (spliced (backTo _ (starEach [] _))) _ _ _); refine spliced_none ?_) | with_reducible refine wpAny_IfExp ?_))
  refine rMod (b.fmod 4) (by decide) rfl ?_
  obtain ⟨P, hP, hP1, hP4⟩ : ∃ P : Nat, (1 : Int) + b.fmod 4 = P ∧ 1 ≤ P ∧ P ≤ 4 := by
    have h1 := Int.fmod_nonneg_of_pos b (by decide : (0 : Int) < 4)
    have h2 := Int.fmod_lt_of_pos b (by decide : (0 : Int) < 4)
    exact ⟨(1 + b.fmod 4).toNat, by (clear hlen hlt hLL hvl hlN hn0 hp3 hn3 hp7; omega), by (clear hlen hlt hLL hvl hlN hn0 hp3 hn3 hp7; omega), by (clear hlen hlt hLL hvl hlN hn0 hp3 hn3 hp7; omega)⟩
  refine rAdd (P : Int) hP ?_
  repeat (first | (first | ((with_reducible show wpAny _ _ (execs (Stmt.Assign [Expr.Name _ _] _ _ :: _) _) _ _ _); refine rAs ?_) | with_reducible refine rRet ?_ | with_reducible refine rIf ?_ | with_reducible refine wpAny_BinOp ?_ | with_reducible refine rI ?_ | with_reducible refine rS ?_ | ((with_reducible show wpAny _ _ (eval (Expr.Name _ _) _) _ _ _); refine nL (by assumption) rfl ?_) | ((with_reducible show wpAny _ _ (storeName _ _ _) _ _ _); refine rSt (by assumption) ?_; intro _ _) | ((with_reducible show wpAny _ _ (isTrue (Expr.Compare _ [_] [_] _) _ _) _ _ _); refine wpAny_isTrue_Compare1 ?_) | with_reducible refine wpAny_truthy_bool ?_ | with_reducible refine rEq ?_ | ((with_reducible show wpAny _ _ (eval (Expr.Call _ _ [] _) _) _ _ _); refine Call_ ?_) | ((with_reducible show wpAny _ _ (spliced (backTo _ (starEach (_ :: _) _))) _ _ _); refine spliced_more ?_) | ((with_reducible show wpAny _ _ (spliced (backTo _ (starEach [] _))) _ _ _); refine spliced_none ?_) | with_reducible refine wpAny_IfExp ?_) | (dsimp only; first | ((with_reducible show wpAny _ _ (execs (Stmt.Assign [Expr.Name _ _] _ _ :: _) _) _ _ _); refine rAs ?_) | with_reducible refine rRet ?_ | with_reducible refine rIf ?_ | with_reducible refine wpAny_BinOp ?_ | with_reducible refine rI ?_ | with_reducible refine rS ?_ | ((with_reducible show wpAny _ _ (eval (Expr.Name _ _) _) _ _ _); refine nL (by assumption) rfl ?_) | ((with_reducible show wpAny _ _ (storeName _ _ _) _ _ _); refine rSt (by assumption) ?_; intro _ _) | ((with_reducible show wpAny _ _ (isTrue (Expr.Compare _ [_] [_] _) _ _) _ _ _); refine wpAny_isTrue_Compare1 ?_) | with_reducible refine wpAny_truthy_bool ?_ | with_reducible refine rEq ?_ | ((with_reducible show wpAny _ _ (eval (Expr.Call _ _ [] _) _) _ _ _); refine Call_ ?_) | ((with_reducible show wpAny _ _ (spliced (backTo _ (starEach (_ :: _) _))) _ _ _); refine spliced_more ?_) | ((with_reducible show wpAny _ _ (spliced (backTo _ (starEach [] _))) _ _ _); refine spliced_none ?_) | with_reducible refine wpAny_IfExp ?_))
  rename_i h12 F12
  refine rSub1 ?_
  refine nL F12 rfl ?_
  refine rI ?_
  refine rIxI (LO.is (F12.at 0 rfl)) i5 2 c rfl rfl (by decide) ?_
  intro t12
  repeat (first | (first | ((with_reducible show wpAny _ _ (execs (Stmt.Assign [Expr.Name _ _] _ _ :: _) _) _ _ _); refine rAs ?_) | with_reducible refine rRet ?_ | with_reducible refine rIf ?_ | with_reducible refine wpAny_BinOp ?_ | with_reducible refine rI ?_ | with_reducible refine rS ?_ | ((with_reducible show wpAny _ _ (eval (Expr.Name _ _) _) _ _ _); refine nL (by assumption) rfl ?_) | ((with_reducible show wpAny _ _ (storeName _ _ _) _ _ _); refine rSt (by assumption) ?_; intro _ _) | ((with_reducible show wpAny _ _ (isTrue (Expr.Compare _ [_] [_] _) _ _) _ _ _); refine wpAny_isTrue_Compare1 ?_) | with_reducible refine wpAny_truthy_bool ?_ | with_reducible refine rEq ?_ | ((with_reducible show wpAny _ _ (eval (Expr.Call _ _ [] _) _) _ _ _); refine Call_ ?_) | ((with_reducible show wpAny _ _ (spliced (backTo _ (starEach (_ :: _) _))) _ _ _); refine spliced_more ?_) | ((with_reducible show wpAny _ _ (spliced (backTo _ (starEach [] _))) _ _ _); refine spliced_none ?_) | with_reducible refine wpAny_IfExp ?_) | (dsimp only; first | ((with_reducible show wpAny _ _ (execs (Stmt.Assign [Expr.Name _ _] _ _ :: _) _) _ _ _); refine rAs ?_) | with_reducible refine rRet ?_ | with_reducible refine rIf ?_ | with_reducible refine wpAny_BinOp ?_ | with_reducible refine rI ?_ | with_reducible refine rS ?_ | ((with_reducible show wpAny _ _ (eval (Expr.Name _ _) _) _ _ _); refine nL (by assumption) rfl ?_) | ((with_reducible show wpAny _ _ (storeName _ _ _) _ _ _); refine rSt (by assumption) ?_; intro _ _) | ((with_reducible show wpAny _ _ (isTrue (Expr.Compare _ [_] [_] _) _ _) _ _ _); refine wpAny_isTrue_Compare1 ?_) | with_reducible refine wpAny_truthy_bool ?_ | with_reducible refine rEq ?_ | ((with_reducible show wpAny _ _ (eval (Expr.Call _ _ [] _) _) _ _ _); refine Call_ ?_) | ((with_reducible show wpAny _ _ (spliced (backTo _ (starEach (_ :: _) _))) _ _ _); refine spliced_more ?_) | ((with_reducible show wpAny _ _ (spliced (backTo _ (starEach [] _))) _ _ _); refine spliced_none ?_) | with_reducible refine wpAny_IfExp ?_))
  refine nC (c := L + 1) rfl ⟨o9, F12.at 1 rfl, d9⟩ ?_
  repeat (first | (first | ((with_reducible show wpAny _ _ (execs (Stmt.Assign [Expr.Name _ _] _ _ :: _) _) _ _ _); refine rAs ?_) | with_reducible refine rRet ?_ | with_reducible refine rIf ?_ | with_reducible refine wpAny_BinOp ?_ | with_reducible refine rI ?_ | with_reducible refine rS ?_ | ((with_reducible show wpAny _ _ (eval (Expr.Name _ _) _) _ _ _); refine nL (by assumption) rfl ?_) | ((with_reducible show wpAny _ _ (storeName _ _ _) _ _ _); refine rSt (by assumption) ?_; intro _ _) | ((with_reducible show wpAny _ _ (isTrue (Expr.Compare _ [_] [_] _) _ _) _ _ _); refine wpAny_isTrue_Compare1 ?_) | with_reducible refine wpAny_truthy_bool ?_ | with_reducible refine rEq ?_ | ((with_reducible show wpAny _ _ (eval (Expr.Call _ _ [] _) _) _ _ _); refine Call_ ?_) | ((with_reducible show wpAny _ _ (spliced (backTo _ (starEach (_ :: _) _))) _ _ _); refine spliced_more ?_) | ((with_reducible show wpAny _ _ (spliced (backTo _ (starEach [] _))) _ _ _); refine spliced_none ?_) | with_reducible refine wpAny_IfExp ?_) | (dsimp only; first | ((with_reducible show wpAny _ _ (execs (Stmt.Assign [Expr.Name _ _] _ _ :: _) _) _ _ _); refine rAs ?_) | with_reducible refine rRet ?_ | with_reducible refine rIf ?_ | with_reducible refine wpAny_BinOp ?_ | with_reducible refine rI ?_ | with_reducible refine rS ?_ | ((with_reducible show wpAny _ _ (eval (Expr.Name _ _) _) _ _ _); refine nL (by assumption) rfl ?_) | ((with_reducible show wpAny _ _ (storeName _ _ _) _ _ _); refine rSt (by assumption) ?_; intro _ _) | ((with_reducible show wpAny _ _ (isTrue (Expr.Compare _ [_] [_] _) _ _) _ _ _); refine wpAny_isTrue_Compare1 ?_) | with_reducible refine wpAny_truthy_bool ?_ | with_reducible refine rEq ?_ | ((with_reducible show wpAny _ _ (eval (Expr.Call _ _ [] _) _) _ _ _); refine Call_ ?_) | ((with_reducible show wpAny _ _ (spliced (backTo _ (starEach (_ :: _) _))) _ _ _); refine spliced_more ?_) | ((with_reducible show wpAny _ _ (spliced (backTo _ (starEach [] _))) _ _ _); refine spliced_none ?_) | with_reducible refine wpAny_IfExp ?_))
  refine rSub ((p : Int) - 1) rfl ?_
  refine rMod (c.fmod ((p : Int) - 1)) (by (clear hlen hlt hLL hvl hlN hn0 hp3 hn3 hP hP1 hP4; omega)) rfl ?_
  obtain ⟨R', hR, hR1, hRp⟩ : ∃ R' : Nat, (1 : Int) + c.fmod ((p : Int) - 1) = R' ∧ 1 ≤ R' ∧ R' < p := by
    have h1 := Int.fmod_nonneg_of_pos c (by (clear hlen hlt hLL hvl hlN hn0 hp3 hn3 hP hP1 hP4; omega) : (0 : Int) < (p : Int) - 1)
    have h2 := Int.fmod_lt_of_pos c (by (clear hlen hlt hLL hvl hlN hn0 hp3 hn3 hP hP1 hP4 h1; omega) : (0 : Int) < (p : Int) - 1)
    exact ⟨(1 + c.fmod ((p : Int) - 1)).toNat, by (clear hlen hlt hLL hvl hlN hn0 hp3 hn3 hp7 hP hP1 hP4 h2; omega), by (clear hlen hlt hLL hvl hlN hn0 hp3 hn3 hp7 hP hP1 hP4 h2; omega), by (clear hlen hlt hLL hvl hlN hn0 hp3 hn3 hp7 hP hP1 hP4; omega)⟩
  refine rAdd (R' : Int) hR ?_
  repeat (first | (first | ((with_reducible show wpAny _ _ (execs (Stmt.Assign [Expr.Name _ _] _ _ :: _) _) _ _ _); refine rAs ?_) | with_reducible refine rRet ?_ | with_reducible refine rIf ?_ | with_reducible refine wpAny_BinOp ?_ | with_reducible refine rI ?_ | with_reducible refine rS ?_ | ((with_reducible show wpAny _ _ (eval (Expr.Name _ _) _) _ _ _); refine nL (by assumption) rfl ?_) | ((with_reducible show wpAny _ _ (storeName _ _ _) _ _ _); refine rSt (by assumption) ?_; intro _ _) | ((with_reducible show wpAny _ _ (isTrue (Expr.Compare _ [_] [_] _) _ _) _ _ _); refine wpAny_isTrue_Compare1 ?_) | with_reducible refine wpAny_truthy_bool ?_ | with_reducible refine rEq ?_ | ((with_reducible show wpAny _ _ (eval (Expr.Call _ _ [] _) _) _ _ _); refine Call_ ?_) | ((with_reducible show wpAny _ _ (spliced (backTo _ (starEach (_ :: _) _))) _ _ _); refine spliced_more ?_) | ((with_reducible show wpAny _ _ (spliced (backTo _ (starEach [] _))) _ _ _); refine spliced_none ?_) | with_reducible refine wpAny_IfExp ?_) | (dsimp only; first | ((with_reducible show wpAny _ _ (execs (Stmt.Assign [Expr.Name _ _] _ _ :: _) _) _ _ _); refine rAs ?_) | with_reducible refine rRet ?_ | with_reducible refine rIf ?_ | with_reducible refine wpAny_BinOp ?_ | with_reducible refine rI ?_ | with_reducible refine rS ?_ | ((with_reducible show wpAny _ _ (eval (Expr.Name _ _) _) _ _ _); refine nL (by assumption) rfl ?_) | ((with_reducible show wpAny _ _ (storeName _ _ _) _ _ _); refine rSt (by assumption) ?_; intro _ _) | ((with_reducible show wpAny _ _ (isTrue (Expr.Compare _ [_] [_] _) _ _) _ _ _); refine wpAny_isTrue_Compare1 ?_) | with_reducible refine wpAny_truthy_bool ?_ | with_reducible refine rEq ?_ | ((with_reducible show wpAny _ _ (eval (Expr.Call _ _ [] _) _) _ _ _); refine Call_ ?_) | ((with_reducible show wpAny _ _ (spliced (backTo _ (starEach (_ :: _) _))) _ _ _); refine spliced_more ?_) | ((with_reducible show wpAny _ _ (spliced (backTo _ (starEach [] _))) _ _ _); refine spliced_none ?_) | with_reducible refine wpAny_IfExp ?_))
  rename_i h13 F13
  refine nC (c := L + 1) rfl ⟨o9, F13.at 1 rfl, d9⟩ ?_
  refine rMul ((2 * p : Nat) : Int) (by push_cast; rfl) (.inl (Nat.le_trans (bits_nat (a := 2) (k := 2) (by decide)) (by decide))) ?_
  repeat (first | (first | ((with_reducible show wpAny _ _ (execs (Stmt.Assign [Expr.Name _ _] _ _ :: _) _) _ _ _); refine rAs ?_) | with_reducible refine rRet ?_ | with_reducible refine rIf ?_ | with_reducible refine wpAny_BinOp ?_ | with_reducible refine rI ?_ | with_reducible refine rS ?_ | ((with_reducible show wpAny _ _ (eval (Expr.Name _ _) _) _ _ _); refine nL (by assumption) rfl ?_) | ((with_reducible show wpAny _ _ (storeName _ _ _) _ _ _); refine rSt (by assumption) ?_; intro _ _) | ((with_reducible show wpAny _ _ (isTrue (Expr.Compare _ [_] [_] _) _ _) _ _ _); refine wpAny_isTrue_Compare1 ?_) | with_reducible refine wpAny_truthy_bool ?_ | with_reducible refine rEq ?_ | ((with_reducible show wpAny _ _ (eval (Expr.Call _ _ [] _) _) _ _ _); refine Call_ ?_) | ((with_reducible show wpAny _ _ (spliced (backTo _ (starEach (_ :: _) _))) _ _ _); refine spliced_more ?_) | ((with_reducible show wpAny _ _ (spliced (backTo _ (starEach [] _))) _ _ _); refine spliced_none ?_) | with_reducible refine wpAny_IfExp ?_) | (dsimp only; first | ((with_reducible show wpAny _ _ (execs (Stmt.Assign [Expr.Name _ _] _ _ :: _) _) _ _ _); refine rAs ?_) | with_reducible refine rRet ?_ | with_reducible refine rIf ?_ | with_reducible refine wpAny_BinOp ?_ | with_reducible refine rI ?_ | with_reducible refine rS ?_ | ((with_reducible show wpAny _ _ (eval (Expr.Name _ _) _) _ _ _); refine nL (by assumption) rfl ?_) | ((with_reducible show wpAny _ _ (storeName _ _ _) _ _ _); refine rSt (by assumption) ?_; intro _ _) | ((with_reducible show wpAny _ _ (isTrue (Expr.Compare _ [_] [_] _) _ _) _ _ _); refine wpAny_isTrue_Compare1 ?_) | with_reducible refine wpAny_truthy_bool ?_ | with_reducible refine rEq ?_ | ((with_reducible show wpAny _ _ (eval (Expr.Call _ _ [] _) _) _ _ _); refine Call_ ?_) | ((with_reducible show wpAny _ _ (spliced (backTo _ (starEach (_ :: _) _))) _ _ _); refine spliced_more ?_) | ((with_reducible show wpAny _ _ (spliced (backTo _ (starEach [] _))) _ _ _); refine spliced_none ?_) | with_reducible refine wpAny_IfExp ?_))
  refine rAdd ((2 * p + 2 : Nat) : Int) (by push_cast; rfl) ?_
  repeat (first | (first | ((with_reducible show wpAny _ _ (execs (Stmt.Assign [Expr.Name _ _] _ _ :: _) _) _ _ _); refine rAs ?_) | with_reducible refine rRet ?_ | with_reducible refine rIf ?_ | with_reducible refine wpAny_BinOp ?_ | with_reducible refine rI ?_ | with_reducible refine rS ?_ | ((with_reducible show wpAny _ _ (eval (Expr.Name _ _) _) _ _ _); refine nL (by assumption) rfl ?_) | ((with_reducible show wpAny _ _ (storeName _ _ _) _ _ _); refine rSt (by assumption) ?_; intro _ _) | ((with_reducible show wpAny _ _ (isTrue (Expr.Compare _ [_] [_] _) _ _) _ _ _); refine wpAny_isTrue_Compare1 ?_) | with_reducible refine wpAny_truthy_bool ?_ | with_reducible refine rEq ?_ | ((with_reducible show wpAny _ _ (eval (Expr.Call _ _ [] _) _) _ _ _); refine Call_ ?_) | ((with_reducible show wpAny _ _ (spliced (backTo _ (starEach (_ :: _) _))) _ _ _); refine spliced_more ?_) | ((with_reducible show wpAny _ _ (spliced (backTo _ (starEach [] _))) _ _ _); refine spliced_none ?_) | with_reducible refine wpAny_IfExp ?_) | (dsimp only; first | ((with_reducible show wpAny _ _ (execs (Stmt.Assign [Expr.Name _ _] _ _ :: _) _) _ _ _); refine rAs ?_) | with_reducible refine rRet ?_ | with_reducible refine rIf ?_ | with_reducible refine wpAny_BinOp ?_ | with_reducible refine rI ?_ | with_reducible refine rS ?_ | ((with_reducible show wpAny _ _ (eval (Expr.Name _ _) _) _ _ _); refine nL (by assumption) rfl ?_) | ((with_reducible show wpAny _ _ (storeName _ _ _) _ _ _); refine rSt (by assumption) ?_; intro _ _) | ((with_reducible show wpAny _ _ (isTrue (Expr.Compare _ [_] [_] _) _ _) _ _ _); refine wpAny_isTrue_Compare1 ?_) | with_reducible refine wpAny_truthy_bool ?_ | with_reducible refine rEq ?_ | ((with_reducible show wpAny _ _ (eval (Expr.Call _ _ [] _) _) _ _ _); refine Call_ ?_) | ((with_reducible show wpAny _ _ (spliced (backTo _ (starEach (_ :: _) _))) _ _ _); refine spliced_more ?_) | ((with_reducible show wpAny _ _ (spliced (backTo _ (starEach [] _))) _ _ _); refine spliced_none ?_) | with_reducible refine wpAny_IfExp ?_))
  rename_i h14 F14
  obtain ⟨X, hX⟩ : ∃ X : Nat, X = 2 ^ 64 := ⟨_, rfl⟩
  have hbX := bits64 hX
  refine rPow 64 (X : Int) rfl (by decide) (by decide) bits2 (by rw [hX]; exact p64) ?_
  repeat (first | (first | ((with_reducible show wpAny _ _ (execs (Stmt.Assign [Expr.Name _ _] _ _ :: _) _) _ _ _); refine rAs ?_) | with_reducible refine rRet ?_ | with_reducible refine rIf ?_ | with_reducible refine wpAny_BinOp ?_ | with_reducible refine rI ?_ | with_reducible refine rS ?_ | ((with_reducible show wpAny _ _ (eval (Expr.Name _ _) _) _ _ _); refine nL (by assumption) rfl ?_) | ((with_reducible show wpAny _ _ (storeName _ _ _) _ _ _); refine rSt (by assumption) ?_; intro _ _) | ((with_reducible show wpAny _ _ (isTrue (Expr.Compare _ [_] [_] _) _ _) _ _ _); refine wpAny_isTrue_Compare1 ?_) | with_reducible refine wpAny_truthy_bool ?_ | with_reducible refine rEq ?_ | ((with_reducible show wpAny _ _ (eval (Expr.Call _ _ [] _) _) _ _ _); refine Call_ ?_) | ((with_reducible show wpAny _ _ (spliced (backTo _ (starEach (_ :: _) _))) _ _ _); refine spliced_more ?_) | ((with_reducible show wpAny _ _ (spliced (backTo _ (starEach [] _))) _ _ _); refine spliced_none ?_) | with_reducible refine wpAny_IfExp ?_) | (dsimp only; first | ((with_reducible show wpAny _ _ (execs (Stmt.Assign [Expr.Name _ _] _ _ :: _) _) _ _ _); refine rAs ?_) | with_reducible refine rRet ?_ | with_reducible refine rIf ?_ | with_reducible refine wpAny_BinOp ?_ | with_reducible refine rI ?_ | with_reducible refine rS ?_ | ((with_reducible show wpAny _ _ (eval (Expr.Name _ _) _) _ _ _); refine nL (by assumption) rfl ?_) | ((with_reducible show wpAny _ _ (storeName _ _ _) _ _ _); refine rSt (by assumption) ?_; intro _ _) | ((with_reducible show wpAny _ _ (isTrue (Expr.Compare _ [_] [_] _) _ _) _ _ _); refine wpAny_isTrue_Compare1 ?_) | with_reducible refine wpAny_truthy_bool ?_ | with_reducible refine rEq ?_ | ((with_reducible show wpAny _ _ (eval (Expr.Call _ _ [] _) _) _ _ _); refine Call_ ?_) | ((with_reducible show wpAny _ _ (spliced (backTo _ (starEach (_ :: _) _))) _ _ _); refine spliced_more ?_) | ((with_reducible show wpAny _ _ (spliced (backTo _ (starEach [] _))) _ _ _); refine spliced_none ?_) | with_reducible refine wpAny_IfExp ?_))
  rename_i h15 F15
  refine rSub1 ?_
  refine Call_ ?_
  refine nG G F15 rfl ?_
  refine rCW (F15.ok.at0 G rfl) rfl ?_
  repeat (first | (first | ((with_reducible show wpAny _ _ (execs (Stmt.Assign [Expr.Name _ _] _ _ :: _) _) _ _ _); refine rAs ?_) | with_reducible refine rRet ?_ | with_reducible refine rIf ?_ | with_reducible refine wpAny_BinOp ?_ | with_reducible refine rI ?_ | with_reducible refine rS ?_ | ((with_reducible show wpAny _ _ (eval (Expr.Name _ _) _) _ _ _); refine nL (by assumption) rfl ?_) | ((with_reducible show wpAny _ _ (storeName _ _ _) _ _ _); refine rSt (by assumption) ?_; intro _ _) | ((with_reducible show wpAny _ _ (isTrue (Expr.Compare _ [_] [_] _) _ _) _ _ _); refine wpAny_isTrue_Compare1 ?_) | with_reducible refine wpAny_truthy_bool ?_ | with_reducible refine rEq ?_ | ((with_reducible show wpAny _ _ (eval (Expr.Call _ _ [] _) _) _ _ _); refine Call_ ?_) | ((with_reducible show wpAny _ _ (spliced (backTo _ (starEach (_ :: _) _))) _ _ _); refine spliced_more ?_) | ((with_reducible show wpAny _ _ (spliced (backTo _ (starEach [] _))) _ _ _); refine spliced_none ?_) | with_reducible refine wpAny_IfExp ?_) | (dsimp only; first | ((with_reducible show wpAny _ _ (execs (Stmt.Assign [Expr.Name _ _] _ _ :: _) _) _ _ _); refine rAs ?_) | with_reducible refine rRet ?_ | with_reducible refine rIf ?_ | with_reducible refine wpAny_BinOp ?_ | with_reducible refine rI ?_ | with_reducible refine rS ?_ | ((with_reducible show wpAny _ _ (eval (Expr.Name _ _) _) _ _ _); refine nL (by assumption) rfl ?_) | ((with_reducible show wpAny _ _ (storeName _ _ _) _ _ _); refine rSt (by assumption) ?_; intro _ _) | ((with_reducible show wpAny _ _ (isTrue (Expr.Compare _ [_] [_] _) _ _) _ _ _); refine wpAny_isTrue_Compare1 ?_) | with_reducible refine wpAny_truthy_bool ?_ | with_reducible refine rEq ?_ | ((with_reducible show wpAny _ _ (eval (Expr.Call _ _ [] _) _) _ _ _); refine Call_ ?_) | ((with_reducible show wpAny _ _ (spliced (backTo _ (starEach (_ :: _) _))) _ _ _); refine spliced_more ?_) | ((with_reducible show wpAny _ _ (spliced (backTo _ (starEach [] _))) _ _ _); refine spliced_none ?_) | with_reducible refine wpAny_IfExp ?_))
  refine rAdd ((2 * p + 3 : Nat) : Int) (by push_cast; (clear hlen hlt hLL hvl hlN hn0 hp3 hn3 hp7 hP hP1 hP4 hR hR1 hRp hX hbX; omega)) ?_
  refine rPow (2 * p + 3) ((X ^ (2 * p + 3) : Nat) : Int) rfl (le2_64 hX) (by (clear hlen hlt hLL hvl hlN hn0 hp3 hn3 hP hP1 hP4 hR hR1 hRp hX hbX; omega)) (Nat.le_trans (Nat.mul_le_mul hbX (by (clear hlen hlt hLL hvl hlN hn0 hp3 hn3 hP hP1 hP4 hR hR1 hRp hX hbX; omega) : 2 * p + 3 ≤ 17)) (by decide)) (Int.natCast_pow _ _).symm ?_
  repeat (first | (first | ((with_reducible show wpAny _ _ (execs (Stmt.Assign [Expr.Name _ _] _ _ :: _) _) _ _ _); refine rAs ?_) | with_reducible refine rRet ?_ | with_reducible refine rIf ?_ | with_reducible refine wpAny_BinOp ?_ | with_reducible refine rI ?_ | with_reducible refine rS ?_ | ((with_reducible show wpAny _ _ (eval (Expr.Name _ _) _) _ _ _); refine nL (by assumption) rfl ?_) | ((with_reducible show wpAny _ _ (storeName _ _ _) _ _ _); refine rSt (by assumption) ?_; intro _ _) | ((with_reducible show wpAny _ _ (isTrue (Expr.Compare _ [_] [_] _) _ _) _ _ _); refine wpAny_isTrue_Compare1 ?_) | with_reducible refine wpAny_truthy_bool ?_ | with_reducible refine rEq ?_ | ((with_reducible show wpAny _ _ (eval (Expr.Call _ _ [] _) _) _ _ _); refine Call_ ?_) | ((with_reducible show wpAny _ _ (spliced (backTo _ (starEach (_ :: _) _))) _ _ _); refine spliced_more ?_) | ((with_reducible show wpAny _ _ (spliced (backTo _ (starEach [] _))) _ _ _); refine spliced_none ?_) | with_reducible refine wpAny_IfExp ?_) | (dsimp only; first | ((with_reducible show wpAny _ _ (execs (Stmt.Assign [Expr.Name _ _] _ _ :: _) _) _ _ _); refine rAs ?_) | with_reducible refine rRet ?_ | with_reducible refine rIf ?_ | with_reducible refine wpAny_BinOp ?_ | with_reducible refine rI ?_ | with_reducible refine rS ?_ | ((with_reducible show wpAny _ _ (eval (Expr.Name _ _) _) _ _ _); refine nL (by assumption) rfl ?_) | ((with_reducible show wpAny _ _ (storeName _ _ _) _ _ _); refine rSt (by assumption) ?_; intro _ _) | ((with_reducible show wpAny _ _ (isTrue (Expr.Compare _ [_] [_] _) _ _) _ _ _); refine wpAny_isTrue_Compare1 ?_) | with_reducible refine wpAny_truthy_bool ?_ | with_reducible refine rEq ?_ | ((with_reducible show wpAny _ _ (eval (Expr.Call _ _ [] _) _) _ _ _); refine Call_ ?_) | ((with_reducible show wpAny _ _ (spliced (backTo _ (starEach (_ :: _) _))) _ _ _); refine spliced_more ?_) | ((with_reducible show wpAny _ _ (spliced (backTo _ (starEach [] _))) _ _ _); refine spliced_none ?_) | with_reducible refine wpAny_IfExp ?_))
  have hbX2 : Builtin.Int.intBits (X : Int) ≤ 2 ^ 20 := Nat.le_trans hbX (by decide)
  refine rMulB ((X : Int) * X) rfl hbX2 hbX2 ?_
  repeat (first | (first | ((with_reducible show wpAny _ _ (execs (Stmt.Assign [Expr.Name _ _] _ _ :: _) _) _ _ _); refine rAs ?_) | with_reducible refine rRet ?_ | with_reducible refine rIf ?_ | with_reducible refine wpAny_BinOp ?_ | with_reducible refine rI ?_ | with_reducible refine rS ?_ | ((with_reducible show wpAny _ _ (eval (Expr.Name _ _) _) _ _ _); refine nL (by assumption) rfl ?_) | ((with_reducible show wpAny _ _ (storeName _ _ _) _ _ _); refine rSt (by assumption) ?_; intro _ _) | ((with_reducible show wpAny _ _ (isTrue (Expr.Compare _ [_] [_] _) _ _) _ _ _); refine wpAny_isTrue_Compare1 ?_) | with_reducible refine wpAny_truthy_bool ?_ | with_reducible refine rEq ?_ | ((with_reducible show wpAny _ _ (eval (Expr.Call _ _ [] _) _) _ _ _); refine Call_ ?_) | ((with_reducible show wpAny _ _ (spliced (backTo _ (starEach (_ :: _) _))) _ _ _); refine spliced_more ?_) | ((with_reducible show wpAny _ _ (spliced (backTo _ (starEach [] _))) _ _ _); refine spliced_none ?_) | with_reducible refine wpAny_IfExp ?_) | (dsimp only; first | ((with_reducible show wpAny _ _ (execs (Stmt.Assign [Expr.Name _ _] _ _ :: _) _) _ _ _); refine rAs ?_) | with_reducible refine rRet ?_ | with_reducible refine rIf ?_ | with_reducible refine wpAny_BinOp ?_ | with_reducible refine rI ?_ | with_reducible refine rS ?_ | ((with_reducible show wpAny _ _ (eval (Expr.Name _ _) _) _ _ _); refine nL (by assumption) rfl ?_) | ((with_reducible show wpAny _ _ (storeName _ _ _) _ _ _); refine rSt (by assumption) ?_; intro _ _) | ((with_reducible show wpAny _ _ (isTrue (Expr.Compare _ [_] [_] _) _ _) _ _ _); refine wpAny_isTrue_Compare1 ?_) | with_reducible refine wpAny_truthy_bool ?_ | with_reducible refine rEq ?_ | ((with_reducible show wpAny _ _ (eval (Expr.Call _ _ [] _) _) _ _ _); refine Call_ ?_) | ((with_reducible show wpAny _ _ (spliced (backTo _ (starEach (_ :: _) _))) _ _ _); refine spliced_more ?_) | ((with_reducible show wpAny _ _ (spliced (backTo _ (starEach [] _))) _ _ _); refine spliced_none ?_) | with_reducible refine wpAny_IfExp ?_))
  have hbP : Builtin.Int.intBits (P : Int) ≤ 64 := Nat.le_trans (bits_nat (a := P) (k := 3) (by (clear hlen hlt hLL hvl hlN hn0 hp3 hn3 hp7 hP hR hR1 hRp hX hbX hbX2; omega))) (by decide)
  refine rMul ((P : Int) * X) rfl (.inl hbP) ?_
  refine rSub ((X : Int) * X - P * X) rfl ?_
  repeat (first | (first | ((with_reducible show wpAny _ _ (execs (Stmt.Assign [Expr.Name _ _] _ _ :: _) _) _ _ _); refine rAs ?_) | with_reducible refine rRet ?_ | with_reducible refine rIf ?_ | with_reducible refine wpAny_BinOp ?_ | with_reducible refine rI ?_ | with_reducible refine rS ?_ | ((with_reducible show wpAny _ _ (eval (Expr.Name _ _) _) _ _ _); refine nL (by assumption) rfl ?_) | ((with_reducible show wpAny _ _ (storeName _ _ _) _ _ _); refine rSt (by assumption) ?_; intro _ _) | ((with_reducible show wpAny _ _ (isTrue (Expr.Compare _ [_] [_] _) _ _) _ _ _); refine wpAny_isTrue_Compare1 ?_) | with_reducible refine wpAny_truthy_bool ?_ | with_reducible refine rEq ?_ | ((with_reducible show wpAny _ _ (eval (Expr.Call _ _ [] _) _) _ _ _); refine Call_ ?_) | ((with_reducible show wpAny _ _ (spliced (backTo _ (starEach (_ :: _) _))) _ _ _); refine spliced_more ?_) | ((with_reducible show wpAny _ _ (spliced (backTo _ (starEach [] _))) _ _ _); refine spliced_none ?_) | with_reducible refine wpAny_IfExp ?_) | (dsimp only; first | ((with_reducible show wpAny _ _ (execs (Stmt.Assign [Expr.Name _ _] _ _ :: _) _) _ _ _); refine rAs ?_) | with_reducible refine rRet ?_ | with_reducible refine rIf ?_ | with_reducible refine wpAny_BinOp ?_ | with_reducible refine rI ?_ | with_reducible refine rS ?_ | ((with_reducible show wpAny _ _ (eval (Expr.Name _ _) _) _ _ _); refine nL (by assumption) rfl ?_) | ((with_reducible show wpAny _ _ (storeName _ _ _) _ _ _); refine rSt (by assumption) ?_; intro _ _) | ((with_reducible show wpAny _ _ (isTrue (Expr.Compare _ [_] [_] _) _ _) _ _ _); refine wpAny_isTrue_Compare1 ?_) | with_reducible refine wpAny_truthy_bool ?_ | with_reducible refine rEq ?_ | ((with_reducible show wpAny _ _ (eval (Expr.Call _ _ [] _) _) _ _ _); refine Call_ ?_) | ((with_reducible show wpAny _ _ (spliced (backTo _ (starEach (_ :: _) _))) _ _ _); refine spliced_more ?_) | ((with_reducible show wpAny _ _ (spliced (backTo _ (starEach [] _))) _ _ _); refine spliced_none ?_) | with_reducible refine wpAny_IfExp ?_))
  obtain ⟨hD1, hD2, hD3⟩ := bD (P := P) (R := R') hX hP4 hR1 (by (clear hlen hlt hLL hvl hlN hn0 hp3 hn3 hP hP1 hP4 hR hR1 hX hbX hbX2 hbP; omega))
  refine rSub ((X * X - P * X - R' : Nat) : Int) hD1.symm ?_
  repeat (first | (first | ((with_reducible show wpAny _ _ (execs (Stmt.Assign [Expr.Name _ _] _ _ :: _) _) _ _ _); refine rAs ?_) | with_reducible refine rRet ?_ | with_reducible refine rIf ?_ | with_reducible refine wpAny_BinOp ?_ | with_reducible refine rI ?_ | with_reducible refine rS ?_ | ((with_reducible show wpAny _ _ (eval (Expr.Name _ _) _) _ _ _); refine nL (by assumption) rfl ?_) | ((with_reducible show wpAny _ _ (storeName _ _ _) _ _ _); refine rSt (by assumption) ?_; intro _ _) | ((with_reducible show wpAny _ _ (isTrue (Expr.Compare _ [_] [_] _) _ _) _ _ _); refine wpAny_isTrue_Compare1 ?_) | with_reducible refine wpAny_truthy_bool ?_ | with_reducible refine rEq ?_ | ((with_reducible show wpAny _ _ (eval (Expr.Call _ _ [] _) _) _ _ _); refine Call_ ?_) | ((with_reducible show wpAny _ _ (spliced (backTo _ (starEach (_ :: _) _))) _ _ _); refine spliced_more ?_) | ((with_reducible show wpAny _ _ (spliced (backTo _ (starEach [] _))) _ _ _); refine spliced_none ?_) | with_reducible refine wpAny_IfExp ?_) | (dsimp only; first | ((with_reducible show wpAny _ _ (execs (Stmt.Assign [Expr.Name _ _] _ _ :: _) _) _ _ _); refine rAs ?_) | with_reducible refine rRet ?_ | with_reducible refine rIf ?_ | with_reducible refine wpAny_BinOp ?_ | with_reducible refine rI ?_ | with_reducible refine rS ?_ | ((with_reducible show wpAny _ _ (eval (Expr.Name _ _) _) _ _ _); refine nL (by assumption) rfl ?_) | ((with_reducible show wpAny _ _ (storeName _ _ _) _ _ _); refine rSt (by assumption) ?_; intro _ _) | ((with_reducible show wpAny _ _ (isTrue (Expr.Compare _ [_] [_] _) _ _) _ _ _); refine wpAny_isTrue_Compare1 ?_) | with_reducible refine wpAny_truthy_bool ?_ | with_reducible refine rEq ?_ | ((with_reducible show wpAny _ _ (eval (Expr.Call _ _ [] _) _) _ _ _); refine Call_ ?_) | ((with_reducible show wpAny _ _ (spliced (backTo _ (starEach (_ :: _) _))) _ _ _); refine spliced_more ?_) | ((with_reducible show wpAny _ _ (spliced (backTo _ (starEach [] _))) _ _ _); refine spliced_none ?_) | with_reducible refine wpAny_IfExp ?_))
  refine ⟨F15.ok.at0 G rfl, ?_⟩
  have hcx := cntX hX (by (clear hlen hlt hLL hvl hlN hn0 hp3 hn3 hP hP1 hP4 hR hR1 hRp hX hbX hbX2 hbP hD1 hD2 hD3; omega) : 2 * p + 3 ≤ 17)
  refine c_idm0 G F15.ok hD3 (rm₁.le (by (clear hlen hlt hLL hvl hlN hn0 hp3 hn3 hp7 hP hP1 hP4 hR hR1 hRp hX hbX hbX2 hbP hD1 hD2 hD3; omega))) hD2 (by decide) (by (clear hlen hlt hLL hvl hlN hn0 hp3 hn3 hp7 hP hP1 hP4 hR hR1 hRp hX hbX hbX2 hbP hD1 hD2 hD3; omega)) ?_
  intro tq u1 u2 h16 tk16 k16 K16 hlq htq
  have F16 := F15.call k16 K16
  repeat (first | (first | ((with_reducible show wpAny _ _ (execs (Stmt.Assign [Expr.Name _ _] _ _ :: _) _) _ _ _); refine rAs ?_) | with_reducible refine rRet ?_ | with_reducible refine rIf ?_ | with_reducible refine wpAny_BinOp ?_ | with_reducible refine rI ?_ | with_reducible refine rS ?_ | ((with_reducible show wpAny _ _ (eval (Expr.Name _ _) _) _ _ _); refine nL (by assumption) rfl ?_) | ((with_reducible show wpAny _ _ (storeName _ _ _) _ _ _); refine rSt (by assumption) ?_; intro _ _) | ((with_reducible show wpAny _ _ (isTrue (Expr.Compare _ [_] [_] _) _ _) _ _ _); refine wpAny_isTrue_Compare1 ?_) | with_reducible refine wpAny_truthy_bool ?_ | with_reducible refine rEq ?_ | ((with_reducible show wpAny _ _ (eval (Expr.Call _ _ [] _) _) _ _ _); refine Call_ ?_) | ((with_reducible show wpAny _ _ (spliced (backTo _ (starEach (_ :: _) _))) _ _ _); refine spliced_more ?_) | ((with_reducible show wpAny _ _ (spliced (backTo _ (starEach [] _))) _ _ _); refine spliced_none ?_) | with_reducible refine wpAny_IfExp ?_) | (dsimp only; first | ((with_reducible show wpAny _ _ (execs (Stmt.Assign [Expr.Name _ _] _ _ :: _) _) _ _ _); refine rAs ?_) | with_reducible refine rRet ?_ | with_reducible refine rIf ?_ | with_reducible refine wpAny_BinOp ?_ | with_reducible refine rI ?_ | with_reducible refine rS ?_ | ((with_reducible show wpAny _ _ (eval (Expr.Name _ _) _) _ _ _); refine nL (by assumption) rfl ?_) | ((with_reducible show wpAny _ _ (storeName _ _ _) _ _ _); refine rSt (by assumption) ?_; intro _ _) | ((with_reducible show wpAny _ _ (isTrue (Expr.Compare _ [_] [_] _) _ _) _ _ _); refine wpAny_isTrue_Compare1 ?_) | with_reducible refine wpAny_truthy_bool ?_ | with_reducible refine rEq ?_ | ((with_reducible show wpAny _ _ (eval (Expr.Call _ _ [] _) _) _ _ _); refine Call_ ?_) | ((with_reducible show wpAny _ _ (spliced (backTo _ (starEach (_ :: _) _))) _ _ _); refine spliced_more ?_) | ((with_reducible show wpAny _ _ (spliced (backTo _ (starEach [] _))) _ _ _); refine spliced_none ?_) | with_reducible refine wpAny_IfExp ?_))
  refine rIxT 0 (IsTuple.isTup htq) rfl (by decide) (by decide) rfl ?_
  repeat (first | (first | ((with_reducible show wpAny _ _ (execs (Stmt.Assign [Expr.Name _ _] _ _ :: _) _) _ _ _); refine rAs ?_) | with_reducible refine rRet ?_ | with_reducible refine rIf ?_ | with_reducible refine wpAny_BinOp ?_ | with_reducible refine rI ?_ | with_reducible refine rS ?_ | ((with_reducible show wpAny _ _ (eval (Expr.Name _ _) _) _ _ _); refine nL (by assumption) rfl ?_) | ((with_reducible show wpAny _ _ (storeName _ _ _) _ _ _); refine rSt (by assumption) ?_; intro _ _) | ((with_reducible show wpAny _ _ (isTrue (Expr.Compare _ [_] [_] _) _ _) _ _ _); refine wpAny_isTrue_Compare1 ?_) | with_reducible refine wpAny_truthy_bool ?_ | with_reducible refine rEq ?_ | ((with_reducible show wpAny _ _ (eval (Expr.Call _ _ [] _) _) _ _ _); refine Call_ ?_) | ((with_reducible show wpAny _ _ (spliced (backTo _ (starEach (_ :: _) _))) _ _ _); refine spliced_more ?_) | ((with_reducible show wpAny _ _ (spliced (backTo _ (starEach [] _))) _ _ _); refine spliced_none ?_) | with_reducible refine wpAny_IfExp ?_) | (dsimp only; first | ((with_reducible show wpAny _ _ (execs (Stmt.Assign [Expr.Name _ _] _ _ :: _) _) _ _ _); refine rAs ?_) | with_reducible refine rRet ?_ | with_reducible refine rIf ?_ | with_reducible refine wpAny_BinOp ?_ | with_reducible refine rI ?_ | with_reducible refine rS ?_ | ((with_reducible show wpAny _ _ (eval (Expr.Name _ _) _) _ _ _); refine nL (by assumption) rfl ?_) | ((with_reducible show wpAny _ _ (storeName _ _ _) _ _ _); refine rSt (by assumption) ?_; intro _ _) | ((with_reducible show wpAny _ _ (isTrue (Expr.Compare _ [_] [_] _) _ _) _ _ _); refine wpAny_isTrue_Compare1 ?_) | with_reducible refine wpAny_truthy_bool ?_ | with_reducible refine rEq ?_ | ((with_reducible show wpAny _ _ (eval (Expr.Call _ _ [] _) _) _ _ _); refine Call_ ?_) | ((with_reducible show wpAny _ _ (spliced (backTo _ (starEach (_ :: _) _))) _ _ _); refine spliced_more ?_) | ((with_reducible show wpAny _ _ (spliced (backTo _ (starEach [] _))) _ _ _); refine spliced_none ?_) | with_reducible refine wpAny_IfExp ?_))
  rename_i h17 F17
  have qf := q_facts (okQ_of hp3 hP1 hP4 hR1 hRp)
  have hq : X ^ (2 * p + 3) / (X * X - P * X - R') = quo p P R' := by rw [hX]; rfl
  rw [hq] at F17
  generalize hqq : quo p P R' = q at *
  obtain ⟨qd, qc, ql⟩ := qf
  generalize hlu : luc P R' (2 * p + 2) 0 1 = lu at *
  have hlul : lu.length = 2 * p + 2 := by rw [← hlu]; exact luc_len ..
  refine rSub1 ?_
  refine Call_ ?_
  refine nG G F17 rfl ?_
  refine rCW (F17.ok.at0 G rfl) rfl ?_
  refine spliced_more ?_
  refine rM ?_
  refine rS ?_
  refine rJoinM ?_
  refine rCM ?_
  refine spliced_more ?_
  refine rLC2 ?_
  refine Call_ ?_
  refine nG G F17 rfl ?_
  refine rCW (F17.ok.at0 G rfl) rfl ?_
  repeat (first | (first | ((with_reducible show wpAny _ _ (execs (Stmt.Assign [Expr.Name _ _] _ _ :: _) _) _ _ _); refine rAs ?_) | with_reducible refine rRet ?_ | with_reducible refine rIf ?_ | with_reducible refine wpAny_BinOp ?_ | with_reducible refine rI ?_ | with_reducible refine rS ?_ | ((with_reducible show wpAny _ _ (eval (Expr.Name _ _) _) _ _ _); refine nL (by assumption) rfl ?_) | ((with_reducible show wpAny _ _ (storeName _ _ _) _ _ _); refine rSt (by assumption) ?_; intro _ _) | ((with_reducible show wpAny _ _ (isTrue (Expr.Compare _ [_] [_] _) _ _) _ _ _); refine wpAny_isTrue_Compare1 ?_) | with_reducible refine wpAny_truthy_bool ?_ | with_reducible refine rEq ?_ | ((with_reducible show wpAny _ _ (eval (Expr.Call _ _ [] _) _) _ _ _); refine Call_ ?_) | ((with_reducible show wpAny _ _ (spliced (backTo _ (starEach (_ :: _) _))) _ _ _); refine spliced_more ?_) | ((with_reducible show wpAny _ _ (spliced (backTo _ (starEach [] _))) _ _ _); refine spliced_none ?_) | with_reducible refine wpAny_IfExp ?_) | (dsimp only; first | ((with_reducible show wpAny _ _ (execs (Stmt.Assign [Expr.Name _ _] _ _ :: _) _) _ _ _); refine rAs ?_) | with_reducible refine rRet ?_ | with_reducible refine rIf ?_ | with_reducible refine wpAny_BinOp ?_ | with_reducible refine rI ?_ | with_reducible refine rS ?_ | ((with_reducible show wpAny _ _ (eval (Expr.Name _ _) _) _ _ _); refine nL (by assumption) rfl ?_) | ((with_reducible show wpAny _ _ (storeName _ _ _) _ _ _); refine rSt (by assumption) ?_; intro _ _) | ((with_reducible show wpAny _ _ (isTrue (Expr.Compare _ [_] [_] _) _ _) _ _ _); refine wpAny_isTrue_Compare1 ?_) | with_reducible refine wpAny_truthy_bool ?_ | with_reducible refine rEq ?_ | ((with_reducible show wpAny _ _ (eval (Expr.Call _ _ [] _) _) _ _ _); refine Call_ ?_) | ((with_reducible show wpAny _ _ (spliced (backTo _ (starEach (_ :: _) _))) _ _ _); refine spliced_more ?_) | ((with_reducible show wpAny _ _ (spliced (backTo _ (starEach [] _))) _ _ _); refine spliced_none ?_) | with_reducible refine wpAny_IfExp ?_))
  refine ⟨F17.ok.at0 G rfl, ?_⟩
  refine c_i2d G F17.ok (n := 64) (x := q) (rm₁.le (by (clear hlen hlt hLL hvl hlN hn0 hp3 hn3 hP hP1 hP4 hR hR1 hRp hX hbX hbX2 hbP hD1 hD2 hD3 hcx hlq hqq hq hlul; omega))) (by decide) (by decide) (by (clear hlen hlt hLL hvl hlN hn0 hp3 hn3 hP hP1 hP4 hR hR1 hRp hX hbX hbX2 hbP hD1 hD2 hD3 hcx hlq hqq hq hlul; omega)) ?_
  intro lq vq h18 tk18 k18 K18 hlq18 hlst18 hi18
  rw [qc, qd] at hi18
  have F18 := F17.call k18 K18
  dsimp only
  have hrl : lu.reverse.length = 2 * p + 2 := by rw [List.length_reverse, hlul]
  have hvql : vq.length = lu.reverse.length := by rw [hi18.length, List.length_map]
  have qlr : ∀ x ∈ lu.reverse, x ≠ 0 ∧ x < 2 ^ 60 := fun x hx => ql x (List.mem_reverse.mp hx)
  refine rLCl (fun i v => ∃ t, v = .str (tx (word (lu.reverse.getD i 0))) t) F18.ok hlst18 (F18.ok.nt (Nat.le_trans F17.ok.sz hlq18)) (by (clear hlen hlt hLL hvl hlN hn0 hp3 hn3 hP hP1 hP4 hR hR1 hRp hX hbX hbX2 hbP hD1 hD2 hD3 hcx hlq hqq hq qc hlul hlq18; omega)) rm₁.hd (fun _ hy => by simp at hy) ?_ ?_
  · intro C T2 hp2 i v h' tk' m1 nw1 gn1 hi' _ hv B F' K' hm Q2 q'
    obtain ⟨tv, ev⟩ := hi18.get i _ (by rw [List.getElem?_map, List.getElem?_eq_getElem (by (clear hlen hlt hLL hvl hlN hn0 hp3 hn3 hp7 hP hP1 hP4 hR hR1 hRp hX hbX hbX2 hbP hD1 hD2 hD3 hcx hlq hqq hq qc hlul hlq18; omega) : i < lu.reverse.length)]; rfl)
    rw [hv] at ev
    cases ev
    have hx0 := qlr _ (List.getElem_mem (by (clear hlen hlt hLL hvl hlN hn0 hp3 hn3 hp7 hP hP1 hP4 hR hR1 hRp hX hbX hbX2 hbP hD1 hD2 hD3 hcx hlq hqq hq qc hlul hlq18; omega) : i < lu.reverse.length))
    have hgd : lu.reverse.getD i 0 = lu.reverse[i]'(by (clear hlen hlt hLL hvl hlN hn0 hp3 hn3 hp7 hP hP1 hP4 hR hR1 hRp hX hbX hbX2 hbP hD1 hD2 hD3 hcx hlq hqq hq qc hlul hlq18 hx0; omega)) := by simp [List.getD, List.getElem?_eq_getElem (by (clear hlen hlt hLL hvl hlN hn0 hp3 hn3 hp7 hP hP1 hP4 hR hR1 hRp hX hbX hbX2 hbP hD1 hD2 hD3 hcx hlq hqq hq qc hlul hlq18 hx0; omega) : i < lu.reverse.length)]
    generalize lu.reverse[i]'(by (clear hlen hlt hLL hvl hlN hn0 hp3 hn3 hp7 hP hP1 hP4 hR hR1 hRp hX hbX hbX2 hbP hD1 hD2 hD3 hcx hlq hqq hq qc hlul hlq18 hx0 hgd; omega)) = xi at *
    refine rM ?_
    refine Call_ ?_
    refine nG G F' rfl ?_
    refine rCW (F'.ok.at0 G rfl) rfl ?_
    refine spliced_more ?_
    refine nL F' hm ?_
    refine spliced_none ?_
    refine ⟨F'.ok.at0 G rfl, ?_⟩
    refine c_i2a G F'.ok (x := xi) (rm₁.le (by (clear hlen hlt hLL hvl hlN hn0 hp3 hn3 hp7 hP hP1 hP4 hR hR1 hRp hX hbX hbX2 hbP hD1 hD2 hD3 hcx hlq hqq hq qc hlul hlq18 hrl hvql hi' hx0 hgd; omega))) (by have := hx_len64 hx0.1 hx0.2; (clear hlen hlt hLL hvl hlN hn0 hp3 hn3 hp7 hP hP1 hP4 hR hR1 hRp hX hbX hbX2 hbP hD1 hD2 hD3 hcx hlq hqq hq qc hlul hlq18 hrl hvql hi' hx0 hgd; omega)) ?_
    intro t3 h3 tk3 k3 K3
    dsimp only
    refine rDecM ?_
    refine rCM ?_
    refine spliced_more ?_
    refine rS ?_
    refine spliced_none ?_
    refine rDec (hx_ne hx0.1) (hx_lt _ _ (Nat.lt_succ_self _)) (by have := hx_len64 hx0.1 hx0.2; (clear hlen hlt hLL hvl hlN hn0 hp3 hn3 hp7 hP hP1 hP4 hR hR1 hRp hX hbX hbX2 hbP hD1 hD2 hD3 hcx hlq hqq hq qc hlul hlq18 hrl hvql hi' hx0 hgd; omega)) ?_
    intro t4 tk4'
    exact q' _ h3 tk4' gn1 ⟨t4, by rw [hgd]; rfl⟩ k3 K3 B
  intro lw h19 tk19 gn19 yw nw19 k19 K19 hlw elw alw B19
  have F19 := (F18.call k19 K19).add elw (Nat.le_trans F18.gsz hlw) (F18.fresh hlw).1 (F18.fresh hlw).2
  have siw := alw.strs
  rw [hvql, map_range_getD (fun x => tx (word x))] at siw
  have hmm : lu.reverse.map (fun x => tx (word x)) = (lu.reverse.map word).map tx := by rw [List.map_map]; rfl
  rw [hmm] at siw
  have wok := words_ok qlr
  have wlen : (lu.reverse.map word).length = 2 * p + 2 := by rw [List.length_map, hrl]
  refine spliced_none ?_
  refine rJoin (LO.is elw) siw (by decide) (by have := sum_len _ fun v hv => (wok v hv).2.1; rw [wlen] at this; rw [List.length_map, wlen]; (clear hlen hlt hLL hvl hlN hn0 hp3 hn3 hP hP1 hP4 hR hR1 hRp hX hbX hbX2 hbP hD1 hD2 hD3 hcx hlq hqq hq qc hlul hlq18 hrl hvql hlw wlen; omega)) ?_
  intro t20 tk20
  refine spliced_none ?_
  have tjl := tj_len 10 _ fun v hv => (wok v hv).2.1
  have jn := join_tj 10 (lu.reverse.map word)
  refine ⟨F19.ok.at0 G rfl, ?_⟩
  refine c_lr G F19.ok (s := 10) (ws := lu.reverse.map word) (rm₁.le (by (clear hlen hlt hLL hvl hlN hn0 hp3 hn3 hp7 hP hP1 hP4 hR hR1 hRp hX hbX hbX2 hbP hD1 hD2 hD3 hcx hlq hqq hq qc hlul hlq18 hrl hvql hlw wlen tjl; omega))) jn (.inl rfl) (by rw [← Array.length_toList]; have e := congrArg List.length jn; exact Nat.le_trans (Nat.le_of_eq e) (by (clear hlen hlt hLL hvl hlN hn0 hp3 hn3 hP hP1 hP4 hR hR1 hRp hX hbX hbX2 hbP hD1 hD2 hD3 hcx hlq hqq hq qc hlul hlq18 hrl hvql hlw; omega))) wok (by (clear hlen hlt hLL hvl hlN hn0 hp3 hn3 hP hP1 hP4 hR hR1 hRp hX hbX hbX2 hbP hD1 hD2 hD3 hcx hlq hqq hq qc hlul hlq18 hrl hvql hlw tjl; omega)) ?_
  intro lf vf nf h21 tk21 k21 K21 hlf elf hif
  rw [words_val] at hif
  have F21 := (F19.call k21 K21).add elf (Nat.le_trans F19.gsz hlf) (F19.fresh hlf).1 (F19.fresh hlf).2
  dsimp only
  refine rSlc ?_
  rw [evalPart_none]
  refine wpAny_pure ?_
  refine wpAny_pure ?_
  rw [evalPart_some]
  refine wpAny_UnaryOp ?_
  refine rI ?_
  refine rNeg ?_
  refine rLSlR (LO.is elf) .none .none (.int _ _) (by decide) (by have := hif.length; simp at this; simp; (clear hlen hlt hLL hvl hlN hn0 hp3 hn3 hP hP1 hP4 hR hR1 hRp hX hbX hbX2 hbP hD1 hD2 hD3 hcx hlq hqq hq qc hlq18 hrl hvql hlw wlen tjl hlf; omega)) ?_
  rw [krv_pick]
  have hifr := hif.reverse
  rw [← List.map_reverse, List.reverse_reverse] at hifr
  have F22 := (F21.psh0 { cls := .type "slice", data := .fields #[.none, .none, .int (-1) (tk21 + 1)] }).psh (LO vf.reverse 0)
  rw [Heap.size_push] at F22
  replace F22 := F22.drop (nw' := [(h21.objs.size + 1, LO vf.reverse 0), (lN, LO vn 0), (L + 1, o9), (L + 2, o2)]) (.cons_cons _ (.cons _ (.cons _ (List.Sublist.refl _))))
  show wpAny (model PP w) _ _ _ _ ⟨(h21.push _).push (LO vf.reverse 0), gn19, dr, _, os⟩
  generalize hlF : h21.objs.size + 1 = lF at *
  generalize (h21.push _).push (LO vf.reverse 0) = h22 at *
  repeat (first | (first | ((with_reducible show wpAny _ _ (execs (Stmt.Assign [Expr.Name _ _] _ _ :: _) _) _ _ _); refine rAs ?_) | with_reducible refine rRet ?_ | with_reducible refine rIf ?_ | with_reducible refine wpAny_BinOp ?_ | with_reducible refine rI ?_ | with_reducible refine rS ?_ | ((with_reducible show wpAny _ _ (eval (Expr.Name _ _) _) _ _ _); refine nL (by assumption) rfl ?_) | ((with_reducible show wpAny _ _ (storeName _ _ _) _ _ _); refine rSt (by assumption) ?_; intro _ _) | ((with_reducible show wpAny _ _ (isTrue (Expr.Compare _ [_] [_] _) _ _) _ _ _); refine wpAny_isTrue_Compare1 ?_) | with_reducible refine wpAny_truthy_bool ?_ | with_reducible refine rEq ?_ | ((with_reducible show wpAny _ _ (eval (Expr.Call _ _ [] _) _) _ _ _); refine Call_ ?_) | ((with_reducible show wpAny _ _ (spliced (backTo _ (starEach (_ :: _) _))) _ _ _); refine spliced_more ?_) | ((with_reducible show wpAny _ _ (spliced (backTo _ (starEach [] _))) _ _ _); refine spliced_none ?_) | with_reducible refine wpAny_IfExp ?_) | (dsimp only; first | ((with_reducible show wpAny _ _ (execs (Stmt.Assign [Expr.Name _ _] _ _ :: _) _) _ _ _); refine rAs ?_) | with_reducible refine rRet ?_ | with_reducible refine rIf ?_ | with_reducible refine wpAny_BinOp ?_ | with_reducible refine rI ?_ | with_reducible refine rS ?_ | ((with_reducible show wpAny _ _ (eval (Expr.Name _ _) _) _ _ _); refine nL (by assumption) rfl ?_) | ((with_reducible show wpAny _ _ (storeName _ _ _) _ _ _); refine rSt (by assumption) ?_; intro _ _) | ((with_reducible show wpAny _ _ (isTrue (Expr.Compare _ [_] [_] _) _ _) _ _ _); refine wpAny_isTrue_Compare1 ?_) | with_reducible refine wpAny_truthy_bool ?_ | with_reducible refine rEq ?_ | ((with_reducible show wpAny _ _ (eval (Expr.Call _ _ [] _) _) _ _ _); refine Call_ ?_) | ((with_reducible show wpAny _ _ (spliced (backTo _ (starEach (_ :: _) _))) _ _ _); refine spliced_more ?_) | ((with_reducible show wpAny _ _ (spliced (backTo _ (starEach [] _))) _ _ _); refine spliced_none ?_) | with_reducible refine wpAny_IfExp ?_))
  rename_i h23 F23
  refine rList ?_
  repeat (first | (first | ((with_reducible show wpAny _ _ (execs (Stmt.Assign [Expr.Name _ _] _ _ :: _) _) _ _ _); refine rAs ?_) | with_reducible refine rRet ?_ | with_reducible refine rIf ?_ | with_reducible refine wpAny_BinOp ?_ | with_reducible refine rI ?_ | with_reducible refine rS ?_ | ((with_reducible show wpAny _ _ (eval (Expr.Name _ _) _) _ _ _); refine nL (by assumption) rfl ?_) | ((with_reducible show wpAny _ _ (storeName _ _ _) _ _ _); refine rSt (by assumption) ?_; intro _ _) | ((with_reducible show wpAny _ _ (isTrue (Expr.Compare _ [_] [_] _) _ _) _ _ _); refine wpAny_isTrue_Compare1 ?_) | with_reducible refine wpAny_truthy_bool ?_ | with_reducible refine rEq ?_ | ((with_reducible show wpAny _ _ (eval (Expr.Call _ _ [] _) _) _ _ _); refine Call_ ?_) | ((with_reducible show wpAny _ _ (spliced (backTo _ (starEach (_ :: _) _))) _ _ _); refine spliced_more ?_) | ((with_reducible show wpAny _ _ (spliced (backTo _ (starEach [] _))) _ _ _); refine spliced_none ?_) | with_reducible refine wpAny_IfExp ?_) | (dsimp only; first | ((with_reducible show wpAny _ _ (execs (Stmt.Assign [Expr.Name _ _] _ _ :: _) _) _ _ _); refine rAs ?_) | with_reducible refine rRet ?_ | with_reducible refine rIf ?_ | with_reducible refine wpAny_BinOp ?_ | with_reducible refine rI ?_ | with_reducible refine rS ?_ | ((with_reducible show wpAny _ _ (eval (Expr.Name _ _) _) _ _ _); refine nL (by assumption) rfl ?_) | ((with_reducible show wpAny _ _ (storeName _ _ _) _ _ _); refine rSt (by assumption) ?_; intro _ _) | ((with_reducible show wpAny _ _ (isTrue (Expr.Compare _ [_] [_] _) _ _) _ _ _); refine wpAny_isTrue_Compare1 ?_) | with_reducible refine wpAny_truthy_bool ?_ | with_reducible refine rEq ?_ | ((with_reducible show wpAny _ _ (eval (Expr.Call _ _ [] _) _) _ _ _); refine Call_ ?_) | ((with_reducible show wpAny _ _ (spliced (backTo _ (starEach (_ :: _) _))) _ _ _); refine spliced_more ?_) | ((with_reducible show wpAny _ _ (spliced (backTo _ (starEach [] _))) _ _ _); refine spliced_none ?_) | with_reducible refine wpAny_IfExp ?_))
  refine rNewLg (fun vs => IntsAre vs [1, (P : Int)]) (.cons _ _ (.cons _ _ .nil)) (by simp) ?_
  intro vt hvt
  have F24 := F23.psh (LO vt 0)
  generalize hlT : h23.objs.size = lT at *
  refine rStS F24 ?_
  intro h25 S25 F25
  obtain ⟨m25, hm25, F25'⟩ : ∃ m, m = _ ∧ FS g0 g0 [] L h25 m _ := ⟨_, rfl, F25⟩
  have mTerms : m25 "terms" = some (.ref lT) := by rw [hm25]; rfl
  have mFound : m25 "found" = some (.ref lF) := by rw [hm25]; rfl
  have mOften : ∃ t, m25 "often" = some (.int P t) := by rw [hm25]; exact ⟨_, rfl⟩
  have mOnce : ∃ t, m25 "once" = some (.int R' t) := by rw [hm25]; exact ⟨_, rfl⟩
  have mLast : ∃ t, m25 "last" = some (.int (2 * p + 2 : Nat) t) := by rw [hm25]; exact ⟨_, rfl⟩
  obtain ⟨tO1, mOften⟩ := mOften
  obtain ⟨tO2, mOnce⟩ := mOnce
  obtain ⟨tO3, mLast⟩ := mLast
  clear hm25 F25 F24 F23 F22 F21 F19 F18
  have hlenJ : ∀ j, (((luc P R' j 0 1).map fun (x : Nat) => (x : Int))).length = j := fun j => by rw [List.length_map]; exact luc_len ..
  refine rWhile (fun i s => ∃ j h' tk' vt nt, s = ⟨h', gn19, dr, tk', os⟩ ∧ FS g0 g0 [] L h' m25 [(lT, LO vt nt), (lF, LO vf.reverse 0), (lN, LO vn 0), (L + 1, o9), (L + 2, o2)] ∧ IntsAre vt ((luc P R' (j + 2) 0 1).map fun (x : Nat) => (x : Int)) ∧ i + j = 2 * p) ?_ (2 * p) ?_
  · rintro J hJ i s ⟨j, h', tk', vt, nt, rfl, F', hit, hij⟩
    have hvl' : vt.length = j + 2 := by rw [hit.length, hlenJ]
    refine wpAny_isTrue_Compare1 ?_
    refine Call_ ?_
    refine nB G F' rfl rfl ?_
    refine rCB ?_
    refine spliced_more ?_
    refine nL F' mTerms ?_
    refine spliced_none ?_
    refine rLen (LO.is (F'.at 0 rfl)) (n := j + 2) (by simp [hvl']) (by (clear hlen hlt hLL hvl hlN hn0 hp3 hn3 hP hP1 hP4 hR hR1 hRp hX hbX hbX2 hbP hD1 hD2 hD3 hcx hlq hqq hq qc hlul hlq18 hrl hvql hlw wlen tjl hlf hlF hlT; omega)) ?_
    intro tk2 tk3
    refine nL F' mLast ?_
    refine rLt ?_
    refine wpAny_truthy_bool ?_
    by_cases hj : j = 2 * p
    · refine iteF (by simp; (clear hlen hlt hLL hvl hlN hn0 hp3 hn3 hp7 hP hP1 hP4 hR hR1 hRp hX hbX hbX2 hbP hD1 hD2 hD3 hcx hlq hqq hq qc hlul hlq18 hrl hvql hlw wlen tjl hlf hlF hlT hij; omega)) ?_
      subst hj
      rw [hlu] at hit
      have hpb := bitsP hp3
      obtain ⟨nb, hnb, hnb2⟩ := hpb
      have hLg : g0.objs.size ≤ L + 1 := by (clear hlen hlt hvl hlN hn0 hp3 hn3 hp7 hP hP1 hP4 hR hR1 hRp hX hbX hbX2 hbP hD1 hD2 hD3 hcx hlq hqq hq qc hlul hlq18 hrl hvql hlw wlen tjl hlf hlF hlT hij hvl' hnb hnb2; omega)
      have hLg2 : g0.objs.size ≤ L + 2 := by (clear hlen hlt hvl hlN hn0 hp3 hn3 hp7 hP hP1 hP4 hR hR1 hRp hX hbX hbX2 hbP hD1 hD2 hD3 hcx hlq hqq hq qc hlul hlq18 hrl hvql hlw wlen tjl hlf hlF hlT hij hvl' hnb hnb2 hLg; omega)
      refine rIf ?_
      refine wpAny_isTrue_Compare1 ?_
      refine nL F' mFound ?_
      refine nL F' mTerms ?_
      refine rNeLL (LO.is (F'.at 1 rfl)) (LO.is (F'.at 0 rfl)) hifr hit (rm₁.le (by (clear hlen hlt hLL hvl hlN hn0 hp3 hn3 hp7 hP hP1 hP4 hR hR1 hRp hX hbX hbX2 hbP hD1 hD2 hD3 hcx hlq hqq hq qc hlul hlq18 hrl hvql hlw wlen tjl hlf hlF hlT hij hvl' hnb hnb2 hLg hLg2; omega))) ?_
      refine wpAny_truthy_bool ?_
      refine iteF (by simp) ?_
      refine rNil ?_
      refine rAs ?_
      refine rLC2 ?_
      refine nL F' mFound ?_
      have hfl : vf.reverse.length = lu.length := by rw [hifr.length, List.length_map]
      refine rLCl (fun i v => ∃ t, v = .int ((lu.getD i 0 % p : Nat) : Int) t) F'.ok (LO.is (F'.at 1 rfl)) (F'.ok.nt (F'.lo0 (.tail _ (.head _)))) (by (clear hlen hlt hLL hvl hlN hn0 hp3 hn3 hP hP1 hP4 hR hR1 hRp hX hbX hbX2 hbP hD1 hD2 hD3 hcx hlq hqq hq qc hlq18 hrl hvql hlw wlen tjl hlf hlF hlT hij hvl' hnb hnb2 hLg hLg2; omega)) rm₁.hd B19 ?_ ?_
      · intro C T2 hp2 i v h2' tk2' m1 nw1 gn1 hi' _ hv B F2' K2' hm Q2 q'
        have hil : i < lu.length := by (clear hlen hlt hLL hvl hlN hn0 hp3 hn3 hp7 hP hP1 hP4 hR hR1 hRp hX hbX hbX2 hbP hD1 hD2 hD3 hcx hlq hqq hq qc hlq18 hrl hvql hlw wlen tjl hlf hlF hlT hij hvl' hnb hnb2 hLg hLg2; omega)
        obtain ⟨tv, ev⟩ := hifr.get i _ (by rw [List.getElem?_map, List.getElem?_eq_getElem hil]; rfl)
        rw [hv] at ev
        cases ev
        have hx0 := ql _ (List.getElem_mem hil)
        have hgd : lu.getD i 0 = lu[i]'hil := by simp [List.getD, List.getElem?_eq_getElem hil]
        generalize lu[i]'hil = xi at *
        have hcn := cntp hnb2 hx0.2
        refine rSub1 ?_
        refine Call_ ?_
        refine nG G F2' rfl ?_
        refine rCW (F2'.ok.at0 G rfl) rfl ?_
        refine spliced_more ?_
        refine nL F2' hm ?_
        refine spliced_more ?_
        refine nC (c := L + 1) rfl ⟨o9, K2'.at F'.ok hLg (F'.at 3 rfl), d9⟩ ?_
        refine spliced_none ?_
        refine ⟨F2'.ok.at0 G rfl, ?_⟩
        refine c_idm0 G F2'.ok hnb (rm₁.le (by (clear hlen hlt hLL hvl hlN hn0 hp3 hn3 hp7 hP hP1 hP4 hR hR1 hRp hX hbX hbX2 hbP hD1 hD2 hD3 hcx hlq hqq hq qc hlul hlq18 hrl hvql hlw wlen tjl hlf hlF hlT hij hvl' hnb hnb2 hLg hLg2 hfl hi' hil hx0 hgd; omega))) (by (clear hlen hlt hLL hvl hlN hn0 hp3 hn3 hP hP1 hP4 hR hR1 hRp hX hbX hbX2 hbP hD1 hD2 hD3 hcx hlq hqq hq qc hlul hlq18 hrl hvql hlw wlen tjl hlf hlF hlT hij hvl' hnb hnb2 hLg hLg2 hfl hi' hil hx0 hgd hcn; omega)) (by (clear hlen hlt hLL hvl hlN hn0 hp3 hn3 hp7 hP hP1 hP4 hR hR1 hRp hX hbX hbX2 hbP hD1 hD2 hD3 hcx hlq hqq hq qc hlul hlq18 hrl hvql hlw wlen tjl hlf hlF hlT hij hvl' hnb hLg hLg2 hfl hi' hil hcn; omega)) (by (clear hlen hlt hLL hvl hlN hn0 hp3 hn3 hp7 hP hP1 hP4 hR hR1 hRp hX hbX hbX2 hbP hD1 hD2 hD3 hcx hlq hqq hq qc hlul hlq18 hrl hvql hlw wlen tjl hlf hlF hlT hij hvl' hnb hnb2 hLg hLg2 hfl hi' hil hx0 hgd; omega)) ?_
        intro tq2 u3 u4 h3' tk3' k3' K3' hlq' htq'
        dsimp only
        refine rI ?_
        refine rIxT 1 (IsTuple.isTup htq') rfl (by decide) (by decide) rfl ?_
        exact q' _ h3' _ gn1 ⟨_, by rw [hgd]; rfl⟩ k3' K3' B
      intro lL h30 tk30 gn30 yl nl30 k30 K30 hlL elL alL B30
      have F30 := F'.callA k30 K30 hlL elL
      have hil := alL.ints
      rw [hfl, map_range_getD (fun x => ((x % p : Nat) : Int))] at hil
      refine rSC F30 5 (c := L + 2) rfl rfl d2 ?_
      intro h31 o31 d31 S31 F31
      refine rAsU ?_
      refine Call_ ?_
      refine nB G F31 rfl rfl ?_
      refine rCT ?_
      refine spliced_more ?_
      refine nL F31 mLast ?_
      refine spliced_none ?_
      refine rRange ?_
      intro r1 r2 tk32 hr32
      have F32 := F31.psh0 { cls := .type "range", data := .fields #[.int 0 r1, .int (2 * p + 2 : Nat) tO3, .int 1 r2] }
      refine rLCrIfR (fun k => decide (lu.getD k 0 % p = 0)) (fun i v => ∃ t, v = .int ((i + 1 : Nat) : Int) t) F32.ok hr32 (by (clear hlen hlt hLL hvl hlN hn0 hp3 hn3 hP hP1 hP4 hR hR1 hRp hX hbX hbX2 hbP hD1 hD2 hD3 hcx hlq hqq hq qc hlul hlq18 hrl hvql hlw wlen tjl hlf hlF hlT hij hvl' hnb hnb2 hLg hLg2 hfl hlL; omega)) rm₁.hd B30 ?_ ?_ ?_
      · intro C T2 hp2 i v h2' tk2' m1 nw1 gn1 hi' _ hv B F2' K2' hm Q2 q'
        obtain ⟨tv, rfl⟩ := hv
        refine wpAny_BinOp ?_
        refine nL F2' hm ?_
        refine rI ?_
        refine rAdd ((i + 1 : Nat) : Int) (by push_cast; rfl) ?_
        exact q' _ _ _ _ ⟨_, rfl⟩ F2'.ok Kp.refl B
      · intro C T2 hp2 i v h2' tk2' m1 nw1 gn1 hi' hv B F2' K2' hm Q2 q'
        obtain ⟨tv, rfl⟩ := hv
        have hil2 : i < lu.length := by (clear hlen hlt hLL hvl hlN hn0 hp3 hn3 hp7 hP hP1 hP4 hR hR1 hRp hX hbX hbX2 hbP hD1 hD2 hD3 hcx hlq hqq hq qc hlq18 hrl hvql hlw wlen tjl hlf hlF hlT hij hvl' hnb hnb2 hLg hLg2 hfl hlL; omega)
        refine wpAny_isTrue_Compare1 ?_
        refine rSub1 ?_
        refine nC (c := L + 2) rfl ⟨o31, K2'.at F32.ok hLg2 (F32.at 5 rfl), d31⟩ ?_
        refine nL F2' hm ?_
        refine rIxI (LO.is (K2'.at F32.ok (F32.lo0 (.head _)) (F32.at 0 rfl))) hil i ((lu.getD i 0 % p : Nat) : Int) rfl (by rw [List.getElem?_map, List.getElem?_eq_getElem hil2]; simp [List.getD, List.getElem?_eq_getElem hil2]) (by (clear hlen hlt hLL hvl hlN hn0 hp3 hn3 hP hP1 hP4 hR hR1 hRp hX hbX hbX2 hbP hD1 hD2 hD3 hcx hlq hqq hq qc hlul hlq18 hrl hvql hlw wlen tjl hlf hlF hlT hij hvl' hnb hnb2 hLg hLg2 hfl hlL hil2; omega)) ?_
        intro t
        refine rI ?_
        refine rEq ?_
        rw [beq0]
        refine wpAny_truthy_bool ?_
        exact q' h2' _ gn1 F2'.ok Kp.refl B
      intro C33 T33 hp33 lD h33 tk33 gn33 mm33 yd nd FD KD hlD hCD alD B33
      have hid : IntsAre yd ((divd p P R').map fun (x : Nat) => (x : Int)) := by
        have := alD.ints
        rw [divd_eq, List.map_map, hlu]
        exact this
      obtain ⟨d, r, ed, hd2, hdl, hsg, hdm⟩ := a_facts (okA_of hp3 hP1 hP4 hR1 hRp)
      refine compS F32 FD KD hCD hlD ?_
      intro h34 tk34 F34
      refine rAs ?_
      refine wpAny_BinOp ?_
      refine wpAny_BinOp ?_
      refine wpAny_BinOp ?_
      refine nL F34 mOften ?_
      refine nL F34 mOften ?_
      refine rMul ((P * P : Nat) : Int) (by push_cast; rfl) (.inl hbP) ?_
      refine wpAny_BinOp ?_
      refine rI ?_
      refine nL F34 mOnce ?_
      refine rMul ((4 * R' : Nat) : Int) (by push_cast; rfl) (.inr (Nat.le_trans (bits_nat (a := R') (k := 3) (by (clear hlen hlt hLL hvl hlN hn0 hp3 hn3 hP hP1 hP4 hR hR1 hX hbX hbX2 hbP hD2 hD3 hcx hlq hqq hq qc hlul hlq18 hrl hvql hlw wlen tjl hlf hlF hlT hij hvl' hnb hnb2 hLg hLg2 hfl hlL hlD hCD hd2 hdl hsg; omega))) (by decide))) ?_
      refine rAdd ((P * P + 4 * R' : Nat) : Int) (by push_cast; rfl) ?_
      refine nC (c := L + 1) rfl ⟨o9, F34.at 5 rfl, d9⟩ ?_
      refine rMod ((sq p P R' : Nat) : Int) (by (clear hlen hlt hLL hvl hlN hn0 hp3 hn3 hP hP1 hP4 hR hR1 hRp hX hbX hbX2 hbP hD1 hD2 hD3 hcx hlq hqq hq qc hlul hlq18 hrl hvql hlw wlen tjl hlf hlF hlT hij hvl' hnb hnb2 hLg hLg2 hfl hlL hlD hCD hd2 hdl hsg; omega)) (fmod_nat _ _) ?_
      refine rStS F34 ?_
      intro h35 S35 F35
      refine rAs ?_
      refine wpAny_UnaryOp ?_
      refine rI ?_
      refine rNeg ?_
      refine rStS F35 ?_
      intro h36 S36 F36
      refine rIfJ (fun s' => ∃ h' tk' gn' m' t, s' = ⟨h', gn', dr, tk', os⟩ ∧ AllB gn' ∧ FS g0 g0 [] L h' m' [(lD, LO yd nd), (lL, LO yl nl30), (lT, LO vt nt), (lF, LO vf.reverse 0), (lN, LO vn 0), (L + 1, o9), (L + 2, o31)] ∧ m' "sign" = some (.int (sgn p P R') t) ∧ m' "divided" = some (.ref lD) ∧ m' "last" = some (.int (2 * p + 2 : Nat) tO3) ∧ m' "terms" = some (.ref lT)) ?_ ?_
      · refine wpAny_isTrue_Compare1 ?_
        refine nL F36 rfl ?_
        refine rLC2 ?_
        refine Call_ ?_
        refine nB G F36 rfl rfl ?_
        refine rCT ?_
        refine spliced_more ?_
        refine nC (c := L + 1) rfl ⟨o9, F36.at 5 rfl, d9⟩ ?_
        refine spliced_none ?_
        refine rRange ?_
        intro r3 r4 tk37 hr37
        have F37 := F36.psh0 { cls := .type "range", data := .fields #[.int 0 r3, .int (p : Nat) t10, .int 1 r4] }
        refine rLCr (fun i v => ∃ t, v = .int (((i : Int) * i).fmod p) t) F37.ok hr37 (by (clear hlen hlt hLL hvl hlN hn0 hp3 hn3 hP hP1 hP4 hR hR1 hRp hX hbX hbX2 hbP hD1 hD2 hD3 hcx hlq hqq hq qc hlul hlq18 hrl hvql hlw wlen tjl hlf hlF hlT hij hvl' hnb hnb2 hLg hLg2 hfl hlL hlD hCD hd2 hdl hsg; omega)) rm₁.hd B33 ?_ ?_
        · intro C T2 hp2 i v h2' tk2' m1 nw1 gn1 hi' _ hv B F2' K2' hm Q2 q'
          obtain ⟨tv, rfl⟩ := hv
          refine wpAny_BinOp ?_
          refine wpAny_BinOp ?_
          refine nL F2' hm ?_
          refine nL F2' hm ?_
          refine rMul ((i : Int) * i) rfl (.inl (Nat.le_trans (bits_nat (a := i) (k := 3) (by (clear hlen hlt hLL hvl hlN hn0 hp3 hn3 hP hP1 hP4 hR hR1 hRp hX hbX hbX2 hbP hD1 hD2 hD3 hcx hlq hqq hq qc hlul hlq18 hrl hvql hlw wlen tjl hlf hlF hlT hij hvl' hnb hnb2 hLg hLg2 hfl hlL hlD hCD hd2 hdl hsg; omega))) (by decide))) ?_
          refine nC (c := L + 1) rfl ⟨o9, K2'.at F37.ok hLg (F37.at 5 rfl), d9⟩ ?_
          refine rMod _ (by (clear hlen hlt hLL hvl hlN hn0 hp3 hn3 hP hP1 hP4 hR hR1 hRp hX hbX hbX2 hbP hD1 hD2 hD3 hcx hlq hqq hq qc hlul hlq18 hrl hvql hlw wlen tjl hlf hlF hlT hij hvl' hnb hnb2 hLg hLg2 hfl hlL hlD hCD hd2 hdl hsg hi'; omega)) rfl ?_
          exact q' _ _ _ _ ⟨_, rfl⟩ F2'.ok Kp.refl B
        intro lK h38 tk38 gn38 yk nk k38 K38 hlK elK alK B38
        have F38 := F37.call k38 K38
        refine rInI (LO.is elK) alK.ints ?_
        rw [sq_any]
        refine wpAny_truthy_bool ?_
        by_cases hcn : ((List.range p).map fun k => k * k % p).contains (sq p P R') = true
        · refine iteT hcn ?_
          refine rAs ?_
          refine wpAny_IfExp ?_
          refine isTrue_plain ?_
          refine nL F38 rfl ?_
          refine rTru ?_
          by_cases hs0 : sq p P R' = 0
          · have hsgn : sgn p P R' = 0 := by unfold sgn; rw [if_pos hcn, if_pos hs0]
            refine iteF (by rw [hs0]; simp) ?_
            refine rI ?_
            refine rStS F38 ?_
            intro h39 S39 F39
            refine rNil ?_
            refine ⟨rfl, h39, _, gn38, _, ?_, rfl, B38, F39, ?_, rfl, mLast, mTerms⟩
            rotate_left
            · rw [hsgn]; rfl
          · have hsgn : sgn p P R' = 1 := by unfold sgn; rw [if_pos hcn, if_neg hs0]
            refine iteT (by simp only [bne_iff_ne]; (clear hlen hlt hLL hvl hlN hn0 hp3 hn3 hp7 hP hP1 hP4 hR hR1 hRp hX hbX hbX2 hbP hD1 hD2 hD3 hcx hlq hqq hq qc hlul hlq18 hrl hvql hlw wlen tjl hlf hlF hlT hij hvl' hnb hnb2 hLg hLg2 hfl hlL hlD hCD hd2 hdl hsg hlK hsgn; omega)) ?_
            refine rI ?_
            refine rStS F38 ?_
            intro h39 S39 F39
            refine rNil ?_
            refine ⟨rfl, h39, _, gn38, _, ?_, rfl, B38, F39, ?_, rfl, mLast, mTerms⟩
            rotate_left
            · rw [hsgn]; rfl
        · have hsgn : sgn p P R' = -1 := by unfold sgn; rw [if_neg hcn]
          refine iteF hcn ?_
          refine rNil ?_
          refine ⟨rfl, h38, _, gn38, _, ?_, rfl, B38, F38, ?_, rfl, mLast, mTerms⟩
          rotate_left
          · rw [hsgn]; rfl
      rintro s' ⟨h40, tk40, gn40, m40, tS, rfl, B40, F40, mSign, mDiv, mLast', mTerms'⟩
      refine rIf ?_
      refine isTrue_or ?_
      refine wpAny_isTrue_Compare1 ?_
      refine nL F40 mDiv ?_
      refine rList ?_
      refine spliced_none ?_
      refine rNewL ?_ (by simp [sizeLine])
      have F41 := F40.psh (LO [] 0)
      have hydl : yd.length ≠ 0 := by rw [hid.length, List.length_map, ed]; simp
      refine rEqLenL (LO.is (F41.at 1 rfl)) (LO.is (F41.at 0 rfl)) hydl (rm₁.le (by (clear hlen hlt hLL hvl hlN hn0 hp3 hn3 hp7 hP hP1 hP4 hR hR1 hRp hX hbX hbX2 hbP hD1 hD2 hD3 hcx hlq hqq hq qc hlul hlq18 hrl hvql hlw wlen tjl hlf hlF hlT hij hvl' hnb hnb2 hLg hLg2 hfl hlL hlD hCD hd2 hdl hsg hydl; omega))) ?_
      refine wpAny_truthy_bool ?_
      refine iteF (by simp) ?_
      have hd0 : ((divd p P R').map fun (x : Nat) => (x : Int))[0]? = some (d : Int) := by rw [ed]; rfl
      refine isTrue_or ?_
      refine wpAny_isTrue_Compare1 ?_
      refine wpAny_BinOp ?_
      refine wpAny_BinOp ?_
      refine nC (c := L + 1) rfl ⟨o9, F41.at 6 rfl, d9⟩ ?_
      refine nL F41 mSign ?_
      refine rSub ((p : Int) - sgn p P R') rfl ?_
      refine rSub1 ?_
      refine nL F41 mDiv ?_
      refine rI ?_
      refine rIxI (LO.is (F41.at 1 rfl)) hid 0 (d : Int) rfl hd0 (by decide) ?_
      intro t42
      refine rMod 0 (by (clear hlen hlt hLL hvl hlN hn0 hp3 hn3 hp7 hP hP1 hP4 hR hR1 hRp hX hbX hbX2 hbP hD1 hD2 hD3 hcx hlq hqq hq qc hlul hlq18 hrl hvql hlw wlen tjl hlf hlF hlT hij hvl' hnb hnb2 hLg hLg2 hfl hlL hlD hCD hdl hsg hydl; omega)) (by rw [Int.fmod_eq_emod_of_nonneg _ (by (clear hlen hlt hLL hvl hlN hn0 hp3 hn3 hp7 hP hP1 hP4 hR hR1 hRp hX hbX hbX2 hbP hD1 hD2 hD3 hcx hlq hqq hq qc hlul hlq18 hrl hvql hlw wlen tjl hlf hlF hlT hij hvl' hnb hnb2 hLg hLg2 hfl hlL hlD hCD hdl hsg hydl; omega))]; exact hsg) ?_
      refine rI ?_
      refine rNeI ?_
      refine wpAny_truthy_bool ?_
      refine iteF (by simp) ?_
      refine isTrue_or_nil ?_
      refine iteF (by simp) ?_
      refine rNil ?_
      refine rRet ?_
      refine BoolOp_and ?_
      refine wpAny_Compare1 ?_
      refine nL F41 mDiv ?_
      refine Call_ ?_
      refine nG G F41 rfl ?_
      refine rCW (F41.ok.at0 G rfl) rfl ?_
      refine spliced_more ?_
      refine rSub1 ?_
      refine nL F41 mDiv ?_
      refine rI ?_
      refine rIxI (LO.is (F41.at 1 rfl)) hid 0 (d : Int) rfl hd0 (by decide) ?_
      intro t43
      refine spliced_more ?_
      refine nL F41 mLast' ?_
      refine spliced_none ?_
      refine ⟨F41.ok.at0 G rfl, ?_⟩
      refine c_ls G F41.ok (rm₁.le (by (clear hlen hlt hLL hvl hlN hn0 hp3 hn3 hp7 hP hP1 hP4 hR hR1 hRp hX hbX hbX2 hbP hD1 hD2 hD3 hcx hlq hqq hq qc hlul hlq18 hrl hvql hlw wlen tjl hlf hlF hlT hij hvl' hnb hnb2 hLg hLg2 hfl hlL hlD hCD hd2 hdl hsg hydl; omega))) hd2 hdl (by (clear hlen hlt hLL hvl hlN hn0 hp3 hn3 hP hP1 hP4 hR hR1 hRp hX hbX hbX2 hbP hD1 hD2 hD3 hcx hlq hqq hq qc hlul hlq18 hrl hvql hlw wlen tjl hlf hlF hlT hij hvl' hnb hnb2 hLg hLg2 hfl hlL hlD hCD hd2 hdl hsg hydl; omega)) B40 ?_
      intro lS vS nS h42 gn42 tk42 k42 K42 B42 hlS elS hiS
      have F42 := F41.callA k42 K42 hlS elS
      have hid2 := hid
      rw [hdm, List.map_map] at hid2
      dsimp only
      refine rEqLL (LO.is (F42.at 2 rfl)) (LO.is elS) hid2 hiS (rm₁.le (by (clear hlen hlt hLL hvl hlN hn0 hp3 hn3 hp7 hP hP1 hP4 hR hR1 hRp hX hbX hbX2 hbP hD1 hD2 hD3 hcx hlq hqq hq qc hlul hlq18 hrl hvql hlw wlen tjl hlf hlF hlT hij hvl' hnb hnb2 hLg hLg2 hfl hlL hlD hCD hd2 hdl hsg hydl hlS; omega))) ?_
      refine wpAny_truthy_bool ?_
      refine iteT rfl ?_
      refine BoolOp_one ?_
      refine wpAny_Compare1 ?_
      refine nC (c := L + 2) rfl ⟨o31, F42.at 8 rfl, d31⟩ ?_
      refine rLC2 ?_
      refine nL F42 mTerms' ?_
      have htl : vt.length = lu.length := by rw [hit.length, List.length_map]
      refine rLCl (fun i v => ∃ t, v = .int ((lu.getD i 0 % p : Nat) : Int) t) F42.ok (LO.is (F42.at 4 rfl)) (F42.ok.nt (F42.lo0 (List.mem_of_getElem? (i := 4) rfl))) (by (clear hlen hlt hLL hvl hlN hn0 hp3 hn3 hP hP1 hP4 hR hR1 hRp hX hbX hbX2 hbP hD1 hD2 hD3 hcx hlq hqq hq qc hlul hlq18 hrl hvql hlw wlen tjl hlf hlF hlT hij hnb hnb2 hLg hLg2 hfl hlL hlD hCD hd2 hdl hsg hydl hlS htl; omega)) rm₁.hd B42 ?_ ?_
      · intro C T2 hp2 i v h2' tk2' m1 nw1 gn1 hi' _ hv B F2' K2' hm Q2 q'
        have hil3 : i < lu.length := by (clear hlen hlt hLL hvl hlN hn0 hp3 hn3 hp7 hP hP1 hP4 hR hR1 hRp hX hbX hbX2 hbP hD1 hD2 hD3 hcx hlq hqq hq qc hlq18 hrl hvql hlw wlen tjl hlf hlF hlT hij hnb hnb2 hLg hLg2 hfl hlL hlD hCD hd2 hdl hsg hydl hlS htl; omega)
        obtain ⟨tv, ev⟩ := hit.get i _ (by rw [List.getElem?_map, List.getElem?_eq_getElem hil3]; rfl)
        rw [hv] at ev
        cases ev
        have hgd : lu.getD i 0 = lu[i]'hil3 := by simp [List.getD, List.getElem?_eq_getElem hil3]
        refine wpAny_BinOp ?_
        refine nL F2' hm ?_
        refine nC (c := L + 1) rfl ⟨o9, K2'.at F42.ok hLg (F42.at 7 rfl), d9⟩ ?_
        refine rMod _ (by (clear hlen hlt hLL hvl hlN hn0 hp3 hn3 hP hP1 hP4 hR hR1 hRp hX hbX hbX2 hbP hD1 hD2 hD3 hcx hlq hqq hq qc hlul hlq18 hrl hvql hlw wlen tjl hlf hlF hlT hij hvl' hnb hnb2 hLg hLg2 hfl hlL hlD hCD hd2 hdl hsg hydl hlS htl hi' hgd; omega)) (fmod_nat _ _) ?_
        exact q' _ _ _ _ ⟨_, by rw [hgd]⟩ F2'.ok Kp.refl B
      intro lM h44 tk44 gn44 ym nm k44 K44 hlM elM alM B44
      have F44 := F42.callA k44 K44 hlM elM
      have him := alM.ints
      rw [htl, map_range_getD (fun x => ((x % p : Nat) : Int))] at him
      refine rEqLL (LO.is (F44.at 4 rfl)) (LO.is elM) hil him (rm₁.le (by (clear hlen hlt hLL hvl hlN hn0 hp3 hn3 hp7 hP hP1 hP4 hR hR1 hRp hX hbX hbX2 hbP hD1 hD2 hD3 hcx hlq hqq hq qc hlul hlq18 hrl hvql hlw wlen tjl hlf hlF hlT hij hvl' hnb hnb2 hLg hLg2 hfl hlL hlD hCD hd2 hdl hsg hydl hlS htl hlM; omega))) ?_
      exact h _ _ _ F44.ok B44
    · refine iteT (by simp; (clear hlen hlt hLL hvl hlN hn0 hp3 hn3 hp7 hP hP1 hP4 hR hR1 hRp hX hbX hbX2 hbP hD1 hD2 hD3 hcx hlq hqq hq qc hlul hlq18 hrl hvql hlw wlen tjl hlf hlF hlT; omega)) ?_
      refine rEx ?_
      refine rM ?_
      refine nL F' mTerms ?_
      refine rAppM (F'.at 0 rfl) ?_
      refine rCM ?_
      refine spliced_more ?_
      refine wpAny_BinOp ?_
      refine wpAny_BinOp ?_
      refine nL F' mOften ?_
      refine rSub1 ?_
      refine nL F' mTerms ?_
      refine wpAny_UnaryOp ?_
      refine rI ?_
      refine rNeg ?_
      have hg1 : ((luc P R' (j + 2) 0 1).map fun (x : Nat) => (x : Int))[j + 1]? = some (((luc P R' (j + 2) 0 1).getD (j + 1) 0 : Nat) : Int) := by
        have hl : j + 1 < (luc P R' (j + 2) 0 1).length := by rw [luc_len]; (clear hlen hlt hLL hvl hlN hn0 hp3 hn3 hp7 hP hP1 hP4 hR hR1 hRp hX hbX hbX2 hbP hD1 hD2 hD3 hcx hlq hqq hq qc hlul hlq18 hrl hvql hlw wlen tjl hlf hlF hlT hij hvl' hj; omega)
        rw [List.getElem?_map, List.getElem?_eq_getElem hl]; simp [List.getD, List.getElem?_eq_getElem hl]
      have hg0 : ((luc P R' (j + 2) 0 1).map fun (x : Nat) => (x : Int))[j]? = some (((luc P R' (j + 2) 0 1).getD j 0 : Nat) : Int) := by
        have hl : j < (luc P R' (j + 2) 0 1).length := by rw [luc_len]; (clear hlen hlt hLL hvl hlN hn0 hp3 hn3 hp7 hP hP1 hP4 hR hR1 hRp hX hbX hbX2 hbP hD1 hD2 hD3 hcx hlq hqq hq qc hlul hlq18 hrl hvql hlw wlen tjl hlf hlF hlT hij hvl' hj; omega)
        rw [List.getElem?_map, List.getElem?_eq_getElem hl]; simp [List.getD, List.getElem?_eq_getElem hl]
      have hsn := luc_snoc P R' j 0 1
      generalize (luc P R' (j + 2) 0 1).getD (j + 1) 0 = y1 at *
      generalize (luc P R' (j + 2) 0 1).getD j 0 = y0 at *
      refine rIxN (LO.is (F'.at 0 rfl)) hit 1 (y1 : Int) rfl (by decide) (by rw [hlenJ]; (clear hlen hlt hLL hvl hlN hn0 hp3 hn3 hp7 hP hP1 hP4 hR hR1 hRp hX hbX hbX2 hbP hD1 hD2 hD3 hcx hlq hqq hq qc hlul hlq18 hrl hvql hlw wlen tjl hlf hlF hlT hij hj; omega)) (by rw [hlenJ]; exact hg1) (by decide) ?_
      intro t5
      refine rMul ((P * y1 : Nat) : Int) (by push_cast; rfl) (.inl hbP) ?_
      refine wpAny_BinOp ?_
      refine nL F' mOnce ?_
      refine rSub1 ?_
      refine nL F' mTerms ?_
      refine wpAny_UnaryOp ?_
      refine rI ?_
      refine rNeg ?_
      refine rIxN (LO.is (F'.at 0 rfl)) hit 2 (y0 : Int) rfl (by decide) (by rw [hlenJ]; (clear hlen hlt hLL hvl hlN hn0 hp3 hn3 hp7 hP hP1 hP4 hR hR1 hRp hX hbX hbX2 hbP hD1 hD2 hD3 hcx hlq hqq hq qc hlul hlq18 hrl hvql hlw wlen tjl hlf hlF hlT hij hj; omega)) (by rw [hlenJ]; exact hg0) (by decide) ?_
      intro t6
      refine rMul ((R' * y0 : Nat) : Int) (by push_cast; rfl) (.inl (Nat.le_trans (bits_nat (a := R') (k := 3) (by (clear hlen hlt hLL hvl hlN hn0 hp3 hn3 hP hP1 hP4 hR hR1 hX hbX hbX2 hbP hD2 hD3 hcx hlq hqq hq qc hlul hlq18 hrl hvql hlw wlen tjl hlf hlF hlT hij hvl' hj; omega))) (by decide))) ?_
      refine rAdd ((P * y1 + R' * y0 : Nat) : Int) (by push_cast; rfl) ?_
      refine spliced_none ?_
      refine rAppendS F' 0 rfl (by (clear hlen hlt hLL hvl hlN hn0 hp3 hn3 hP hP1 hP4 hR hR1 hRp hX hbX hbX2 hbP hD1 hD2 hD3 hcx hlq hqq hq qc hlul hlq18 hrl hvql hlw wlen tjl hlf hlF hlT hj; omega)) ?_
      intro h8 S8 F8
      refine rNil ?_
      refine ⟨i - 1, by (clear hlen hlt hLL hvl hlN hn0 hp3 hn3 hp7 hP hP1 hP4 hR hR1 hRp hX hbX hbX2 hbP hD1 hD2 hD3 hcx hlq hqq hq qc hlul hlq18 hrl hvql hlw wlen tjl hlf hlF hlT; omega), hJ _ _ ⟨j + 1, h8, _, _, _, rfl, F8, ?_, by (clear hlen hlt hLL hvl hlN hn0 hp3 hn3 hp7 hP hP1 hP4 hR hR1 hRp hX hbX hbX2 hbP hD1 hD2 hD3 hcx hlq hqq hq qc hlul hlq18 hrl hvql hlw wlen tjl hlf hlF hlT; omega)⟩⟩
      rw [hsn, List.map_append]
      exact IntsAre.append hit (.cons _ _ .nil)
  · exact ⟨0, h25, _, vt, 0, rfl, F25', (by rw [show luc P R' (0 + 2) 0 1 = [1, P] from by simp [luc]]; exact hvt), by (clear hlen hlt hLL hvl hlN hn0 hp3 hn3 hp7 hP hP1 hP4 hR hR1 hRp hX hbX hbX2 hbP hD1 hD2 hD3 hcx hlq hqq hq qc hlul hlq18 hrl hvql hlw wlen tjl hlf hlF hlT; omega)⟩
end Mine

theorem PySem.Challenge.cw_we0018_02_holds : PySem.Challenge.rw_we0018_02.Holds := by
  refine Mine.hd ?_
  k_fill
  intro w s₀ s₁ mg mb G Y fa o pm cd doc dV kV ho hd hcd hD hmg hg args vals as hpre hlay hrd hwl hlo
  have KX := km_in_of Y
  km_tabs Y
  have X := (Ground.X G).1
  have V := (Ground.X G).2
  refine Ground.open G ?_
  intro T B D TE TW
  wrow_args hpre hlay hrd hwl hlo
  first | refine callC_kw (enter_call ?_) | refine enter_call ?_
  have Gl := Mine.gd_of T KX hT8
  obtain ⟨hp1, gn1, dr1, tk1, os1⟩ := s₁
  cases hg
  have hLst := ‹Heap.IsList _ _ _›
  have hInt := ‹IntsAre _ _›
  refine Mine.c_law Gl hmg ⟨rfl, by decide, by decide⟩ hLst hInt (by omega) (fun hm => by
    have e := Gl.tb _ hm
    obtain ⟨o, e2, c, _⟩ := hLst
    rw [e] at e2
    cases e2
    cases c) ?_
  intro h' gn' tks k B
  exact Mine.law_end (s₁ := ⟨hp1, #[], dr1, tk1, os1⟩) Gl k B (fun _ => rfl) (by first | rfl | (with_unfolding_all rfl) | decide | (simp [OpenRow.claim]; done) | skip)
